import JvmDerived
import JvmDerived.Pilot.@@N@@Statement
import JvmDerived.Pilot.@@N@@Code
set_option linter.unusedVariables false
set_option linter.unusedSimpArgs false
namespace Jvm.RoadKit
open Sem ClassFile Op Lib Jvm.Stand Jvm.Free Jvm.LawKit
section New
variable {p : Program} {l : Launch} {e : Env} {R : Room} {s : State} {m : MethodId} {args : Array Value} {below : List Frame} {meth : Method} {c : Code} {T : State} {locs : List Loc} {cells slots : Nat}
theorem retI (X : Stand p l e R s m args below meth c T locs cells slots) (hx : p.tables.exec = Jvm.exec) {pc : Nat} {Ls : Array Slot} {z : Int32} {rest : List Value} (hret : meth.sig.returnType = some .int) (hd : decode c.code pc = .ok (.ireturn, 1)) {fs : List Frame}
    (hl : ∀ (f : JFrame) (acts : List Action), f.method = m → f.locked = none → f.entered = [] → (doReturn e (T.setTop f) acts (some (.int z))).1 = T.setFrames fs) : Steps p.tables e below (T.setTop (mkF m pc Ls (.int z :: rest))) (T.setFrames fs) := by
  have hm' : T.vm.method? m = some meth := X.method'
  have hn : narrow .int (.int z) = .int z := rfl
  show Steps p.tables e below (T.setTop { method := m, pc := pc, locals := Ls, stack := _ :: rest, locked := none }) _
  jvm_step X.here [X.here.top, hx, hd, hm', hret, hn]
  first | (intro acts; rw [hl _ acts rfl rfl rfl]) | rw [hl _ _ rfl rfl rfl]
  exact Steps.refl _
end New
end Jvm.RoadKit
namespace Jvm.Pilot.@@N@@
open Jvm Jvm.ClassFile Sem Op Lib Jvm.Free Jvm.Stand Jvm.LawKit Jvm.RoadKit Bundle Jvm.Pilot.@@N@@.Jvm.D

theorem wd {Z : State} {a0 : Array Value} (hw : ∀ d ∈ tables_1, d.before a0 Z = true) (i : Nat) {d : Jvm.Cond} (h : tables_1[i]? = some d) : d.before a0 Z = true := hw _ (List.mem_of_getElem? h)
abbrev vI (x : Int32) : Slot := .val (.int x)
abbrev vR (a : Addr) : Slot := .val (.ref a)
abbrev vU : Slot := .unset
abbrev At (p : Program) (e : Env) (below : List Frame) (T : State) (m : MethodId) (pc : Nat) (Ls : Array Slot) (S : List Value) (t : State) : Prop := Steps p.tables e below (T.setTop (mkF m pc Ls S)) t
theorem own_wS {Z : State} {a0 : Array Value} (hw : ∀ d ∈ tables_1, d.before a0 Z = true) : ∀ a ∈ Bundle.stringAtoms, a.before a0 Z = true := fun a ha => by
  simp only [Bundle.stringAtoms, List.mem_cons, List.not_mem_nil, or_false] at ha
  rcases ha with rfl | rfl | rfl | rfl | rfl | rfl | rfl
  · exact hw _ (List.mem_of_getElem? (i := 5) rfl)
  · exact hw _ (List.mem_of_getElem? (i := 4) rfl)
  · exact hw _ (List.mem_of_getElem? (i := 17) rfl)
  · exact hw _ (List.mem_of_getElem? (i := 18) rfl)
  · exact hw _ (List.mem_of_getElem? (i := 19) rfl)
  · exact hw _ (List.mem_of_getElem? (i := 20) rfl)
  · exact hw _ (List.mem_of_getElem? (i := 21) rfl)

theorem own_EL {Z : State} {a0 : Array Value} (hw : ∀ d ∈ tables_1, d.before a0 Z = true) : EW Z a0 [("java/lang/String", (7 : Nat))] := EW.cons (text := "") (wd hw 16 rfl) (by first | decide | simp) EW.nil
/-- a String whose array is not set yet is no held constant's -/
theorem own_safe {Z : State} {EL : List (String × Nat)} {vm : Vm} {h : Heap} {x : Addr} (hal : Z.vm.Alike vm) (E : Exa Z h x "java/lang/String") (F : Fld Z h x "java/lang/String" "value" "[B" .null) : Safe Z EL vm h x := fun B => by
  obtain ⟨cell, cf, k, i, f, h1, hf, -, -, -, -, hs⟩ := F
  obtain ⟨cell2, k2, e1, e2, -, -, -⟩ := E
  cases h1.symm.trans e1
  obtain ⟨p, -, u, a, -, q, -, G, rfl | rfl⟩ := B
  · cases (show h[q.sa]? = some q.sC from G.ha).symm.trans e1
    obtain ⟨cS, ⟨⟨-, -, -, ⟨c1, k1, i1, f1, -⟩, -, -, -, v1, -⟩, -⟩, -⟩ := G
    obtain ⟨k3, e3, -⟩ := State.fieldFound?_setVm (s := Z) hal hf
    have e4 := (show (Wst Z vm h).fieldFound? _ _ _ = _ from e3).symm.trans f1
    simp only [Option.some.injEq, Prod.mk.injEq] at e4
    rw [e4.2.2.2, v1] at hs
    cases hs
  · cases (show h[q.sd]? = some q.SA from G.hd).symm.trans e1
    obtain ⟨cS, -, -, f3, -⟩ := G
    have f4 : Z.vm.findClass "[B" = some q.SA.cls := by rw [← hal.findClass]; exact f3
    obtain ⟨k1, q1, q2⟩ := Vm.findClass_spec f4
    obtain ⟨k3, q3, q4⟩ := Vm.findClass_spec e2
    cases q1.symm.trans q3
    exact absurd (q2.symm.trans q4) (by decide)

def own_max (p q : Int32) : Int32 := if p < q then q else p
def own_min (p q : Int32) : Int32 := if q < p then q else p
def own_w (q : Int32) : Int32 := if q = (42 : Int32) then 1 else if q = (63 : Int32) then 1 else 0
def own_gc (u v : Int32) : Int32 := nar .char ((((u &&& (255 : Int32)) <<< ((0 : Int32) &&& 31)) ||| ((v &&& (255 : Int32)) <<< ((8 : Int32) &&& 31))).toUInt32.toUInt16.toUInt32.toInt32)
def own_R (q : Int32) : Prop := ¬ (q < (0 : Int32)) ∧ ¬ ((65535 : Int32) < q)
def own_P (qs : List Int32) : Prop := (42 : Int32) ∈ qs ∨ (63 : Int32) ∈ qs
theorem own_bit (y : BitVec 32) : ((y.signExtend 8).signExtend 32).signExtend 8 = y.signExtend 8 := by
  apply BitVec.eq_of_getLsbD_eq
  intro i hi
  simp only [BitVec.getLsbD_signExtend]
  have h1 : i < 32 := by omega
  simp [hi, h1]
theorem own_bit2 (y : BitVec 32) : ((y.signExtend 8).signExtend 32) &&& 255#32 = y &&& 255#32 := by
  apply BitVec.eq_of_getLsbD_eq
  intro i hi
  rw [BitVec.getLsbD_and, BitVec.getLsbD_and]
  by_cases h : i < 8
  · rw [BitVec.getLsbD_signExtend, BitVec.getLsbD_signExtend]
    simp [h, hi]
  · have e : (255#32).getLsbD i = false := by
      show Nat.testBit 255 i = false
      exact Nat.testBit_lt_two_pow (Nat.lt_of_lt_of_le (by decide : 255 < 2 ^ 8) (Nat.pow_le_pow_right (by decide) (by omega)))
    rw [e, Bool.and_false, Bool.and_false]
theorem own_b (y : Int32) : ((nar .byte (y.toInt8.toInt32)) &&& 255).toBitVec = y.toBitVec &&& 255#32 := by
  rw [Int32.toBitVec_and]
  show ((((y.toBitVec.signExtend 8).signExtend 32).signExtend 8).signExtend 32) &&& 255#32 = _
  rw [own_bit, own_bit2]
theorem own_sl (a : Int32) : (a <<< ((8 : Int32) &&& 31)).toBitVec = a.toBitVec <<< 8 := rfl
theorem own_sl0 (a : Int32) : (a <<< ((0 : Int32) &&& 31)).toBitVec = a.toBitVec := by
  show a.toBitVec <<< 0 = _
  simp
theorem own_sr (a : Int32) : (a >>> ((8 : Int32) &&& 31)).toBitVec = a.toBitVec.sshiftRight 8 := rfl
theorem own_sr0 (a : Int32) : (a >>> ((0 : Int32) &&& 31)).toBitVec = a.toBitVec := by
  show a.toBitVec.sshiftRight 0 = _
  simp
theorem own_255 (i : Nat) : (255#32).getLsbD i = decide (i < 8) := by
  by_cases h : i < 8
  · rcases i with _|_|_|_|_|_|_|_|i <;> first | rfl | omega
  · have e : (255#32).getLsbD i = false := by
      show Nat.testBit 255 i = false
      exact Nat.testBit_lt_two_pow (Nat.lt_of_lt_of_le (by decide : 255 < 2 ^ 8) (Nat.pow_le_pow_right (by decide) (by omega)))
    rw [e]; simp [h]
theorem own_gcq {q : Int32} (h : own_R q) : own_gc (nar .byte ((q >>> ((0 : Int32) &&& 31)).toInt8.toInt32)) (nar .byte ((q >>> ((8 : Int32) &&& 31)).toInt8.toInt32)) = q := by
  have hb : q.toBitVec.toNat < 65536 := by
    obtain ⟨h1, h2⟩ := h
    rw [Int32.lt_iff_toInt_lt] at h1 h2
    have e0 : (0 : Int32).toInt = 0 := by decide
    have e1 : (65535 : Int32).toInt = 65535 := by decide
    have e2 : q.toInt = q.toBitVec.toInt := rfl
    rw [BitVec.toInt_eq_toNat_cond] at e2
    have := q.toBitVec.isLt
    split at e2 <;> omega
  have hz : ∀ i, 16 ≤ i → q.toBitVec.getLsbD i = false := fun i hi => by
    show q.toBitVec.toNat.testBit i = false
    exact Nat.testBit_lt_two_pow (Nat.lt_of_lt_of_le (show _ < 2 ^ 16 from hb) (Nat.pow_le_pow_right (by decide) hi))
  apply Int32.toBitVec_inj.mp
  show ((((((nar .byte ((q >>> ((0 : Int32) &&& 31)).toInt8.toInt32) &&& (255 : Int32)) <<< ((0 : Int32) &&& 31)) ||| ((nar .byte ((q >>> ((8 : Int32) &&& 31)).toInt8.toInt32) &&& (255 : Int32)) <<< ((8 : Int32) &&& 31))).toBitVec.setWidth 16).setWidth 32).setWidth 16).setWidth 32 = q.toBitVec
  rw [Int32.toBitVec_or, own_sl, own_sl0, own_b, own_b, own_sr, own_sr0]
  apply BitVec.eq_of_getLsbD_eq
  intro i hi
  by_cases k : i < 16
  · simp only [BitVec.getLsbD_setWidth, BitVec.getLsbD_or, BitVec.getLsbD_and, BitVec.getLsbD_shiftLeft, own_255, BitVec.getLsbD_sshiftRight]
    by_cases j : i < 8
    · simp [hi, k, j]
    · have a1 : i - 8 < 8 := by omega
      have a2 : 8 + (i - 8) = i := by omega
      have a3 : ¬ 32 ≤ i - 8 := by omega
      simp [hi, k, j, a1, a2]
      try omega
  · rw [hz i (by omega)]
    simp only [BitVec.getLsbD_setWidth]
    simp [k]
theorem own_Rn (x : Int32) : own_R (nar .char x) := by
  have h := fits_nar_char x
  simp only [fits, Bool.and_eq_true, decide_eq_true_eq] at h
  rw [Int32.le_iff_toInt_le, Int32.le_iff_toInt_le] at h
  refine ⟨fun q => ?_, fun q => ?_⟩ <;> rw [Int32.lt_iff_toInt_lt] at q <;> omega
theorem own_byf : ∀ i : Fin 256, ((nar .byte ((Int32.ofNat i.val).toInt8.toInt32) = ((42 : Int32).toInt8.toInt32)) ↔ Int32.ofNat i.val = 42) ∧ ((nar .byte ((Int32.ofNat i.val).toInt8.toInt32) = ((63 : Int32).toInt8.toInt32)) ↔ Int32.ofNat i.val = 63) := by decide +kernel
theorem own_small {q : Int32} (h : ¬ (q < (0 : Int32))) (g : ¬ ((255 : Int32) < q)) : ∃ i : Fin 256, q = Int32.ofNat i.val := by
  rw [Int32.lt_iff_toInt_lt] at h g
  have e0 : (0 : Int32).toInt = 0 := by decide
  have e1 : (255 : Int32).toInt = 255 := by decide
  refine ⟨⟨q.toInt.toNat, by omega⟩, ?_⟩
  apply Int32.toInt_inj.mp
  rw [Int32.toInt_ofNat_of_lt (by show q.toInt.toNat < 2 ^ 31; omega)]
  show q.toInt = ((q.toInt.toNat : Nat) : Int)
  omega
theorem own_by {q ch : Int32} (h : own_R q) (g : ¬ ((255 : Int32) < q)) (hc : ch = 42 ∨ ch = 63) : (nar .byte (q.toInt8.toInt32)) = (ch.toInt8.toInt32) ↔ q = ch := by
  obtain ⟨i, rfl⟩ := own_small h.1 g
  rcases hc with rfl | rfl
  · exact (own_byf i).1
  · exact (own_byf i).2
theorem own_c0 {ch : Int32} (hc : ch = 42 ∨ ch = 63) : ¬ (ch < (0 : Int32)) := by rcases hc with rfl | rfl <;> decide
theorem own_c1 {ch : Int32} (hc : ch = 42 ∨ ch = 63) : ¬ ((255 : Int32) < ch) := by rcases hc with rfl | rfl <;> decide
theorem own_c2 {ch : Int32} (hc : ch = 42 ∨ ch = 63) : ch < (65536 : Int32) := by rcases hc with rfl | rfl <;> decide
theorem own_no {ch q : Int32} {qs : List Int32} (h : ¬ (q = ch)) (g : ¬ (ch ∈ qs)) : ¬ (ch ∈ q :: qs) := fun z => by
  rcases List.mem_cons.mp z with e | e
  · exact h e.symm
  · exact g e
theorem own_nil {ch : Int32} : ¬ (ch ∈ ([] : List Int32)) := fun z => by cases z
theorem own_here {ch q : Int32} {qs : List Int32} (h : q = ch) : ch ∈ q :: qs := by subst h; exact List.mem_cons_self
theorem own_there {ch q : Int32} {qs : List Int32} (h : ch ∈ qs) : ch ∈ q :: qs := List.mem_cons_of_mem _ h
def own_nn (p : Int32) : Int32 := (p &&& (2147483647 : Int32)) % (5 : Int32)
def own_x (p : Int32) : Int32 := (p &&& (65535 : Int32)).toUInt32.toUInt16.toUInt32.toInt32
theorem own_n4' {p : Int32} (h0 : ¬ (((p &&& (2147483647 : Int32)) % (5 : Int32)) = (0 : Int32))) (h1 : ¬ (((p &&& (2147483647 : Int32)) % (5 : Int32)) = (1 : Int32))) (h2 : ¬ (((p &&& (2147483647 : Int32)) % (5 : Int32)) = (2 : Int32))) (h3 : ¬ (((p &&& (2147483647 : Int32)) % (5 : Int32)) = (3 : Int32))) : ((p &&& (2147483647 : Int32)) % (5 : Int32)) = (4 : Int32) := by
  have hb : 0 ≤ (p &&& (2147483647 : Int32)).toInt := by
    have h : (p &&& (2147483647 : Int32)).toBitVec.toNat ≤ 2147483647 := by
      rw [Int32.toBitVec_and, BitVec.toNat_and]
      exact Nat.le_trans Nat.and_le_right (by decide)
    show 0 ≤ (p &&& (2147483647 : Int32)).toBitVec.toInt
    rw [BitVec.toInt_eq_toNat_cond, if_pos (by omega)]
    omega
  have e5 : (5 : Int32).toInt = 5 := by decide
  have er : ((p &&& (2147483647 : Int32)) % (5 : Int32)).toInt = (p &&& (2147483647 : Int32)).toInt.tmod 5 := by rw [Int32.toInt_mod, e5]
  have hm : (p &&& (2147483647 : Int32)).toInt.tmod 5 = (p &&& (2147483647 : Int32)).toInt % 5 := Int.tmod_eq_emod_of_nonneg hb
  have a0 : (0 : Int32).toInt = 0 := by decide
  have a1 : (1 : Int32).toInt = 1 := by decide
  have a2 : (2 : Int32).toInt = 2 := by decide
  have a3 : (3 : Int32).toInt = 3 := by decide
  have a4 : (4 : Int32).toInt = 4 := by decide
  have k0 : ¬ ((p &&& (2147483647 : Int32)) % (5 : Int32)).toInt = 0 := fun q => h0 (Int32.toInt_inj.mp (q.trans a0.symm))
  have k1 : ¬ ((p &&& (2147483647 : Int32)) % (5 : Int32)).toInt = 1 := fun q => h1 (Int32.toInt_inj.mp (q.trans a1.symm))
  have k2 : ¬ ((p &&& (2147483647 : Int32)) % (5 : Int32)).toInt = 2 := fun q => h2 (Int32.toInt_inj.mp (q.trans a2.symm))
  have k3 : ¬ ((p &&& (2147483647 : Int32)) % (5 : Int32)).toInt = 3 := fun q => h3 (Int32.toInt_inj.mp (q.trans a3.symm))
  apply Int32.toInt_inj.mp
  rw [a4]
  omega
theorem own_n4 {p : Int32} (h0 : ¬ (own_nn p = (0 : Int32))) (h1 : ¬ (own_nn p = (1 : Int32))) (h2 : ¬ (own_nn p = (2 : Int32))) (h3 : ¬ (own_nn p = (3 : Int32))) : own_nn p = (4 : Int32) := own_n4' h0 h1 h2 h3
theorem own_nc' (x : Int32) : nar .char (x.toUInt32.toUInt16.toUInt32.toInt32) = x.toUInt32.toUInt16.toUInt32.toInt32 := by
  show (x.toUInt32.toUInt16.toUInt32.toInt32).toUInt32.toUInt16.toUInt32.toInt32 = _
  have e : (x.toUInt32.toUInt16.toUInt32.toInt32).toUInt32 = x.toUInt32.toUInt16.toUInt32 := rfl
  rw [e]
  have e2 : ∀ u : UInt16, u.toUInt32.toUInt16 = u := fun u => by simp
  rw [e2]
theorem own_nc (p : Int32) : nar .char (own_x p) = own_x p := own_nc' _
theorem own_w1 {q : Int32} {qs : List Int32} (h : ¬ (own_w q = (0 : Int32))) : own_P (q :: qs) := by
  unfold own_w at h
  split at h
  · rename_i e; exact Or.inl (own_here e)
  · split at h
    · rename_i e; exact Or.inr (own_here e)
    · exact absurd rfl h
theorem own_w0 {q : Int32} {qs : List Int32} (h : own_w q = (0 : Int32)) (g : ¬ own_P qs) : ¬ own_P (q :: qs) := by
  unfold own_w at h
  split at h
  · cases h
  · split at h
    · cases h
    · rename_i e1 e2
      rintro (z | z)
      · exact own_no e1 (fun y => g (Or.inl y)) z
      · exact own_no e2 (fun y => g (Or.inr y)) z
theorem own_wn : ¬ own_P [] := by rintro (z | z) <;> cases z
theorem own_wt {q : Int32} {qs : List Int32} (h : own_P qs) : own_P (q :: qs) := h.imp own_there own_there
theorem own_r1 {r : Int32} {P : Prop} (h : (r = (1 : Int32) ∧ P) ∨ (r = (0 : Int32) ∧ ¬ P)) (p : P) : r = (1 : Int32) := h.elim (fun q => q.1) (fun q => absurd p q.2)
theorem own_r0 {r : Int32} {P : Prop} (h : (r = (1 : Int32) ∧ P) ∨ (r = (0 : Int32) ∧ ¬ P)) (p : ¬ P) : r = (0 : Int32) := h.elim (fun q => absurd q.2 p) (fun q => q.1)
def own_str (Z : State) (h : Heap) (a : Addr) (z z2 : Int32) (bs ws : List Value) (lat uni : Prop) : Prop := Exa Z h a "java/lang/String" ∧ ∃ (b : Addr) (k : ClassId), Fld Z h a "java/lang/String" "value" "[B" (.ref b) ∧ ((lat ∧ Fld Z h a "java/lang/String" "coder" "B" (.int 0) ∧ Arv Z h b k .byte z bs (.int 0)) ∨ (uni ∧ Fld Z h a "java/lang/String" "coder" "B" (.int 1) ∧ Arv Z h b k .byte z2 ws (.int 0)))
theorem pn_0 : plainName "beanforge/core/PathPatternIsPatternPinLaw" = true := by first | (simp [plainName, overriddenIn]; done) | decide +kernel
theorem ef_17 (m : MethodId) (q : Int32) : entryFrame m #[(.int q)] 1 = (mkF m 0 #[vI q] []) := by first | (simp [entryFrame, mkF, argsToLocals, Value.category]; done) | rfl
theorem d17_0 : decode method_2_code 0 = .ok (.iload_n 0, 1) := by decide +kernel
theorem d17_1 : decode method_2_code 1 = .ok (.bipush 42, 2) := by decide +kernel
theorem d17_3 : decode method_2_code 3 = .ok (.if_icmp .eq 9, 3) := by decide +kernel
theorem d17_12 : decode method_2_code 12 = .ok (.iconst 1, 1) := by decide +kernel
theorem d17_13 : decode method_2_code 13 = .ok (.goto 4, 3) := by decide +kernel
theorem d17_17 : decode method_2_code 17 = .ok (.ireturn, 1) := by decide +kernel
theorem d17_6 : decode method_2_code 6 = .ok (.iload_n 0, 1) := by decide +kernel
theorem d17_7 : decode method_2_code 7 = .ok (.bipush 63, 2) := by decide +kernel
theorem d17_9 : decode method_2_code 9 = .ok (.if_icmp .ne 7, 3) := by decide +kernel
theorem d17_16 : decode method_2_code 16 = .ok (.iconst 0, 1) := by decide +kernel
def Q17 (Z : State) (q : Int32) (h0 : Heap) (n0 : Nat) (v : Option Value) (h : Heap) (L : List Loc) : Prop := v = some (.int (own_w q)) ∧ Fr n0 L ∧ h = h0
set_option maxRecDepth 65536 in
set_option maxHeartbeats 40000000 in
theorem rm17 (l : Launch) (Z : State) (a0 : Array Value) (hw : ∀ d ∈ tables_1, d.before a0 Z = true) (ws : List Jvm.Cond) (q : Int32) (h0 : Heap) (n0 : Nat) (Z0 : n0 ≤ h0.size) :
    MetFree l (⟨"beanforge/core/PathPatternIsPatternPinLaw", "wild", "(C)Z"⟩ : MethodName) (head1 (Jvm.Cond.code (⟨"beanforge/core/PathPatternIsPatternPinLaw", "wild", "(C)Z"⟩ : MethodName) method_2_code 1 (some .boolean) :: ws) ({ frames := 0, cells := 0, slots := 0, locals := 0 } : Room)) (fun a U => a = #[(.int q)] ∧ Z.Warmed39 U.vm ∧ U.heap = h0) (fun _ _ _ _ _ => True) (fun _ U o U' => ∃ v L, o = .returned v ∧ Q17 Z q h0 n0 v U'.heap L ∧ FrameEnd U o U' L ({ frames := 0, cells := 0, slots := 0, locals := 0 } : Room).cells ({ frames := 0, cells := 0, slots := 0, locals := 0 } : Room).slots) := by
  refine MetFree.of_bodySF (plainFor_of_name pn_0) hisR ?_
  intro p e s m args below meth c s₁ Bd hml0 hP hK
  obtain ⟨rfl, hZ, hh⟩ := hP
  have hx := Bd.exec
  have hby := Bd.bytes
  have hml : c.maxLocals = 1 := hml0
  have hown : s.vm.findClass "beanforge/core/PathPatternIsPatternPinLaw" = some m.cls := findClass_of_methodNamed Bd.named
  have hnm := (name_of_methodNamed Bd.named Bd.method).1
  have X0 : Stand p l e ({ frames := 0, cells := 0, slots := 0, locals := 0 } : Room) s m #[(.int q)] below meth c s₁ [] 0 0 := Stand.of_body Bd
  have e0 : s₁.heap = h0 := by rw [← hh, Bd.state]; rfl
  have N0 := Fr.nil n0
  have pre0 : ∀ t, At p e below s₁ m 0 #[vI q] [] t → Steps p.tables e below (s₁.setTop (entryFrame m #[(.int q)] 1)) t := fun t k => castTop (ef_17 m q) k
  have pre1 := fun t (kt : At p e below s₁ m 3 #[vI q] [(.int 42), (.int q)] t) => pre0 t (by
    show At p e below s₁ m 0 #[vI q] [] _
    refine XS.iloadN X0.here hx rfl (hb hby d17_0) rfl ?_
    show At p e below s₁ m 1 #[vI q] [(.int q)] _
    refine XS.bipush X0.here hx rfl (hb hby d17_1) ?_
    exact kt)
  by_cases c1 : q = (42 : Int32)
  · have pre2 := fun t (kt : At p e below s₁ m 17 #[vI q] [(.int 1)] t) => pre1 t (by
      show At p e below s₁ m 3 #[vI q] [(.int 42), (.int q)] _
      refine XS.icmpYes X0.here hx rfl (pc0 := 3) (pc' := 12) rfl (hb hby d17_3) rfl (teq (c1 : q = (42 : Int32))).1 (by decide) (by decide) ?_
      show At p e below s₁ m 12 #[vI q] [] _
      refine XS.iconst X0.here hx rfl (hb hby d17_12) ?_
      show At p e below s₁ m 13 #[vI q] [(.int 1)] _
      refine XS.goto X0.here hx rfl (pc0 := 13) (pc' := 17) rfl (hb hby d17_13) (by decide) (by decide) ?_
      exact kt)
    have ev : own_w q = (1 : Int32) := if_pos c1
    obtain ⟨fs, hr, hrun, hended, hW, hsame⟩ := X0.leave (v := (some (.int 1))) (fun h => by rw [Bd.returns] at h; cases h)
    refine ⟨_, _, pre2 _ ?_, hrun, hended, _, _, rfl, ?_, ⟨_, rfl⟩, hW, hsame.mono (by decide) (by decide)⟩
    · show At p e below s₁ m 17 #[vI q] [(.int 1)] _
      exact retN X0 hx (t := .boolean) Bd.returns (by simp) (hb hby d17_17) hr
    · show Q17 Z q h0 n0 _ s₁.heap _
      rw [e0]
      exact ⟨by rw [ev], N0, rfl⟩
  · have pre3 := fun t (kt : At p e below s₁ m 9 #[vI q] [(.int 63), (.int q)] t) => pre1 t (by
      show At p e below s₁ m 3 #[vI q] [(.int 42), (.int q)] _
      refine XS.icmpNo X0.here hx rfl (hb hby d17_3) rfl (feq (c1 : ¬ (q = (42 : Int32)))).1 ?_
      show At p e below s₁ m 6 #[vI q] [] _
      refine XS.iloadN X0.here hx rfl (hb hby d17_6) rfl ?_
      show At p e below s₁ m 7 #[vI q] [(.int q)] _
      refine XS.bipush X0.here hx rfl (hb hby d17_7) ?_
      exact kt)
    by_cases c2 : q = (63 : Int32)
    · have pre4 := fun t (kt : At p e below s₁ m 17 #[vI q] [(.int 1)] t) => pre3 t (by
        show At p e below s₁ m 9 #[vI q] [(.int 63), (.int q)] _
        refine XS.icmpNo X0.here hx rfl (hb hby d17_9) rfl (teq (c2 : q = (63 : Int32))).2 ?_
        show At p e below s₁ m 12 #[vI q] [] _
        refine XS.iconst X0.here hx rfl (hb hby d17_12) ?_
        show At p e below s₁ m 13 #[vI q] [(.int 1)] _
        refine XS.goto X0.here hx rfl (pc0 := 13) (pc' := 17) rfl (hb hby d17_13) (by decide) (by decide) ?_
        exact kt)
      have ev : own_w q = (1 : Int32) := (if_neg c1).trans (if_pos c2)
      obtain ⟨fs, hr, hrun, hended, hW, hsame⟩ := X0.leave (v := (some (.int 1))) (fun h => by rw [Bd.returns] at h; cases h)
      refine ⟨_, _, pre4 _ ?_, hrun, hended, _, _, rfl, ?_, ⟨_, rfl⟩, hW, hsame.mono (by decide) (by decide)⟩
      · show At p e below s₁ m 17 #[vI q] [(.int 1)] _
        exact retN X0 hx (t := .boolean) Bd.returns (by simp) (hb hby d17_17) hr
      · show Q17 Z q h0 n0 _ s₁.heap _
        rw [e0]
        exact ⟨by rw [ev], N0, rfl⟩
    · have pre5 := fun t (kt : At p e below s₁ m 17 #[vI q] [(.int 0)] t) => pre3 t (by
        show At p e below s₁ m 9 #[vI q] [(.int 63), (.int q)] _
        refine XS.icmpYes X0.here hx rfl (pc0 := 9) (pc' := 16) rfl (hb hby d17_9) rfl (feq (c2 : ¬ (q = (63 : Int32)))).2 (by decide) (by decide) ?_
        show At p e below s₁ m 16 #[vI q] [] _
        refine XS.iconst X0.here hx rfl (hb hby d17_16) ?_
        exact kt)
      have ev : own_w q = (0 : Int32) := (if_neg c1).trans (if_neg c2)
      obtain ⟨fs, hr, hrun, hended, hW, hsame⟩ := X0.leave (v := (some (.int 0))) (fun h => by rw [Bd.returns] at h; cases h)
      refine ⟨_, _, pre5 _ ?_, hrun, hended, _, _, rfl, ?_, ⟨_, rfl⟩, hW, hsame.mono (by decide) (by decide)⟩
      · show At p e below s₁ m 17 #[vI q] [(.int 0)] _
        exact retN X0 hx (t := .boolean) Bd.returns (by simp) (hb hby d17_17) hr
      · show Q17 Z q h0 n0 _ s₁.heap _
        rw [e0]
        exact ⟨by rw [ev], N0, rfl⟩
theorem pn_1 : plainFor (⟨"java/lang/Math", "max", "(II)I"⟩ : MethodName) = true := by decide +kernel
theorem ef_12 (m : MethodId) (p1 : Int32) (p2 : Int32) : entryFrame m #[(.int p1), (.int p2)] 2 = (mkF m 0 #[vI p1, vI p2] []) := by first | (simp [entryFrame, mkF, argsToLocals, Value.category]; done) | rfl
theorem d12_0 : decode jdk_29_method_65_code 0 = .ok (.iload_n 0, 1) := by decide +kernel
theorem d12_1 : decode jdk_29_method_65_code 1 = .ok (.iload_n 1, 1) := by decide +kernel
theorem d12_2 : decode jdk_29_method_65_code 2 = .ok (.if_icmp .lt 7, 3) := by decide +kernel
theorem d12_9 : decode jdk_29_method_65_code 9 = .ok (.iload_n 1, 1) := by decide +kernel
theorem d12_10 : decode jdk_29_method_65_code 10 = .ok (.ireturn, 1) := by decide +kernel
theorem d12_5 : decode jdk_29_method_65_code 5 = .ok (.iload_n 0, 1) := by decide +kernel
theorem d12_6 : decode jdk_29_method_65_code 6 = .ok (.goto 4, 3) := by decide +kernel
def Q12 (Z : State) (p1 : Int32) (p2 : Int32) (h0 : Heap) (n0 : Nat) (v : Option Value) (h : Heap) (L : List Loc) : Prop := v = some (.int (own_max p1 p2)) ∧ Fr n0 L ∧ h = h0
set_option maxRecDepth 65536 in
set_option maxHeartbeats 40000000 in
theorem rm12 (l : Launch) (Z : State) (a0 : Array Value) (hw : ∀ d ∈ tables_1, d.before a0 Z = true) (ws : List Jvm.Cond) (p1 : Int32) (p2 : Int32) (h0 : Heap) (n0 : Nat) (Z0 : n0 ≤ h0.size) :
    MetFree l (⟨"java/lang/Math", "max", "(II)I"⟩ : MethodName) (head1 (Jvm.Cond.code (⟨"java/lang/Math", "max", "(II)I"⟩ : MethodName) jdk_29_method_65_code 2 (some .int) :: ws) ({ frames := 0, cells := 0, slots := 0, locals := 0 } : Room)) (fun a U => a = #[(.int p1), (.int p2)] ∧ Z.Warmed39 U.vm ∧ U.heap = h0) (fun _ _ _ _ _ => True) (fun _ U o U' => ∃ v L, o = .returned v ∧ Q12 Z p1 p2 h0 n0 v U'.heap L ∧ FrameEnd U o U' L ({ frames := 0, cells := 0, slots := 0, locals := 0 } : Room).cells ({ frames := 0, cells := 0, slots := 0, locals := 0 } : Room).slots) := by
  refine MetFree.of_bodySF pn_1 hisR ?_
  intro p e s m args below meth c s₁ Bd hml0 hP hK
  obtain ⟨rfl, hZ, hh⟩ := hP
  have hx := Bd.exec
  have hby := Bd.bytes
  have hml : c.maxLocals = 2 := hml0
  have hown : s.vm.findClass "java/lang/Math" = some m.cls := findClass_of_methodNamed Bd.named
  have hnm := (name_of_methodNamed Bd.named Bd.method).1
  have X0 : Stand p l e ({ frames := 0, cells := 0, slots := 0, locals := 0 } : Room) s m #[(.int p1), (.int p2)] below meth c s₁ [] 0 0 := Stand.of_body Bd
  have e0 : s₁.heap = h0 := by rw [← hh, Bd.state]; rfl
  have N0 := Fr.nil n0
  have pre0 : ∀ t, At p e below s₁ m 0 #[vI p1, vI p2] [] t → Steps p.tables e below (s₁.setTop (entryFrame m #[(.int p1), (.int p2)] 2)) t := fun t k => castTop (ef_12 m p1 p2) k
  have pre1 := fun t (kt : At p e below s₁ m 2 #[vI p1, vI p2] [(.int p2), (.int p1)] t) => pre0 t (by
    show At p e below s₁ m 0 #[vI p1, vI p2] [] _
    refine XS.iloadN X0.here hx rfl (hb hby d12_0) rfl ?_
    show At p e below s₁ m 1 #[vI p1, vI p2] [(.int p1)] _
    refine XS.iloadN X0.here hx rfl (hb hby d12_1) rfl ?_
    exact kt)
  by_cases c1 : p1 < p2
  · have pre2 := fun t (kt : At p e below s₁ m 10 #[vI p1, vI p2] [(.int p2)] t) => pre1 t (by
      show At p e below s₁ m 2 #[vI p1, vI p2] [(.int p2), (.int p1)] _
      refine XS.icmpYes X0.here hx rfl (pc0 := 2) (pc' := 9) rfl (hb hby d12_2) rfl (tlt (c1 : p1 < p2)).1 (by decide) (by decide) ?_
      show At p e below s₁ m 9 #[vI p1, vI p2] [] _
      refine XS.iloadN X0.here hx rfl (hb hby d12_9) rfl ?_
      exact kt)
    have ev : own_max p1 p2 = p2 := if_pos c1
    obtain ⟨fs, hr, hrun, hended, hW, hsame⟩ := X0.leave (v := (some (.int p2))) (fun h => by rw [Bd.returns] at h; cases h)
    refine ⟨_, _, pre2 _ ?_, hrun, hended, _, _, rfl, ?_, ⟨_, rfl⟩, hW, hsame.mono (by decide) (by decide)⟩
    · show At p e below s₁ m 10 #[vI p1, vI p2] [(.int p2)] _
      exact retI X0 hx Bd.returns (hb hby d12_10) hr
    · show Q12 Z p1 p2 h0 n0 _ s₁.heap _
      rw [e0]
      exact ⟨by rw [ev], N0, rfl⟩
  · have pre3 := fun t (kt : At p e below s₁ m 10 #[vI p1, vI p2] [(.int p1)] t) => pre1 t (by
      show At p e below s₁ m 2 #[vI p1, vI p2] [(.int p2), (.int p1)] _
      refine XS.icmpNo X0.here hx rfl (hb hby d12_2) rfl (flt (c1 : ¬ (p1 < p2))).1 ?_
      show At p e below s₁ m 5 #[vI p1, vI p2] [] _
      refine XS.iloadN X0.here hx rfl (hb hby d12_5) rfl ?_
      show At p e below s₁ m 6 #[vI p1, vI p2] [(.int p1)] _
      refine XS.goto X0.here hx rfl (pc0 := 6) (pc' := 10) rfl (hb hby d12_6) (by decide) (by decide) ?_
      exact kt)
    have ev : own_max p1 p2 = p1 := if_neg c1
    obtain ⟨fs, hr, hrun, hended, hW, hsame⟩ := X0.leave (v := (some (.int p1))) (fun h => by rw [Bd.returns] at h; cases h)
    refine ⟨_, _, pre3 _ ?_, hrun, hended, _, _, rfl, ?_, ⟨_, rfl⟩, hW, hsame.mono (by decide) (by decide)⟩
    · show At p e below s₁ m 10 #[vI p1, vI p2] [(.int p1)] _
      exact retI X0 hx Bd.returns (hb hby d12_10) hr
    · show Q12 Z p1 p2 h0 n0 _ s₁.heap _
      rw [e0]
      exact ⟨by rw [ev], N0, rfl⟩
theorem pn_2 : plainFor (⟨"java/lang/Math", "min", "(II)I"⟩ : MethodName) = true := by decide +kernel
theorem ef_13 (m : MethodId) (p1 : Int32) (p2 : Int32) : entryFrame m #[(.int p1), (.int p2)] 2 = (mkF m 0 #[vI p1, vI p2] []) := by first | (simp [entryFrame, mkF, argsToLocals, Value.category]; done) | rfl
theorem d13_0 : decode jdk_29_method_69_code 0 = .ok (.iload_n 0, 1) := by decide +kernel
theorem d13_1 : decode jdk_29_method_69_code 1 = .ok (.iload_n 1, 1) := by decide +kernel
theorem d13_2 : decode jdk_29_method_69_code 2 = .ok (.if_icmp .gt 7, 3) := by decide +kernel
theorem d13_9 : decode jdk_29_method_69_code 9 = .ok (.iload_n 1, 1) := by decide +kernel
theorem d13_10 : decode jdk_29_method_69_code 10 = .ok (.ireturn, 1) := by decide +kernel
theorem d13_5 : decode jdk_29_method_69_code 5 = .ok (.iload_n 0, 1) := by decide +kernel
theorem d13_6 : decode jdk_29_method_69_code 6 = .ok (.goto 4, 3) := by decide +kernel
def Q13 (Z : State) (p1 : Int32) (p2 : Int32) (h0 : Heap) (n0 : Nat) (v : Option Value) (h : Heap) (L : List Loc) : Prop := v = some (.int (own_min p1 p2)) ∧ Fr n0 L ∧ h = h0
set_option maxRecDepth 65536 in
set_option maxHeartbeats 40000000 in
theorem rm13 (l : Launch) (Z : State) (a0 : Array Value) (hw : ∀ d ∈ tables_1, d.before a0 Z = true) (ws : List Jvm.Cond) (p1 : Int32) (p2 : Int32) (h0 : Heap) (n0 : Nat) (Z0 : n0 ≤ h0.size) :
    MetFree l (⟨"java/lang/Math", "min", "(II)I"⟩ : MethodName) (head1 (Jvm.Cond.code (⟨"java/lang/Math", "min", "(II)I"⟩ : MethodName) jdk_29_method_69_code 2 (some .int) :: ws) ({ frames := 0, cells := 0, slots := 0, locals := 0 } : Room)) (fun a U => a = #[(.int p1), (.int p2)] ∧ Z.Warmed39 U.vm ∧ U.heap = h0) (fun _ _ _ _ _ => True) (fun _ U o U' => ∃ v L, o = .returned v ∧ Q13 Z p1 p2 h0 n0 v U'.heap L ∧ FrameEnd U o U' L ({ frames := 0, cells := 0, slots := 0, locals := 0 } : Room).cells ({ frames := 0, cells := 0, slots := 0, locals := 0 } : Room).slots) := by
  refine MetFree.of_bodySF pn_2 hisR ?_
  intro p e s m args below meth c s₁ Bd hml0 hP hK
  obtain ⟨rfl, hZ, hh⟩ := hP
  have hx := Bd.exec
  have hby := Bd.bytes
  have hml : c.maxLocals = 2 := hml0
  have hown : s.vm.findClass "java/lang/Math" = some m.cls := findClass_of_methodNamed Bd.named
  have hnm := (name_of_methodNamed Bd.named Bd.method).1
  have X0 : Stand p l e ({ frames := 0, cells := 0, slots := 0, locals := 0 } : Room) s m #[(.int p1), (.int p2)] below meth c s₁ [] 0 0 := Stand.of_body Bd
  have e0 : s₁.heap = h0 := by rw [← hh, Bd.state]; rfl
  have N0 := Fr.nil n0
  have pre0 : ∀ t, At p e below s₁ m 0 #[vI p1, vI p2] [] t → Steps p.tables e below (s₁.setTop (entryFrame m #[(.int p1), (.int p2)] 2)) t := fun t k => castTop (ef_13 m p1 p2) k
  have pre1 := fun t (kt : At p e below s₁ m 2 #[vI p1, vI p2] [(.int p2), (.int p1)] t) => pre0 t (by
    show At p e below s₁ m 0 #[vI p1, vI p2] [] _
    refine XS.iloadN X0.here hx rfl (hb hby d13_0) rfl ?_
    show At p e below s₁ m 1 #[vI p1, vI p2] [(.int p1)] _
    refine XS.iloadN X0.here hx rfl (hb hby d13_1) rfl ?_
    exact kt)
  by_cases c1 : p2 < p1
  · have pre2 := fun t (kt : At p e below s₁ m 10 #[vI p1, vI p2] [(.int p2)] t) => pre1 t (by
      show At p e below s₁ m 2 #[vI p1, vI p2] [(.int p2), (.int p1)] _
      refine XS.icmpYes X0.here hx rfl (pc0 := 2) (pc' := 9) rfl (hb hby d13_2) rfl (tlt (c1 : p2 < p1)).2.2.1 (by decide) (by decide) ?_
      show At p e below s₁ m 9 #[vI p1, vI p2] [] _
      refine XS.iloadN X0.here hx rfl (hb hby d13_9) rfl ?_
      exact kt)
    have ev : own_min p1 p2 = p2 := if_pos c1
    obtain ⟨fs, hr, hrun, hended, hW, hsame⟩ := X0.leave (v := (some (.int p2))) (fun h => by rw [Bd.returns] at h; cases h)
    refine ⟨_, _, pre2 _ ?_, hrun, hended, _, _, rfl, ?_, ⟨_, rfl⟩, hW, hsame.mono (by decide) (by decide)⟩
    · show At p e below s₁ m 10 #[vI p1, vI p2] [(.int p2)] _
      exact retI X0 hx Bd.returns (hb hby d13_10) hr
    · show Q13 Z p1 p2 h0 n0 _ s₁.heap _
      rw [e0]
      exact ⟨by rw [ev], N0, rfl⟩
  · have pre3 := fun t (kt : At p e below s₁ m 10 #[vI p1, vI p2] [(.int p1)] t) => pre1 t (by
      show At p e below s₁ m 2 #[vI p1, vI p2] [(.int p2), (.int p1)] _
      refine XS.icmpNo X0.here hx rfl (hb hby d13_2) rfl (flt (c1 : ¬ (p2 < p1))).2.2.1 ?_
      show At p e below s₁ m 5 #[vI p1, vI p2] [] _
      refine XS.iloadN X0.here hx rfl (hb hby d13_5) rfl ?_
      show At p e below s₁ m 6 #[vI p1, vI p2] [(.int p1)] _
      refine XS.goto X0.here hx rfl (pc0 := 6) (pc' := 10) rfl (hb hby d13_6) (by decide) (by decide) ?_
      exact kt)
    have ev : own_min p1 p2 = p1 := if_neg c1
    obtain ⟨fs, hr, hrun, hended, hW, hsame⟩ := X0.leave (v := (some (.int p1))) (fun h => by rw [Bd.returns] at h; cases h)
    refine ⟨_, _, pre3 _ ?_, hrun, hended, _, _, rfl, ?_, ⟨_, rfl⟩, hW, hsame.mono (by decide) (by decide)⟩
    · show At p e below s₁ m 10 #[vI p1, vI p2] [(.int p1)] _
      exact retI X0 hx Bd.returns (hb hby d13_10) hr
    · show Q13 Z p1 p2 h0 n0 _ s₁.heap _
      rw [e0]
      exact ⟨by rw [ev], N0, rfl⟩
theorem pn_3 : plainName "java/lang/StringUTF16" = true := by first | (simp [plainName, overriddenIn]; done) | decide +kernel
theorem ef_21 (m : MethodId) (p1 : Int32) : entryFrame m #[(.int p1)] 1 = (mkF m 0 #[vI p1] []) := by first | (simp [entryFrame, mkF, argsToLocals, Value.category]; done) | rfl
theorem d21_0 : decode jdk_52_method_3_code 0 = .ok (.iload_n 0, 1) := by decide +kernel
theorem d21_1 : decode jdk_52_method_3_code 1 = .ok (.ifCond .ge 11, 3) := by decide +kernel
theorem d21_12 : decode jdk_52_method_3_code 12 = .ok (.iload_n 0, 1) := by decide +kernel
theorem d21_13 : decode jdk_52_method_3_code 13 = .ok (.ldc 20, 2) := by decide +kernel
theorem d21_15 : decode jdk_52_method_3_code 15 = .ok (.if_icmp .lt 40, 3) := by decide +kernel
theorem d21_55 : decode jdk_52_method_3_code 55 = .ok (.iload_n 0, 1) := by decide +kernel
theorem d21_56 : decode jdk_52_method_3_code 56 = .ok (.iconst 1, 1) := by decide +kernel
theorem d21_57 : decode jdk_52_method_3_code 57 = .ok (.ishl, 1) := by decide +kernel
theorem d21_58 : decode jdk_52_method_3_code 58 = .ok (.ireturn, 1) := by decide +kernel
def Q21 (Z : State) (p1 : Int32) (h0 : Heap) (n0 : Nat) (v : Option Value) (h : Heap) (L : List Loc) : Prop := v = some (.int (p1 <<< ((1 : Int32) &&& 31))) ∧ Fr n0 L ∧ h = h0
set_option maxRecDepth 65536 in
set_option maxHeartbeats 40000000 in
theorem rm21 (l : Launch) (Z : State) (a0 : Array Value) (hw : ∀ d ∈ tables_1, d.before a0 Z = true) (ws : List Jvm.Cond) (p1 : Int32) (h0 : Heap) (n0 : Nat) (Z0 : n0 ≤ h0.size) (m1 : ¬ (p1 < (0 : Int32))) (m2 : p1 < (1073741823 : Int32)) :
    MetFree l (⟨"java/lang/StringUTF16", "newBytesLength", "(I)I"⟩ : MethodName) (head1 (Jvm.Cond.code (⟨"java/lang/StringUTF16", "newBytesLength", "(I)I"⟩ : MethodName) jdk_52_method_3_code 1 (some .int) :: ws) ({ frames := 0, cells := 0, slots := 0, locals := 0 } : Room)) (fun a U => a = #[(.int p1)] ∧ Z.Warmed39 U.vm ∧ U.heap = h0) (fun _ _ _ _ _ => True) (fun _ U o U' => ∃ v L, o = .returned v ∧ Q21 Z p1 h0 n0 v U'.heap L ∧ FrameEnd U o U' L ({ frames := 0, cells := 0, slots := 0, locals := 0 } : Room).cells ({ frames := 0, cells := 0, slots := 0, locals := 0 } : Room).slots) := by
  refine MetFree.of_bodySF (plainFor_of_name pn_3) hisR ?_
  intro p e s m args below meth c s₁ Bd hml0 hP hK
  obtain ⟨rfl, hZ, hh⟩ := hP
  have hx := Bd.exec
  have hby := Bd.bytes
  have hml : c.maxLocals = 1 := hml0
  have hown : s.vm.findClass "java/lang/StringUTF16" = some m.cls := findClass_of_methodNamed Bd.named
  have hnm := (name_of_methodNamed Bd.named Bd.method).1
  have X0 : Stand p l e ({ frames := 0, cells := 0, slots := 0, locals := 0 } : Room) s m #[(.int p1)] below meth c s₁ [] 0 0 := Stand.of_body Bd
  have e0 : s₁.heap = h0 := by rw [← hh, Bd.state]; rfl
  have N0 := Fr.nil n0
  have pre0 : ∀ t, At p e below s₁ m 0 #[vI p1] [] t → Steps p.tables e below (s₁.setTop (entryFrame m #[(.int p1)] 1)) t := fun t k => castTop (ef_21 m p1) k
  have pre1 := fun t (kt : At p e below s₁ m 58 #[vI p1] [(.int (p1 <<< ((1 : Int32) &&& 31)))] t) => pre0 t (by
    show At p e below s₁ m 0 #[vI p1] [] _
    refine XS.iloadN X0.here hx rfl (hb hby d21_0) rfl ?_
    show At p e below s₁ m 1 #[vI p1] [(.int p1)] _
    refine XS.ifYes X0.here hx rfl (pc0 := 1) (pc' := 12) rfl (hb hby d21_1) rfl ((if0 _ _).trans (flt (m1 : ¬ (p1 < (0 : Int32)))).2.1) (by decide) (by decide) ?_
    show At p e below s₁ m 12 #[vI p1] [] _
    refine XS.iloadN X0.here hx rfl (hb hby d21_12) rfl ?_
    show At p e below s₁ m 13 #[vI p1] [(.int p1)] _
    refine X0.ldcInt hx hown (mvT hZ (wd hw 94 rfl)) (g := (mkF m 13 #[vI p1] [(.int p1)])) rfl (hb hby d21_13) _ ?_
    show At p e below s₁ m 15 #[vI p1] [(.int 1073741823), (.int p1)] _
    refine XS.icmpYes X0.here hx rfl (pc0 := 15) (pc' := 55) rfl (hb hby d21_15) rfl (tlt (m2 : p1 < (1073741823 : Int32))).1 (by decide) (by decide) ?_
    show At p e below s₁ m 55 #[vI p1] [] _
    refine XS.iloadN X0.here hx rfl (hb hby d21_55) rfl ?_
    show At p e below s₁ m 56 #[vI p1] [(.int p1)] _
    refine XS.iconst X0.here hx rfl (hb hby d21_56) ?_
    show At p e below s₁ m 57 #[vI p1] [(.int 1), (.int p1)] _
    refine XS.ishl X0.here hx rfl (hb hby d21_57) rfl ?_
    exact kt)
  obtain ⟨fs, hr, hrun, hended, hW, hsame⟩ := X0.leave (v := (some (.int (p1 <<< ((1 : Int32) &&& 31))))) (fun h => by rw [Bd.returns] at h; cases h)
  refine ⟨_, _, pre1 _ ?_, hrun, hended, _, _, rfl, ?_, ⟨_, rfl⟩, hW, hsame.mono (by decide) (by decide)⟩
  · show At p e below s₁ m 58 #[vI p1] [(.int (p1 <<< ((1 : Int32) &&& 31)))] _
    exact retI X0 hx Bd.returns (hb hby d21_58) hr
  · show Q21 Z p1 h0 n0 _ s₁.heap _
    rw [e0]
    exact ⟨rfl, N0, rfl⟩
theorem ef_20_1 (m : MethodId)  : entryFrame m #[(.int 1)] 1 = (mkF m 0 #[vI 1] []) := by first | (simp [entryFrame, mkF, argsToLocals, Value.category]; done) | rfl
theorem d20_0 : decode jdk_52_method_2_code 0 = .ok (.iload_n 0, 1) := by decide +kernel
theorem pd_0 : parseMethodDescriptor "(I)I" = some ⟨[.int], some .int⟩ := by decide +kernel
theorem d20_1 : decode jdk_52_method_2_code 1 = .ok (.invokestatic 11, 3) := by decide +kernel
theorem d20_4 : decode jdk_52_method_2_code 4 = .ok (.newarray .byte, 2) := by decide +kernel
theorem d20_6 : decode jdk_52_method_2_code 6 = .ok (.areturn, 1) := by decide +kernel
def Q20_1 (Z : State)  (h0 : Heap) (n0 : Nat) (v : Option Value) (h : Heap) (L : List Loc) : Prop := v = some (.ref h0.size) ∧ Fr n0 L ∧ Keep h0 h [] ∧ ∃ kb : ClassId, Arv Z h h0.size kb .byte (2 : Int32) [(.int 0), (.int 0)] (.int 0)
set_option maxRecDepth 65536 in
set_option maxHeartbeats 40000000 in
theorem rm20_1 (l : Launch) (Z : State) (a0 : Array Value) (hw : ∀ d ∈ tables_1, d.before a0 Z = true) (ws : List Jvm.Cond)  (h0 : Heap) (n0 : Nat) (Z0 : n0 ≤ h0.size) :
    MetFree l (⟨"java/lang/StringUTF16", "newBytesFor", "(I)[B"⟩ : MethodName) (head1 (Jvm.Cond.code (⟨"java/lang/StringUTF16", "newBytesFor", "(I)[B"⟩ : MethodName) jdk_52_method_2_code 1 (some (.array .byte)) :: ws) ({ frames := 1, cells := 1, slots := 2, locals := 12 } : Room)) (fun a U => a = #[(.int 1)] ∧ Z.Warmed39 U.vm ∧ U.heap = h0) (fun _ _ _ _ _ => True) (fun _ U o U' => ∃ v L, o = .returned v ∧ Q20_1 Z  h0 n0 v U'.heap L ∧ FrameEnd U o U' L ({ frames := 1, cells := 1, slots := 2, locals := 12 } : Room).cells ({ frames := 1, cells := 1, slots := 2, locals := 12 } : Room).slots) := by
  refine MetFree.of_bodySF (plainFor_of_name pn_3) hisR ?_
  intro p e s m args below meth c s₁ Bd hml0 hP hK
  obtain ⟨rfl, hZ, hh⟩ := hP
  have hx := Bd.exec
  have hby := Bd.bytes
  have hml : c.maxLocals = 1 := hml0
  have hown : s.vm.findClass "java/lang/StringUTF16" = some m.cls := findClass_of_methodNamed Bd.named
  have hnm := (name_of_methodNamed Bd.named Bd.method).1
  have X0 : Stand p l e ({ frames := 1, cells := 1, slots := 2, locals := 12 } : Room) s m #[(.int 1)] below meth c s₁ [] 0 0 := Stand.of_body Bd
  have e0 : s₁.heap = h0 := by rw [← hh, Bd.state]; rfl
  have N0 := Fr.nil n0
  have K0 : Keep h0 h0 [] := Keep.refl _ _
  have pre0 : ∀ t, At p e below s₁ m 0 #[vI 1] [] t → Steps p.tables e below (s₁.setTop (entryFrame m #[(.int 1)] 1)) t := fun t k => castTop (ef_20_1 m ) k
  have pre1 := fun t (kt : At p e below s₁ m 1 #[vI 1] [(.int 1)] t) => pre0 t (by
    show At p e below s₁ m 0 #[vI 1] [] _
    refine XS.iloadN X0.here hx rfl (hb hby d20_0) rfl ?_
    exact kt)
  obtain ⟨_, _, ⟨T2, L2, kc2, nc2⟩, -, X2, ⟨Lc2, hQ2, l2, y2, z2⟩, st2⟩ := Jvm.LawKit.callS X0 hx (y := (⟨"java/lang/StringUTF16", "newBytesLength", "(I)I"⟩ : MethodName)) hown (mvT hZ (wd hw 91 rfl)) (mvT hZ (wd hw 92 rfl)) (mvT hZ (wd hw 70 rfl)) (mvT hZ (wd hw 93 rfl)) (by decide) (backOf (W := 0) (rm21 l Z a0 hw [] (1 : Int32) h0 n0 Z0 (by decide) (by decide)) hZ (wd hw 93 rfl) (wd hw 70 rfl) (by decide) (by decide)) (g := (mkF m 1 #[vI 1] [(.int 1)])) rfl (by rw [hml]; rfl) (argsL := [(.int 1)]) (rest := []) (lenOf pd_0 rfl) rfl (by show 2 * 0 + _ ≤ _; exact Nat.le_of_eq rfl) (hb hby d20_1) (fun _ _ => ⟨rfl, e0, (by decide : 0 + 0 ≤ _), (by decide : 0 + 0 ≤ _)⟩)
  dsimp only [Pt.U, Pt.locs, Pt.cells, Pt.slots] at X2 l2 y2 z2 st2 hQ2
  subst l2 y2 z2
  obtain ⟨rfl, N2q, he2⟩ := hQ2
  have N2 := Fr.app N0 N2q
  have pre3 := fun t (kt : At p e below T2 m 4 #[vI 1] [(.int ((1 : Int32) <<< ((1 : Int32) &&& 31)))] t) => pre1 t (st2 _ kt)
  have pre4 := fun t (kt : At p e below T2 m 4 #[vI 1] [(.int 2)] t) => pre3 t (by
    show At p e below T2 m 4 #[vI 1] [(.int ((1 : Int32) <<< ((1 : Int32) &&& 31)))] _
    rw [show ((1 : Int32) <<< ((1 : Int32) &&& 31)) = (2 : Int32) from by decide]
    exact kt)
  obtain ⟨T5, h5, k5, X5, e5, E5, A5, st5⟩ := newP X2 hx hZ (wd hw 17 rfl) he2 (g := (mkF m 4 #[vI 1] [(.int 2)])) rfl (hb hby d20_4) rfl (by decide) (cap := 2) (by decide) (by decide) (by decide) (by decide)
  obtain ⟨b5, gq5⟩ : ∃ z, z = h0.size := ⟨_, rfl⟩
  rw [← gq5] at A5 st5
  have gg_b5 : n0 ≤ b5 := Nat.le_trans Z0 (Nat.le_of_eq gq5.symm)
  have sz_b5 : h0.size ≤ b5 := Nat.le_trans K0.1 (Nat.le_of_eq gq5.symm)
  have V5 : Arv Z h5 b5 k5 .byte (2 : Int32) [(.int 0), (.int 0)] (.int 0) := (Arv.new A5 (by decide)).pad (pad_rep [] (.int 0) 2)
  have pre6 := fun t (kt : At p e below T5 m 6 #[vI 1] [(.ref b5)] t) => pre4 t (st5 _ kt)
  have k7 : Keep h0 h5 [] := (K0.ext E5)
  obtain ⟨fs, hr, hrun, hended, hW, hsame⟩ := X5.leave (v := (some (.ref b5))) (fun h => by rw [Bd.returns] at h; cases h)
  refine ⟨_, _, pre6 _ ?_, hrun, hended, _, _, rfl, ?_, ⟨_, rfl⟩, hW, hsame.mono (by decide) (by decide)⟩
  · show At p e below T5 m 6 #[vI 1] [(.ref b5)] _
    exact retOut X5 hx (t := (.array .byte)) Bd.returns rfl (Or.inr (Or.inr (Or.inr (Or.inr ⟨rfl, rfl, rfl⟩)))) (hb hby d20_6) hr
  · show Q20_1 Z  h0 n0 _ T5.heap _
    rw [e5]
    exact ⟨by rw [gq5], N2, k7, _, by rw [← gq5]; exact V5⟩
theorem ef_20_2 (m : MethodId)  : entryFrame m #[(.int 2)] 1 = (mkF m 0 #[vI 2] []) := by first | (simp [entryFrame, mkF, argsToLocals, Value.category]; done) | rfl
def Q20_2 (Z : State)  (h0 : Heap) (n0 : Nat) (v : Option Value) (h : Heap) (L : List Loc) : Prop := v = some (.ref h0.size) ∧ Fr n0 L ∧ Keep h0 h [] ∧ ∃ kb : ClassId, Arv Z h h0.size kb .byte (4 : Int32) [(.int 0), (.int 0), (.int 0), (.int 0)] (.int 0)
set_option maxRecDepth 65536 in
set_option maxHeartbeats 40000000 in
theorem rm20_2 (l : Launch) (Z : State) (a0 : Array Value) (hw : ∀ d ∈ tables_1, d.before a0 Z = true) (ws : List Jvm.Cond)  (h0 : Heap) (n0 : Nat) (Z0 : n0 ≤ h0.size) :
    MetFree l (⟨"java/lang/StringUTF16", "newBytesFor", "(I)[B"⟩ : MethodName) (head1 (Jvm.Cond.code (⟨"java/lang/StringUTF16", "newBytesFor", "(I)[B"⟩ : MethodName) jdk_52_method_2_code 1 (some (.array .byte)) :: ws) ({ frames := 1, cells := 1, slots := 4, locals := 12 } : Room)) (fun a U => a = #[(.int 2)] ∧ Z.Warmed39 U.vm ∧ U.heap = h0) (fun _ _ _ _ _ => True) (fun _ U o U' => ∃ v L, o = .returned v ∧ Q20_2 Z  h0 n0 v U'.heap L ∧ FrameEnd U o U' L ({ frames := 1, cells := 1, slots := 4, locals := 12 } : Room).cells ({ frames := 1, cells := 1, slots := 4, locals := 12 } : Room).slots) := by
  refine MetFree.of_bodySF (plainFor_of_name pn_3) hisR ?_
  intro p e s m args below meth c s₁ Bd hml0 hP hK
  obtain ⟨rfl, hZ, hh⟩ := hP
  have hx := Bd.exec
  have hby := Bd.bytes
  have hml : c.maxLocals = 1 := hml0
  have hown : s.vm.findClass "java/lang/StringUTF16" = some m.cls := findClass_of_methodNamed Bd.named
  have hnm := (name_of_methodNamed Bd.named Bd.method).1
  have X0 : Stand p l e ({ frames := 1, cells := 1, slots := 4, locals := 12 } : Room) s m #[(.int 2)] below meth c s₁ [] 0 0 := Stand.of_body Bd
  have e0 : s₁.heap = h0 := by rw [← hh, Bd.state]; rfl
  have N0 := Fr.nil n0
  have K0 : Keep h0 h0 [] := Keep.refl _ _
  have pre0 : ∀ t, At p e below s₁ m 0 #[vI 2] [] t → Steps p.tables e below (s₁.setTop (entryFrame m #[(.int 2)] 1)) t := fun t k => castTop (ef_20_2 m ) k
  have pre1 := fun t (kt : At p e below s₁ m 1 #[vI 2] [(.int 2)] t) => pre0 t (by
    show At p e below s₁ m 0 #[vI 2] [] _
    refine XS.iloadN X0.here hx rfl (hb hby d20_0) rfl ?_
    exact kt)
  obtain ⟨_, _, ⟨T2, L2, kc2, nc2⟩, -, X2, ⟨Lc2, hQ2, l2, y2, z2⟩, st2⟩ := Jvm.LawKit.callS X0 hx (y := (⟨"java/lang/StringUTF16", "newBytesLength", "(I)I"⟩ : MethodName)) hown (mvT hZ (wd hw 91 rfl)) (mvT hZ (wd hw 92 rfl)) (mvT hZ (wd hw 70 rfl)) (mvT hZ (wd hw 93 rfl)) (by decide) (backOf (W := 0) (rm21 l Z a0 hw [] (2 : Int32) h0 n0 Z0 (by decide) (by decide)) hZ (wd hw 93 rfl) (wd hw 70 rfl) (by decide) (by decide)) (g := (mkF m 1 #[vI 2] [(.int 2)])) rfl (by rw [hml]; rfl) (argsL := [(.int 2)]) (rest := []) (lenOf pd_0 rfl) rfl (by show 2 * 0 + _ ≤ _; exact Nat.le_of_eq rfl) (hb hby d20_1) (fun _ _ => ⟨rfl, e0, (by decide : 0 + 0 ≤ _), (by decide : 0 + 0 ≤ _)⟩)
  dsimp only [Pt.U, Pt.locs, Pt.cells, Pt.slots] at X2 l2 y2 z2 st2 hQ2
  subst l2 y2 z2
  obtain ⟨rfl, N2q, he2⟩ := hQ2
  have N2 := Fr.app N0 N2q
  have pre3 := fun t (kt : At p e below T2 m 4 #[vI 2] [(.int ((2 : Int32) <<< ((1 : Int32) &&& 31)))] t) => pre1 t (st2 _ kt)
  have pre4 := fun t (kt : At p e below T2 m 4 #[vI 2] [(.int 4)] t) => pre3 t (by
    show At p e below T2 m 4 #[vI 2] [(.int ((2 : Int32) <<< ((1 : Int32) &&& 31)))] _
    rw [show ((2 : Int32) <<< ((1 : Int32) &&& 31)) = (4 : Int32) from by decide]
    exact kt)
  obtain ⟨T5, h5, k5, X5, e5, E5, A5, st5⟩ := newP X2 hx hZ (wd hw 17 rfl) he2 (g := (mkF m 4 #[vI 2] [(.int 4)])) rfl (hb hby d20_4) rfl (by decide) (cap := 4) (by decide) (by decide) (by decide) (by decide)
  obtain ⟨b5, gq5⟩ : ∃ z, z = h0.size := ⟨_, rfl⟩
  rw [← gq5] at A5 st5
  have gg_b5 : n0 ≤ b5 := Nat.le_trans Z0 (Nat.le_of_eq gq5.symm)
  have sz_b5 : h0.size ≤ b5 := Nat.le_trans K0.1 (Nat.le_of_eq gq5.symm)
  have V5 : Arv Z h5 b5 k5 .byte (4 : Int32) [(.int 0), (.int 0), (.int 0), (.int 0)] (.int 0) := (Arv.new A5 (by decide)).pad (pad_rep [] (.int 0) 4)
  have pre6 := fun t (kt : At p e below T5 m 6 #[vI 2] [(.ref b5)] t) => pre4 t (st5 _ kt)
  have k7 : Keep h0 h5 [] := (K0.ext E5)
  obtain ⟨fs, hr, hrun, hended, hW, hsame⟩ := X5.leave (v := (some (.ref b5))) (fun h => by rw [Bd.returns] at h; cases h)
  refine ⟨_, _, pre6 _ ?_, hrun, hended, _, _, rfl, ?_, ⟨_, rfl⟩, hW, hsame.mono (by decide) (by decide)⟩
  · show At p e below T5 m 6 #[vI 2] [(.ref b5)] _
    exact retOut X5 hx (t := (.array .byte)) Bd.returns rfl (Or.inr (Or.inr (Or.inr (Or.inr ⟨rfl, rfl, rfl⟩)))) (hb hby d20_6) hr
  · show Q20_2 Z  h0 n0 _ T5.heap _
    rw [e5]
    exact ⟨by rw [gq5], N2, k7, _, by rw [← gq5]; exact V5⟩
theorem ef_20_3 (m : MethodId)  : entryFrame m #[(.int 3)] 1 = (mkF m 0 #[vI 3] []) := by first | (simp [entryFrame, mkF, argsToLocals, Value.category]; done) | rfl
def Q20_3 (Z : State)  (h0 : Heap) (n0 : Nat) (v : Option Value) (h : Heap) (L : List Loc) : Prop := v = some (.ref h0.size) ∧ Fr n0 L ∧ Keep h0 h [] ∧ ∃ kb : ClassId, Arv Z h h0.size kb .byte (6 : Int32) [(.int 0), (.int 0), (.int 0), (.int 0), (.int 0), (.int 0)] (.int 0)
set_option maxRecDepth 65536 in
set_option maxHeartbeats 40000000 in
theorem rm20_3 (l : Launch) (Z : State) (a0 : Array Value) (hw : ∀ d ∈ tables_1, d.before a0 Z = true) (ws : List Jvm.Cond)  (h0 : Heap) (n0 : Nat) (Z0 : n0 ≤ h0.size) :
    MetFree l (⟨"java/lang/StringUTF16", "newBytesFor", "(I)[B"⟩ : MethodName) (head1 (Jvm.Cond.code (⟨"java/lang/StringUTF16", "newBytesFor", "(I)[B"⟩ : MethodName) jdk_52_method_2_code 1 (some (.array .byte)) :: ws) ({ frames := 1, cells := 1, slots := 6, locals := 12 } : Room)) (fun a U => a = #[(.int 3)] ∧ Z.Warmed39 U.vm ∧ U.heap = h0) (fun _ _ _ _ _ => True) (fun _ U o U' => ∃ v L, o = .returned v ∧ Q20_3 Z  h0 n0 v U'.heap L ∧ FrameEnd U o U' L ({ frames := 1, cells := 1, slots := 6, locals := 12 } : Room).cells ({ frames := 1, cells := 1, slots := 6, locals := 12 } : Room).slots) := by
  refine MetFree.of_bodySF (plainFor_of_name pn_3) hisR ?_
  intro p e s m args below meth c s₁ Bd hml0 hP hK
  obtain ⟨rfl, hZ, hh⟩ := hP
  have hx := Bd.exec
  have hby := Bd.bytes
  have hml : c.maxLocals = 1 := hml0
  have hown : s.vm.findClass "java/lang/StringUTF16" = some m.cls := findClass_of_methodNamed Bd.named
  have hnm := (name_of_methodNamed Bd.named Bd.method).1
  have X0 : Stand p l e ({ frames := 1, cells := 1, slots := 6, locals := 12 } : Room) s m #[(.int 3)] below meth c s₁ [] 0 0 := Stand.of_body Bd
  have e0 : s₁.heap = h0 := by rw [← hh, Bd.state]; rfl
  have N0 := Fr.nil n0
  have K0 : Keep h0 h0 [] := Keep.refl _ _
  have pre0 : ∀ t, At p e below s₁ m 0 #[vI 3] [] t → Steps p.tables e below (s₁.setTop (entryFrame m #[(.int 3)] 1)) t := fun t k => castTop (ef_20_3 m ) k
  have pre1 := fun t (kt : At p e below s₁ m 1 #[vI 3] [(.int 3)] t) => pre0 t (by
    show At p e below s₁ m 0 #[vI 3] [] _
    refine XS.iloadN X0.here hx rfl (hb hby d20_0) rfl ?_
    exact kt)
  obtain ⟨_, _, ⟨T2, L2, kc2, nc2⟩, -, X2, ⟨Lc2, hQ2, l2, y2, z2⟩, st2⟩ := Jvm.LawKit.callS X0 hx (y := (⟨"java/lang/StringUTF16", "newBytesLength", "(I)I"⟩ : MethodName)) hown (mvT hZ (wd hw 91 rfl)) (mvT hZ (wd hw 92 rfl)) (mvT hZ (wd hw 70 rfl)) (mvT hZ (wd hw 93 rfl)) (by decide) (backOf (W := 0) (rm21 l Z a0 hw [] (3 : Int32) h0 n0 Z0 (by decide) (by decide)) hZ (wd hw 93 rfl) (wd hw 70 rfl) (by decide) (by decide)) (g := (mkF m 1 #[vI 3] [(.int 3)])) rfl (by rw [hml]; rfl) (argsL := [(.int 3)]) (rest := []) (lenOf pd_0 rfl) rfl (by show 2 * 0 + _ ≤ _; exact Nat.le_of_eq rfl) (hb hby d20_1) (fun _ _ => ⟨rfl, e0, (by decide : 0 + 0 ≤ _), (by decide : 0 + 0 ≤ _)⟩)
  dsimp only [Pt.U, Pt.locs, Pt.cells, Pt.slots] at X2 l2 y2 z2 st2 hQ2
  subst l2 y2 z2
  obtain ⟨rfl, N2q, he2⟩ := hQ2
  have N2 := Fr.app N0 N2q
  have pre3 := fun t (kt : At p e below T2 m 4 #[vI 3] [(.int ((3 : Int32) <<< ((1 : Int32) &&& 31)))] t) => pre1 t (st2 _ kt)
  have pre4 := fun t (kt : At p e below T2 m 4 #[vI 3] [(.int 6)] t) => pre3 t (by
    show At p e below T2 m 4 #[vI 3] [(.int ((3 : Int32) <<< ((1 : Int32) &&& 31)))] _
    rw [show ((3 : Int32) <<< ((1 : Int32) &&& 31)) = (6 : Int32) from by decide]
    exact kt)
  obtain ⟨T5, h5, k5, X5, e5, E5, A5, st5⟩ := newP X2 hx hZ (wd hw 17 rfl) he2 (g := (mkF m 4 #[vI 3] [(.int 6)])) rfl (hb hby d20_4) rfl (by decide) (cap := 6) (by decide) (by decide) (by decide) (by decide)
  obtain ⟨b5, gq5⟩ : ∃ z, z = h0.size := ⟨_, rfl⟩
  rw [← gq5] at A5 st5
  have gg_b5 : n0 ≤ b5 := Nat.le_trans Z0 (Nat.le_of_eq gq5.symm)
  have sz_b5 : h0.size ≤ b5 := Nat.le_trans K0.1 (Nat.le_of_eq gq5.symm)
  have V5 : Arv Z h5 b5 k5 .byte (6 : Int32) [(.int 0), (.int 0), (.int 0), (.int 0), (.int 0), (.int 0)] (.int 0) := (Arv.new A5 (by decide)).pad (pad_rep [] (.int 0) 6)
  have pre6 := fun t (kt : At p e below T5 m 6 #[vI 3] [(.ref b5)] t) => pre4 t (st5 _ kt)
  have k7 : Keep h0 h5 [] := (K0.ext E5)
  obtain ⟨fs, hr, hrun, hended, hW, hsame⟩ := X5.leave (v := (some (.ref b5))) (fun h => by rw [Bd.returns] at h; cases h)
  refine ⟨_, _, pre6 _ ?_, hrun, hended, _, _, rfl, ?_, ⟨_, rfl⟩, hW, hsame.mono (by decide) (by decide)⟩
  · show At p e below T5 m 6 #[vI 3] [(.ref b5)] _
    exact retOut X5 hx (t := (.array .byte)) Bd.returns rfl (Or.inr (Or.inr (Or.inr (Or.inr ⟨rfl, rfl, rfl⟩)))) (hb hby d20_6) hr
  · show Q20_3 Z  h0 n0 _ T5.heap _
    rw [e5]
    exact ⟨by rw [gq5], N2, k7, _, by rw [← gq5]; exact V5⟩
theorem ef_20_4 (m : MethodId)  : entryFrame m #[(.int 4)] 1 = (mkF m 0 #[vI 4] []) := by first | (simp [entryFrame, mkF, argsToLocals, Value.category]; done) | rfl
def Q20_4 (Z : State)  (h0 : Heap) (n0 : Nat) (v : Option Value) (h : Heap) (L : List Loc) : Prop := v = some (.ref h0.size) ∧ Fr n0 L ∧ Keep h0 h [] ∧ ∃ kb : ClassId, Arv Z h h0.size kb .byte (8 : Int32) [(.int 0), (.int 0), (.int 0), (.int 0), (.int 0), (.int 0), (.int 0), (.int 0)] (.int 0)
set_option maxRecDepth 65536 in
set_option maxHeartbeats 40000000 in
theorem rm20_4 (l : Launch) (Z : State) (a0 : Array Value) (hw : ∀ d ∈ tables_1, d.before a0 Z = true) (ws : List Jvm.Cond)  (h0 : Heap) (n0 : Nat) (Z0 : n0 ≤ h0.size) :
    MetFree l (⟨"java/lang/StringUTF16", "newBytesFor", "(I)[B"⟩ : MethodName) (head1 (Jvm.Cond.code (⟨"java/lang/StringUTF16", "newBytesFor", "(I)[B"⟩ : MethodName) jdk_52_method_2_code 1 (some (.array .byte)) :: ws) ({ frames := 1, cells := 1, slots := 8, locals := 12 } : Room)) (fun a U => a = #[(.int 4)] ∧ Z.Warmed39 U.vm ∧ U.heap = h0) (fun _ _ _ _ _ => True) (fun _ U o U' => ∃ v L, o = .returned v ∧ Q20_4 Z  h0 n0 v U'.heap L ∧ FrameEnd U o U' L ({ frames := 1, cells := 1, slots := 8, locals := 12 } : Room).cells ({ frames := 1, cells := 1, slots := 8, locals := 12 } : Room).slots) := by
  refine MetFree.of_bodySF (plainFor_of_name pn_3) hisR ?_
  intro p e s m args below meth c s₁ Bd hml0 hP hK
  obtain ⟨rfl, hZ, hh⟩ := hP
  have hx := Bd.exec
  have hby := Bd.bytes
  have hml : c.maxLocals = 1 := hml0
  have hown : s.vm.findClass "java/lang/StringUTF16" = some m.cls := findClass_of_methodNamed Bd.named
  have hnm := (name_of_methodNamed Bd.named Bd.method).1
  have X0 : Stand p l e ({ frames := 1, cells := 1, slots := 8, locals := 12 } : Room) s m #[(.int 4)] below meth c s₁ [] 0 0 := Stand.of_body Bd
  have e0 : s₁.heap = h0 := by rw [← hh, Bd.state]; rfl
  have N0 := Fr.nil n0
  have K0 : Keep h0 h0 [] := Keep.refl _ _
  have pre0 : ∀ t, At p e below s₁ m 0 #[vI 4] [] t → Steps p.tables e below (s₁.setTop (entryFrame m #[(.int 4)] 1)) t := fun t k => castTop (ef_20_4 m ) k
  have pre1 := fun t (kt : At p e below s₁ m 1 #[vI 4] [(.int 4)] t) => pre0 t (by
    show At p e below s₁ m 0 #[vI 4] [] _
    refine XS.iloadN X0.here hx rfl (hb hby d20_0) rfl ?_
    exact kt)
  obtain ⟨_, _, ⟨T2, L2, kc2, nc2⟩, -, X2, ⟨Lc2, hQ2, l2, y2, z2⟩, st2⟩ := Jvm.LawKit.callS X0 hx (y := (⟨"java/lang/StringUTF16", "newBytesLength", "(I)I"⟩ : MethodName)) hown (mvT hZ (wd hw 91 rfl)) (mvT hZ (wd hw 92 rfl)) (mvT hZ (wd hw 70 rfl)) (mvT hZ (wd hw 93 rfl)) (by decide) (backOf (W := 0) (rm21 l Z a0 hw [] (4 : Int32) h0 n0 Z0 (by decide) (by decide)) hZ (wd hw 93 rfl) (wd hw 70 rfl) (by decide) (by decide)) (g := (mkF m 1 #[vI 4] [(.int 4)])) rfl (by rw [hml]; rfl) (argsL := [(.int 4)]) (rest := []) (lenOf pd_0 rfl) rfl (by show 2 * 0 + _ ≤ _; exact Nat.le_of_eq rfl) (hb hby d20_1) (fun _ _ => ⟨rfl, e0, (by decide : 0 + 0 ≤ _), (by decide : 0 + 0 ≤ _)⟩)
  dsimp only [Pt.U, Pt.locs, Pt.cells, Pt.slots] at X2 l2 y2 z2 st2 hQ2
  subst l2 y2 z2
  obtain ⟨rfl, N2q, he2⟩ := hQ2
  have N2 := Fr.app N0 N2q
  have pre3 := fun t (kt : At p e below T2 m 4 #[vI 4] [(.int ((4 : Int32) <<< ((1 : Int32) &&& 31)))] t) => pre1 t (st2 _ kt)
  have pre4 := fun t (kt : At p e below T2 m 4 #[vI 4] [(.int 8)] t) => pre3 t (by
    show At p e below T2 m 4 #[vI 4] [(.int ((4 : Int32) <<< ((1 : Int32) &&& 31)))] _
    rw [show ((4 : Int32) <<< ((1 : Int32) &&& 31)) = (8 : Int32) from by decide]
    exact kt)
  obtain ⟨T5, h5, k5, X5, e5, E5, A5, st5⟩ := newP X2 hx hZ (wd hw 17 rfl) he2 (g := (mkF m 4 #[vI 4] [(.int 8)])) rfl (hb hby d20_4) rfl (by decide) (cap := 8) (by decide) (by decide) (by decide) (by decide)
  obtain ⟨b5, gq5⟩ : ∃ z, z = h0.size := ⟨_, rfl⟩
  rw [← gq5] at A5 st5
  have gg_b5 : n0 ≤ b5 := Nat.le_trans Z0 (Nat.le_of_eq gq5.symm)
  have sz_b5 : h0.size ≤ b5 := Nat.le_trans K0.1 (Nat.le_of_eq gq5.symm)
  have V5 : Arv Z h5 b5 k5 .byte (8 : Int32) [(.int 0), (.int 0), (.int 0), (.int 0), (.int 0), (.int 0), (.int 0), (.int 0)] (.int 0) := (Arv.new A5 (by decide)).pad (pad_rep [] (.int 0) 8)
  have pre6 := fun t (kt : At p e below T5 m 6 #[vI 4] [(.ref b5)] t) => pre4 t (st5 _ kt)
  have k7 : Keep h0 h5 [] := (K0.ext E5)
  obtain ⟨fs, hr, hrun, hended, hW, hsame⟩ := X5.leave (v := (some (.ref b5))) (fun h => by rw [Bd.returns] at h; cases h)
  refine ⟨_, _, pre6 _ ?_, hrun, hended, _, _, rfl, ?_, ⟨_, rfl⟩, hW, hsame.mono (by decide) (by decide)⟩
  · show At p e below T5 m 6 #[vI 4] [(.ref b5)] _
    exact retOut X5 hx (t := (.array .byte)) Bd.returns rfl (Or.inr (Or.inr (Or.inr (Or.inr ⟨rfl, rfl, rfl⟩)))) (hb hby d20_6) hr
  · show Q20_4 Z  h0 n0 _ T5.heap _
    rw [e5]
    exact ⟨by rw [gq5], N2, k7, _, by rw [← gq5]; exact V5⟩
theorem ef_22 (m : MethodId) (ab : Addr) (q : Int32) (j : Int32) : entryFrame m #[(.ref ab), (.int j), (.int q)] 3 = (mkF m 0 #[vR ab, vI j, vI q] []) := by first | (simp [entryFrame, mkF, argsToLocals, Value.category]; done) | rfl
theorem d22_0 : decode jdk_52_method_4_code 0 = .ok (.getstatic 44, 3) := by decide +kernel
theorem d22_3 : decode jdk_52_method_4_code 3 = .ok (.ifCond .ne 25, 3) := by decide +kernel
theorem d22_28 : decode jdk_52_method_4_code 28 = .ok (.iload_n 1, 1) := by decide +kernel
theorem d22_29 : decode jdk_52_method_4_code 29 = .ok (.iconst 1, 1) := by decide +kernel
theorem d22_30 : decode jdk_52_method_4_code 30 = .ok (.ishl, 1) := by decide +kernel
theorem d22_31 : decode jdk_52_method_4_code 31 = .ok (.istore_n 1, 1) := by decide +kernel
theorem d22_32 : decode jdk_52_method_4_code 32 = .ok (.aload_n 0, 1) := by decide +kernel
theorem d22_33 : decode jdk_52_method_4_code 33 = .ok (.iload_n 1, 1) := by decide +kernel
theorem d22_34 : decode jdk_52_method_4_code 34 = .ok (.iinc 1 1, 3) := by decide +kernel
theorem d22_37 : decode jdk_52_method_4_code 37 = .ok (.iload_n 2, 1) := by decide +kernel
theorem d22_38 : decode jdk_52_method_4_code 38 = .ok (.getstatic 59, 3) := by decide +kernel
theorem d22_41 : decode jdk_52_method_4_code 41 = .ok (.ishr, 1) := by decide +kernel
theorem d22_42 : decode jdk_52_method_4_code 42 = .ok (.i2b, 1) := by decide +kernel
theorem d22_43 : decode jdk_52_method_4_code 43 = .ok (.bastore, 1) := by decide +kernel
theorem d22_44 : decode jdk_52_method_4_code 44 = .ok (.aload_n 0, 1) := by decide +kernel
theorem d22_45 : decode jdk_52_method_4_code 45 = .ok (.iload_n 1, 1) := by decide +kernel
theorem d22_46 : decode jdk_52_method_4_code 46 = .ok (.iload_n 2, 1) := by decide +kernel
theorem d22_47 : decode jdk_52_method_4_code 47 = .ok (.getstatic 63, 3) := by decide +kernel
theorem d22_50 : decode jdk_52_method_4_code 50 = .ok (.ishr, 1) := by decide +kernel
theorem d22_51 : decode jdk_52_method_4_code 51 = .ok (.i2b, 1) := by decide +kernel
theorem d22_52 : decode jdk_52_method_4_code 52 = .ok (.bastore, 1) := by decide +kernel
theorem d22_53 : decode jdk_52_method_4_code 53 = .ok (.return_, 1) := by decide +kernel
def Q22 (Z : State) (ab : Addr) (kb : ClassId) (q : Int32) (z : Int32) (vs : List Value) (j : Int32) (t : Nat) (h0 : Heap) (n0 : Nat) (v : Option Value) (h : Heap) (L : List Loc) : Prop := v = none ∧ Fr n0 L ∧ Keep h0 h [ab] ∧ Arv Z h ab kb .byte z ((vs.set t (.int (nar .byte ((q >>> ((0 : Int32) &&& 31)).toInt8.toInt32)))).set (t + 1) (.int (nar .byte ((q >>> ((8 : Int32) &&& 31)).toInt8.toInt32)))) (.int 0)
set_option maxRecDepth 65536 in
set_option maxHeartbeats 40000000 in
theorem rm22 (l : Launch) (Z : State) (a0 : Array Value) (hw : ∀ d ∈ tables_1, d.before a0 Z = true) (ws : List Jvm.Cond) (ab : Addr) (kb : ClassId) (q : Int32) (z : Int32) (vs : List Value) (j : Int32) (t : Nat) (h0 : Heap) (n0 : Nat) (O0 : Old Z n0 h0) (SA : Sta Z Z.heap "java/lang/StringUTF16" "$assertionsDisabled" "Z" (.int 1)) (SH : Sta Z Z.heap "java/lang/StringUTF16" "HI_BYTE_SHIFT" "I" (.int 0)) (SL : Sta Z Z.heap "java/lang/StringUTF16" "LO_BYTE_SHIFT" "I" (.int 8)) (Vb : Arv Z h0 ab kb .byte z vs (.int 0)) (gb : n0 ≤ ab) (i1 : ¬ ((j <<< ((1 : Int32) &&& 31)) < 0) ∧ (j <<< ((1 : Int32) &&& 31)) < z) (i2 : ¬ (((j <<< ((1 : Int32) &&& 31)) + (1 : Int32)) < 0) ∧ ((j <<< ((1 : Int32) &&& 31)) + (1 : Int32)) < z) (t1 : ((j <<< ((1 : Int32) &&& 31))).toNatClampNeg = t) (t2 : (((j <<< ((1 : Int32) &&& 31)) + (1 : Int32))).toNatClampNeg = t + 1) (tl : t + 1 < vs.length) :
    MetFree l (⟨"java/lang/StringUTF16", "putChar", "([BII)V"⟩ : MethodName) (head1 (Jvm.Cond.code (⟨"java/lang/StringUTF16", "putChar", "([BII)V"⟩ : MethodName) jdk_52_method_4_code 3 none :: ws) ({ frames := 0, cells := 0, slots := 0, locals := 0 } : Room)) (fun a U => a = #[(.ref ab), (.int j), (.int q)] ∧ Z.Warmed39 U.vm ∧ U.heap = h0) (fun _ _ _ _ _ => True) (fun _ U o U' => ∃ v L, o = .returned v ∧ Q22 Z ab kb q z vs j t h0 n0 v U'.heap L ∧ FrameEnd U o U' L ({ frames := 0, cells := 0, slots := 0, locals := 0 } : Room).cells ({ frames := 0, cells := 0, slots := 0, locals := 0 } : Room).slots) := by
  refine MetFree.of_bodySF (plainFor_of_name pn_3) hisR ?_
  intro p e s m args below meth c s₁ Bd hml0 hP hK
  obtain ⟨rfl, hZ, hh⟩ := hP
  have hx := Bd.exec
  have hby := Bd.bytes
  have hml : c.maxLocals = 3 := hml0
  have hown : s.vm.findClass "java/lang/StringUTF16" = some m.cls := findClass_of_methodNamed Bd.named
  have hnm := (name_of_methodNamed Bd.named Bd.method).1
  have X0 : Stand p l e ({ frames := 0, cells := 0, slots := 0, locals := 0 } : Room) s m #[(.ref ab), (.int j), (.int q)] below meth c s₁ [] 0 0 := Stand.of_body Bd
  have e0 : s₁.heap = h0 := by rw [← hh, Bd.state]; rfl
  have N0 := Fr.nil n0
  have Z0 : n0 ≤ h0.size := O0.1 ▸ O0.2.1
  have K0 : Keep h0 h0 [ab] := Keep.refl _ _
  have pre0 : ∀ t, At p e below s₁ m 0 #[vR ab, vI j, vI q] [] t → Steps p.tables e below (s₁.setTop (entryFrame m #[(.ref ab), (.int j), (.int q)] 3)) t := fun t k => castTop (ef_22 m ab q j) k
  obtain ⟨T1, X1, e1, st1⟩ := getS2 X0 hx hZ hown (host := "") (Or.inl (wd hw 98 rfl)) Via.refl e0 (SA.ext O0.2) (g := (mkF m 0 #[vR ab, vI j, vI q] [])) rfl (hb hby d22_0)
  have pre2 := fun t (kt : At p e below T1 m 3 #[vR ab, vI j, vI q] [(.int 1)] t) => pre0 t (st1 _ kt)
  have pre3 := fun t (kt : At p e below T1 m 38 #[vR ab, .val (.int ((j <<< ((1 : Int32) &&& 31)) + (1 : Int32))), vI q] [(.int q), (.int (j <<< ((1 : Int32) &&& 31))), (.ref ab)] t) => pre2 t (by
    show At p e below T1 m 3 #[vR ab, vI j, vI q] [(.int 1)] _
    refine XS.ifYes X1.here hx rfl (pc0 := 3) (pc' := 28) rfl (hb hby d22_3) rfl ((if0 _ _).trans (feq (by decide : ¬ ((1 : Int32) = (0 : Int32)))).2) (by decide) (by decide) ?_
    show At p e below T1 m 28 #[vR ab, vI j, vI q] [] _
    refine XS.iloadN X1.here hx rfl (hb hby d22_28) rfl ?_
    show At p e below T1 m 29 #[vR ab, vI j, vI q] [(.int j)] _
    refine XS.iconst X1.here hx rfl (hb hby d22_29) ?_
    show At p e below T1 m 30 #[vR ab, vI j, vI q] [(.int 1), (.int j)] _
    refine XS.ishl X1.here hx rfl (hb hby d22_30) rfl ?_
    show At p e below T1 m 31 #[vR ab, vI j, vI q] [(.int (j <<< ((1 : Int32) &&& 31)))] _
    refine XS.istoreN X1.here hx rfl (hb hby d22_31) rfl (l' := #[vR ab, .val (.int (j <<< ((1 : Int32) &&& 31))), vI q]) rfl ?_
    show At p e below T1 m 32 #[vR ab, .val (.int (j <<< ((1 : Int32) &&& 31))), vI q] [] _
    refine XS.aloadN X1.here hx rfl (hb hby d22_32) rfl rfl ?_
    show At p e below T1 m 33 #[vR ab, .val (.int (j <<< ((1 : Int32) &&& 31))), vI q] [(.ref ab)] _
    refine XS.iloadN X1.here hx rfl (hb hby d22_33) rfl ?_
    show At p e below T1 m 34 #[vR ab, .val (.int (j <<< ((1 : Int32) &&& 31))), vI q] [(.int (j <<< ((1 : Int32) &&& 31))), (.ref ab)] _
    refine XS.iinc X1.here hx rfl (hb hby d22_34) rfl (l' := #[vR ab, .val (.int ((j <<< ((1 : Int32) &&& 31)) + (1 : Int32))), vI q]) rfl ?_
    show At p e below T1 m 37 #[vR ab, .val (.int ((j <<< ((1 : Int32) &&& 31)) + (1 : Int32))), vI q] [(.int (j <<< ((1 : Int32) &&& 31))), (.ref ab)] _
    refine XS.iloadN X1.here hx rfl (hb hby d22_37) rfl ?_
    exact kt)
  obtain ⟨T4, X4, e4, st4⟩ := getS2 X1 hx hZ hown (host := "") (Or.inl (wd hw 99 rfl)) Via.refl e1 (SH.ext O0.2) (g := (mkF m 38 #[vR ab, .val (.int ((j <<< ((1 : Int32) &&& 31)) + (1 : Int32))), vI q] [(.int q), (.int (j <<< ((1 : Int32) &&& 31))), (.ref ab)])) rfl (hb hby d22_38)
  have pre5 := fun t (kt : At p e below T4 m 41 #[vR ab, .val (.int ((j <<< ((1 : Int32) &&& 31)) + (1 : Int32))), vI q] [(.int 0), (.int q), (.int (j <<< ((1 : Int32) &&& 31))), (.ref ab)] t) => pre3 t (st4 _ kt)
  have pre6 := fun t (kt : At p e below T4 m 43 #[vR ab, .val (.int ((j <<< ((1 : Int32) &&& 31)) + (1 : Int32))), vI q] [(.int ((q >>> ((0 : Int32) &&& 31)).toInt8.toInt32)), (.int (j <<< ((1 : Int32) &&& 31))), (.ref ab)] t) => pre5 t (by
    show At p e below T4 m 41 #[vR ab, .val (.int ((j <<< ((1 : Int32) &&& 31)) + (1 : Int32))), vI q] [(.int 0), (.int q), (.int (j <<< ((1 : Int32) &&& 31))), (.ref ab)] _
    refine XS.ishr X4.here hx rfl (hb hby d22_41) rfl ?_
    show At p e below T4 m 42 #[vR ab, .val (.int ((j <<< ((1 : Int32) &&& 31)) + (1 : Int32))), vI q] [(.int (q >>> ((0 : Int32) &&& 31))), (.int (j <<< ((1 : Int32) &&& 31))), (.ref ab)] _
    refine XS.i2b X4.here hx rfl (hb hby d22_42) rfl ?_
    exact kt)
  obtain ⟨cl7, Ar7, qk7, Sz7, Nn7, Hh7, Gg7⟩ := id Vb
  have hin7 : ¬ ((j <<< ((1 : Int32) &&& 31)) < 0 ∨ cl7.slots.size ≤ ((j <<< ((1 : Int32) &&& 31))).toNatClampNeg) := inb_of Sz7 i1
  obtain ⟨T8, h8, X8, e8, W8, st8⟩ := stB X4 hx hZ e4 Ar7 (j := (j <<< ((1 : Int32) &&& 31))) hin7 (g := (mkF m 43 #[vR ab, .val (.int ((j <<< ((1 : Int32) &&& 31)) + (1 : Int32))), vI q] [(.int ((q >>> ((0 : Int32) &&& 31)).toInt8.toInt32)), (.int (j <<< ((1 : Int32) &&& 31))), (.ref ab)])) rfl rfl (hb hby d22_43)
  have V8 := Arv.set Ar7 qk7 Sz7 Nn7 Hh7 Gg7 (fits_nar_byte _) W8 t t1 (by omega)
  have N8 := Fr.snoc X8 N0 gb
  have pre9 := fun t (kt : At p e below T8 m 44 #[vR ab, .val (.int ((j <<< ((1 : Int32) &&& 31)) + (1 : Int32))), vI q] [] t) => pre6 t (st8 _ kt)
  have o10 : Old Z n0 h8 := (O0.wr W8 gb)
  have pre11 := fun t (kt : At p e below T8 m 47 #[vR ab, .val (.int ((j <<< ((1 : Int32) &&& 31)) + (1 : Int32))), vI q] [(.int q), (.int ((j <<< ((1 : Int32) &&& 31)) + (1 : Int32))), (.ref ab)] t) => pre9 t (by
    show At p e below T8 m 44 #[vR ab, .val (.int ((j <<< ((1 : Int32) &&& 31)) + (1 : Int32))), vI q] [] _
    refine XS.aloadN X8.here hx rfl (hb hby d22_44) rfl rfl ?_
    show At p e below T8 m 45 #[vR ab, .val (.int ((j <<< ((1 : Int32) &&& 31)) + (1 : Int32))), vI q] [(.ref ab)] _
    refine XS.iloadN X8.here hx rfl (hb hby d22_45) rfl ?_
    show At p e below T8 m 46 #[vR ab, .val (.int ((j <<< ((1 : Int32) &&& 31)) + (1 : Int32))), vI q] [(.int ((j <<< ((1 : Int32) &&& 31)) + (1 : Int32))), (.ref ab)] _
    refine XS.iloadN X8.here hx rfl (hb hby d22_46) rfl ?_
    exact kt)
  obtain ⟨T12, X12, e12, st12⟩ := getS2 X8 hx hZ hown (host := "") (Or.inl (wd hw 100 rfl)) Via.refl e8 (SL.ext o10.2) (g := (mkF m 47 #[vR ab, .val (.int ((j <<< ((1 : Int32) &&& 31)) + (1 : Int32))), vI q] [(.int q), (.int ((j <<< ((1 : Int32) &&& 31)) + (1 : Int32))), (.ref ab)])) rfl (hb hby d22_47)
  have pre13 := fun t (kt : At p e below T12 m 50 #[vR ab, .val (.int ((j <<< ((1 : Int32) &&& 31)) + (1 : Int32))), vI q] [(.int 8), (.int q), (.int ((j <<< ((1 : Int32) &&& 31)) + (1 : Int32))), (.ref ab)] t) => pre11 t (st12 _ kt)
  have pre14 := fun t (kt : At p e below T12 m 52 #[vR ab, .val (.int ((j <<< ((1 : Int32) &&& 31)) + (1 : Int32))), vI q] [(.int ((q >>> ((8 : Int32) &&& 31)).toInt8.toInt32)), (.int ((j <<< ((1 : Int32) &&& 31)) + (1 : Int32))), (.ref ab)] t) => pre13 t (by
    show At p e below T12 m 50 #[vR ab, .val (.int ((j <<< ((1 : Int32) &&& 31)) + (1 : Int32))), vI q] [(.int 8), (.int q), (.int ((j <<< ((1 : Int32) &&& 31)) + (1 : Int32))), (.ref ab)] _
    refine XS.ishr X12.here hx rfl (hb hby d22_50) rfl ?_
    show At p e below T12 m 51 #[vR ab, .val (.int ((j <<< ((1 : Int32) &&& 31)) + (1 : Int32))), vI q] [(.int (q >>> ((8 : Int32) &&& 31))), (.int ((j <<< ((1 : Int32) &&& 31)) + (1 : Int32))), (.ref ab)] _
    refine XS.i2b X12.here hx rfl (hb hby d22_51) rfl ?_
    exact kt)
  obtain ⟨cl15, Ar15, qk15, Sz15, Nn15, Hh15, Gg15⟩ := id V8
  have hin15 : ¬ (((j <<< ((1 : Int32) &&& 31)) + (1 : Int32)) < 0 ∨ cl15.slots.size ≤ (((j <<< ((1 : Int32) &&& 31)) + (1 : Int32))).toNatClampNeg) := inb_of Sz15 i2
  obtain ⟨T16, h16, X16, e16, W16, st16⟩ := stB X12 hx hZ e12 Ar15 (j := ((j <<< ((1 : Int32) &&& 31)) + (1 : Int32))) hin15 (g := (mkF m 52 #[vR ab, .val (.int ((j <<< ((1 : Int32) &&& 31)) + (1 : Int32))), vI q] [(.int ((q >>> ((8 : Int32) &&& 31)).toInt8.toInt32)), (.int ((j <<< ((1 : Int32) &&& 31)) + (1 : Int32))), (.ref ab)])) rfl rfl (hb hby d22_52)
  have V16 := Arv.set Ar15 qk15 Sz15 Nn15 Hh15 Gg15 (fits_nar_byte _) W16 (t + 1) t2 (by rw [List.length_set]; exact tl)
  have N16 := Fr.snoc X16 N8 gb
  have pre17 := fun t (kt : At p e below T16 m 53 #[vR ab, .val (.int ((j <<< ((1 : Int32) &&& 31)) + (1 : Int32))), vI q] [] t) => pre14 t (st16 _ kt)
  have k18 : Keep h0 h16 [ab] := ((K0.wr W8 (Or.inl (List.mem_of_getElem? (i := 0) rfl))).wr W16 (Or.inl (List.mem_of_getElem? (i := 0) rfl)))
  obtain ⟨fs, hr, hrun, hended, hW, hsame⟩ := X16.leave (v := none) (fun _ => rfl)
  refine ⟨_, _, pre17 _ ?_, hrun, hended, _, _, rfl, ?_, ⟨_, rfl⟩, hW, hsame.mono (by decide) (by decide)⟩
  · show At p e below T16 m 53 #[vR ab, .val (.int ((j <<< ((1 : Int32) &&& 31)) + (1 : Int32))), vI q] [] _
    exact X16.returnOut hx Bd.returns (hb hby d22_53) hr
  · show Q22 Z ab kb q z vs j t h0 n0 _ T16.heap _
    rw [e16]
    exact ⟨rfl, N16, k18, V16⟩
theorem ef_23 (m : MethodId) (ab : Addr) (j : Int32) : entryFrame m #[(.ref ab), (.int j)] 2 = (mkF m 0 #[vR ab, vI j] []) := by first | (simp [entryFrame, mkF, argsToLocals, Value.category]; done) | rfl
theorem d23_0 : decode jdk_52_method_5_code 0 = .ok (.getstatic 44, 3) := by decide +kernel
theorem d23_3 : decode jdk_52_method_5_code 3 = .ok (.ifCond .ne 25, 3) := by decide +kernel
theorem d23_28 : decode jdk_52_method_5_code 28 = .ok (.iload_n 1, 1) := by decide +kernel
theorem d23_29 : decode jdk_52_method_5_code 29 = .ok (.iconst 1, 1) := by decide +kernel
theorem d23_30 : decode jdk_52_method_5_code 30 = .ok (.ishl, 1) := by decide +kernel
theorem d23_31 : decode jdk_52_method_5_code 31 = .ok (.istore_n 1, 1) := by decide +kernel
theorem d23_32 : decode jdk_52_method_5_code 32 = .ok (.aload_n 0, 1) := by decide +kernel
theorem d23_33 : decode jdk_52_method_5_code 33 = .ok (.iload_n 1, 1) := by decide +kernel
theorem d23_34 : decode jdk_52_method_5_code 34 = .ok (.iinc 1 1, 3) := by decide +kernel
theorem d23_37 : decode jdk_52_method_5_code 37 = .ok (.baload, 1) := by decide +kernel
theorem d23_38 : decode jdk_52_method_5_code 38 = .ok (.sipush 255, 3) := by decide +kernel
theorem d23_41 : decode jdk_52_method_5_code 41 = .ok (.iand, 1) := by decide +kernel
theorem d23_42 : decode jdk_52_method_5_code 42 = .ok (.getstatic 59, 3) := by decide +kernel
theorem d23_45 : decode jdk_52_method_5_code 45 = .ok (.ishl, 1) := by decide +kernel
theorem d23_46 : decode jdk_52_method_5_code 46 = .ok (.aload_n 0, 1) := by decide +kernel
theorem d23_47 : decode jdk_52_method_5_code 47 = .ok (.iload_n 1, 1) := by decide +kernel
theorem d23_48 : decode jdk_52_method_5_code 48 = .ok (.baload, 1) := by decide +kernel
theorem d23_49 : decode jdk_52_method_5_code 49 = .ok (.sipush 255, 3) := by decide +kernel
theorem d23_52 : decode jdk_52_method_5_code 52 = .ok (.iand, 1) := by decide +kernel
theorem d23_53 : decode jdk_52_method_5_code 53 = .ok (.getstatic 63, 3) := by decide +kernel
theorem d23_56 : decode jdk_52_method_5_code 56 = .ok (.ishl, 1) := by decide +kernel
theorem d23_57 : decode jdk_52_method_5_code 57 = .ok (.ior, 1) := by decide +kernel
theorem d23_58 : decode jdk_52_method_5_code 58 = .ok (.i2c, 1) := by decide +kernel
theorem d23_59 : decode jdk_52_method_5_code 59 = .ok (.ireturn, 1) := by decide +kernel
def Q23 (Z : State) (ab : Addr) (kb : ClassId) (z : Int32) (vs : List Value) (j : Int32) (u1 : Int32) (u2 : Int32) (h0 : Heap) (n0 : Nat) (v : Option Value) (h : Heap) (L : List Loc) : Prop := v = some (.int (own_gc u1 u2)) ∧ Fr n0 L ∧ h = h0
set_option maxRecDepth 65536 in
set_option maxHeartbeats 40000000 in
theorem rm23 (l : Launch) (Z : State) (a0 : Array Value) (hw : ∀ d ∈ tables_1, d.before a0 Z = true) (ws : List Jvm.Cond) (ab : Addr) (kb : ClassId) (z : Int32) (vs : List Value) (j : Int32) (u1 : Int32) (u2 : Int32) (h0 : Heap) (n0 : Nat) (O0 : Old Z n0 h0) (SA : Sta Z Z.heap "java/lang/StringUTF16" "$assertionsDisabled" "Z" (.int 1)) (SH : Sta Z Z.heap "java/lang/StringUTF16" "HI_BYTE_SHIFT" "I" (.int 0)) (SL : Sta Z Z.heap "java/lang/StringUTF16" "LO_BYTE_SHIFT" "I" (.int 8)) (Vb : Arv Z h0 ab kb .byte z vs (.int 0)) (i1 : ¬ ((j <<< ((1 : Int32) &&& 31)) < 0) ∧ (j <<< ((1 : Int32) &&& 31)) < z) (i2 : ¬ (((j <<< ((1 : Int32) &&& 31)) + (1 : Int32)) < 0) ∧ ((j <<< ((1 : Int32) &&& 31)) + (1 : Int32)) < z) (ge1 : vs.getD ((j <<< ((1 : Int32) &&& 31))).toNatClampNeg (.int 0) = (.int u1)) (ge2 : vs.getD (((j <<< ((1 : Int32) &&& 31)) + (1 : Int32))).toNatClampNeg (.int 0) = (.int u2)) :
    MetFree l (⟨"java/lang/StringUTF16", "getChar", "([BI)C"⟩ : MethodName) (head1 (Jvm.Cond.code (⟨"java/lang/StringUTF16", "getChar", "([BI)C"⟩ : MethodName) jdk_52_method_5_code 2 (some .char) :: ws) ({ frames := 0, cells := 0, slots := 0, locals := 0 } : Room)) (fun a U => a = #[(.ref ab), (.int j)] ∧ Z.Warmed39 U.vm ∧ U.heap = h0) (fun _ _ _ _ _ => True) (fun _ U o U' => ∃ v L, o = .returned v ∧ Q23 Z ab kb z vs j u1 u2 h0 n0 v U'.heap L ∧ FrameEnd U o U' L ({ frames := 0, cells := 0, slots := 0, locals := 0 } : Room).cells ({ frames := 0, cells := 0, slots := 0, locals := 0 } : Room).slots) := by
  refine MetFree.of_bodySF (plainFor_of_name pn_3) hisR ?_
  intro p e s m args below meth c s₁ Bd hml0 hP hK
  obtain ⟨rfl, hZ, hh⟩ := hP
  have hx := Bd.exec
  have hby := Bd.bytes
  have hml : c.maxLocals = 2 := hml0
  have hown : s.vm.findClass "java/lang/StringUTF16" = some m.cls := findClass_of_methodNamed Bd.named
  have hnm := (name_of_methodNamed Bd.named Bd.method).1
  have X0 : Stand p l e ({ frames := 0, cells := 0, slots := 0, locals := 0 } : Room) s m #[(.ref ab), (.int j)] below meth c s₁ [] 0 0 := Stand.of_body Bd
  have e0 : s₁.heap = h0 := by rw [← hh, Bd.state]; rfl
  have N0 := Fr.nil n0
  have Z0 : n0 ≤ h0.size := O0.1 ▸ O0.2.1
  have pre0 : ∀ t, At p e below s₁ m 0 #[vR ab, vI j] [] t → Steps p.tables e below (s₁.setTop (entryFrame m #[(.ref ab), (.int j)] 2)) t := fun t k => castTop (ef_23 m ab j) k
  obtain ⟨T1, X1, e1, st1⟩ := getS2 X0 hx hZ hown (host := "") (Or.inl (wd hw 98 rfl)) Via.refl e0 (SA.ext O0.2) (g := (mkF m 0 #[vR ab, vI j] [])) rfl (hb hby d23_0)
  have pre2 := fun t (kt : At p e below T1 m 3 #[vR ab, vI j] [(.int 1)] t) => pre0 t (st1 _ kt)
  have pre3 := fun t (kt : At p e below T1 m 37 #[vR ab, .val (.int ((j <<< ((1 : Int32) &&& 31)) + (1 : Int32)))] [(.int (j <<< ((1 : Int32) &&& 31))), (.ref ab)] t) => pre2 t (by
    show At p e below T1 m 3 #[vR ab, vI j] [(.int 1)] _
    refine XS.ifYes X1.here hx rfl (pc0 := 3) (pc' := 28) rfl (hb hby d23_3) rfl ((if0 _ _).trans (feq (by decide : ¬ ((1 : Int32) = (0 : Int32)))).2) (by decide) (by decide) ?_
    show At p e below T1 m 28 #[vR ab, vI j] [] _
    refine XS.iloadN X1.here hx rfl (hb hby d23_28) rfl ?_
    show At p e below T1 m 29 #[vR ab, vI j] [(.int j)] _
    refine XS.iconst X1.here hx rfl (hb hby d23_29) ?_
    show At p e below T1 m 30 #[vR ab, vI j] [(.int 1), (.int j)] _
    refine XS.ishl X1.here hx rfl (hb hby d23_30) rfl ?_
    show At p e below T1 m 31 #[vR ab, vI j] [(.int (j <<< ((1 : Int32) &&& 31)))] _
    refine XS.istoreN X1.here hx rfl (hb hby d23_31) rfl (l' := #[vR ab, .val (.int (j <<< ((1 : Int32) &&& 31)))]) rfl ?_
    show At p e below T1 m 32 #[vR ab, .val (.int (j <<< ((1 : Int32) &&& 31)))] [] _
    refine XS.aloadN X1.here hx rfl (hb hby d23_32) rfl rfl ?_
    show At p e below T1 m 33 #[vR ab, .val (.int (j <<< ((1 : Int32) &&& 31)))] [(.ref ab)] _
    refine XS.iloadN X1.here hx rfl (hb hby d23_33) rfl ?_
    show At p e below T1 m 34 #[vR ab, .val (.int (j <<< ((1 : Int32) &&& 31)))] [(.int (j <<< ((1 : Int32) &&& 31))), (.ref ab)] _
    refine XS.iinc X1.here hx rfl (hb hby d23_34) rfl (l' := #[vR ab, .val (.int ((j <<< ((1 : Int32) &&& 31)) + (1 : Int32)))]) rfl ?_
    exact kt)
  obtain ⟨cl4, Ar4, qk4, Sz4, Nn4, Hh4, Gg4⟩ := id Vb
  have hin4 : ¬ ((j <<< ((1 : Int32) &&& 31)) < 0 ∨ cl4.slots.size ≤ ((j <<< ((1 : Int32) &&& 31))).toNatClampNeg) := inb_of Sz4 i1
  have hat4 : cl4.slots[((j <<< ((1 : Int32) &&& 31))).toNatClampNeg]? = some (.int u1) := Hh4.at hin4 ge1
  have pre5 := fun t (kt : At p e below T1 m 42 #[vR ab, .val (.int ((j <<< ((1 : Int32) &&& 31)) + (1 : Int32)))] [(.int (u1 &&& (255 : Int32)))] t) => pre3 t (by
    show At p e below T1 m 37 #[vR ab, .val (.int ((j <<< ((1 : Int32) &&& 31)) + (1 : Int32)))] [(.int (j <<< ((1 : Int32) &&& 31))), (.ref ab)] _
    refine X1.baloadBytes hx (j := (j <<< ((1 : Int32) &&& 31))) (v := (.int u1)) (by rw [e1]; exact Ar4.1) (State.isArrayOf_alike hZ.alike Ar4.2.1) Ar4.2.2 hin4 hat4 (g := (mkF m 37 #[vR ab, .val (.int ((j <<< ((1 : Int32) &&& 31)) + (1 : Int32)))] [(.int (j <<< ((1 : Int32) &&& 31))), (.ref ab)])) rfl rfl (hb hby d23_37) _ ?_
    show At p e below T1 m 38 #[vR ab, .val (.int ((j <<< ((1 : Int32) &&& 31)) + (1 : Int32)))] [(.int u1)] _
    refine XS.sipush X1.here hx rfl (hb hby d23_38) ?_
    show At p e below T1 m 41 #[vR ab, .val (.int ((j <<< ((1 : Int32) &&& 31)) + (1 : Int32)))] [(.int 255), (.int u1)] _
    refine XS.iand X1.here hx rfl (hb hby d23_41) rfl ?_
    exact kt)
  obtain ⟨T6, X6, e6, st6⟩ := getS2 X1 hx hZ hown (host := "") (Or.inl (wd hw 99 rfl)) Via.refl e1 (SH.ext O0.2) (g := (mkF m 42 #[vR ab, .val (.int ((j <<< ((1 : Int32) &&& 31)) + (1 : Int32)))] [(.int (u1 &&& (255 : Int32)))])) rfl (hb hby d23_42)
  have pre7 := fun t (kt : At p e below T6 m 45 #[vR ab, .val (.int ((j <<< ((1 : Int32) &&& 31)) + (1 : Int32)))] [(.int 0), (.int (u1 &&& (255 : Int32)))] t) => pre5 t (st6 _ kt)
  have pre8 := fun t (kt : At p e below T6 m 48 #[vR ab, .val (.int ((j <<< ((1 : Int32) &&& 31)) + (1 : Int32)))] [(.int ((j <<< ((1 : Int32) &&& 31)) + (1 : Int32))), (.ref ab), (.int ((u1 &&& (255 : Int32)) <<< ((0 : Int32) &&& 31)))] t) => pre7 t (by
    show At p e below T6 m 45 #[vR ab, .val (.int ((j <<< ((1 : Int32) &&& 31)) + (1 : Int32)))] [(.int 0), (.int (u1 &&& (255 : Int32)))] _
    refine XS.ishl X6.here hx rfl (hb hby d23_45) rfl ?_
    show At p e below T6 m 46 #[vR ab, .val (.int ((j <<< ((1 : Int32) &&& 31)) + (1 : Int32)))] [(.int ((u1 &&& (255 : Int32)) <<< ((0 : Int32) &&& 31)))] _
    refine XS.aloadN X6.here hx rfl (hb hby d23_46) rfl rfl ?_
    show At p e below T6 m 47 #[vR ab, .val (.int ((j <<< ((1 : Int32) &&& 31)) + (1 : Int32)))] [(.ref ab), (.int ((u1 &&& (255 : Int32)) <<< ((0 : Int32) &&& 31)))] _
    refine XS.iloadN X6.here hx rfl (hb hby d23_47) rfl ?_
    exact kt)
  obtain ⟨cl9, Ar9, qk9, Sz9, Nn9, Hh9, Gg9⟩ := id Vb
  have hin9 : ¬ (((j <<< ((1 : Int32) &&& 31)) + (1 : Int32)) < 0 ∨ cl9.slots.size ≤ (((j <<< ((1 : Int32) &&& 31)) + (1 : Int32))).toNatClampNeg) := inb_of Sz9 i2
  have hat9 : cl9.slots[(((j <<< ((1 : Int32) &&& 31)) + (1 : Int32))).toNatClampNeg]? = some (.int u2) := Hh9.at hin9 ge2
  have pre10 := fun t (kt : At p e below T6 m 53 #[vR ab, .val (.int ((j <<< ((1 : Int32) &&& 31)) + (1 : Int32)))] [(.int (u2 &&& (255 : Int32))), (.int ((u1 &&& (255 : Int32)) <<< ((0 : Int32) &&& 31)))] t) => pre8 t (by
    show At p e below T6 m 48 #[vR ab, .val (.int ((j <<< ((1 : Int32) &&& 31)) + (1 : Int32)))] [(.int ((j <<< ((1 : Int32) &&& 31)) + (1 : Int32))), (.ref ab), (.int ((u1 &&& (255 : Int32)) <<< ((0 : Int32) &&& 31)))] _
    refine X6.baloadBytes hx (j := ((j <<< ((1 : Int32) &&& 31)) + (1 : Int32))) (v := (.int u2)) (by rw [e6]; exact Ar9.1) (State.isArrayOf_alike hZ.alike Ar9.2.1) Ar9.2.2 hin9 hat9 (g := (mkF m 48 #[vR ab, .val (.int ((j <<< ((1 : Int32) &&& 31)) + (1 : Int32)))] [(.int ((j <<< ((1 : Int32) &&& 31)) + (1 : Int32))), (.ref ab), (.int ((u1 &&& (255 : Int32)) <<< ((0 : Int32) &&& 31)))])) rfl rfl (hb hby d23_48) _ ?_
    show At p e below T6 m 49 #[vR ab, .val (.int ((j <<< ((1 : Int32) &&& 31)) + (1 : Int32)))] [(.int u2), (.int ((u1 &&& (255 : Int32)) <<< ((0 : Int32) &&& 31)))] _
    refine XS.sipush X6.here hx rfl (hb hby d23_49) ?_
    show At p e below T6 m 52 #[vR ab, .val (.int ((j <<< ((1 : Int32) &&& 31)) + (1 : Int32)))] [(.int 255), (.int u2), (.int ((u1 &&& (255 : Int32)) <<< ((0 : Int32) &&& 31)))] _
    refine XS.iand X6.here hx rfl (hb hby d23_52) rfl ?_
    exact kt)
  obtain ⟨T11, X11, e11, st11⟩ := getS2 X6 hx hZ hown (host := "") (Or.inl (wd hw 100 rfl)) Via.refl e6 (SL.ext O0.2) (g := (mkF m 53 #[vR ab, .val (.int ((j <<< ((1 : Int32) &&& 31)) + (1 : Int32)))] [(.int (u2 &&& (255 : Int32))), (.int ((u1 &&& (255 : Int32)) <<< ((0 : Int32) &&& 31)))])) rfl (hb hby d23_53)
  have pre12 := fun t (kt : At p e below T11 m 56 #[vR ab, .val (.int ((j <<< ((1 : Int32) &&& 31)) + (1 : Int32)))] [(.int 8), (.int (u2 &&& (255 : Int32))), (.int ((u1 &&& (255 : Int32)) <<< ((0 : Int32) &&& 31)))] t) => pre10 t (st11 _ kt)
  have pre13 := fun t (kt : At p e below T11 m 59 #[vR ab, .val (.int ((j <<< ((1 : Int32) &&& 31)) + (1 : Int32)))] [(.int ((((u1 &&& (255 : Int32)) <<< ((0 : Int32) &&& 31)) ||| ((u2 &&& (255 : Int32)) <<< ((8 : Int32) &&& 31))).toUInt32.toUInt16.toUInt32.toInt32))] t) => pre12 t (by
    show At p e below T11 m 56 #[vR ab, .val (.int ((j <<< ((1 : Int32) &&& 31)) + (1 : Int32)))] [(.int 8), (.int (u2 &&& (255 : Int32))), (.int ((u1 &&& (255 : Int32)) <<< ((0 : Int32) &&& 31)))] _
    refine XS.ishl X11.here hx rfl (hb hby d23_56) rfl ?_
    show At p e below T11 m 57 #[vR ab, .val (.int ((j <<< ((1 : Int32) &&& 31)) + (1 : Int32)))] [(.int ((u2 &&& (255 : Int32)) <<< ((8 : Int32) &&& 31))), (.int ((u1 &&& (255 : Int32)) <<< ((0 : Int32) &&& 31)))] _
    refine XS.ior X11.here hx rfl (hb hby d23_57) rfl ?_
    show At p e below T11 m 58 #[vR ab, .val (.int ((j <<< ((1 : Int32) &&& 31)) + (1 : Int32)))] [(.int (((u1 &&& (255 : Int32)) <<< ((0 : Int32) &&& 31)) ||| ((u2 &&& (255 : Int32)) <<< ((8 : Int32) &&& 31))))] _
    refine XS.i2c X11.here hx rfl (hb hby d23_58) rfl ?_
    exact kt)
  obtain ⟨fs, hr, hrun, hended, hW, hsame⟩ := X11.leave (v := (some (.int (own_gc u1 u2)))) (fun h => by rw [Bd.returns] at h; cases h)
  refine ⟨_, _, pre13 _ ?_, hrun, hended, _, _, rfl, ?_, ⟨_, rfl⟩, hW, hsame.mono (by decide) (by decide)⟩
  · show At p e below T11 m 59 #[vR ab, .val (.int ((j <<< ((1 : Int32) &&& 31)) + (1 : Int32)))] [(.int ((((u1 &&& (255 : Int32)) <<< ((0 : Int32) &&& 31)) ||| ((u2 &&& (255 : Int32)) <<< ((8 : Int32) &&& 31))).toUInt32.toUInt16.toUInt32.toInt32))] _
    exact retN X11 hx (t := .char) Bd.returns (by simp) (hb hby d23_59) hr
  · show Q23 Z ab kb z vs j u1 u2 h0 n0 _ T11.heap _
    rw [e11]
    exact ⟨rfl, N0, rfl⟩
theorem ef_19_1 (m : MethodId) (ac : Addr) : entryFrame m #[(.ref ac), (.int 0), (.int 1)] 5 = (mkF m 0 #[vR ac, vI 0, vI 1, vU, vU] []) := by first | (simp [entryFrame, mkF, argsToLocals, Value.category]; done) | rfl
theorem d19_0 : decode jdk_52_method_14_code 0 = .ok (.iload_n 2, 1) := by decide +kernel
theorem pd_1 : parseMethodDescriptor "(I)[B" = some ⟨[.int], some (.array .byte)⟩ := by decide +kernel
theorem d19_1 : decode jdk_52_method_14_code 1 = .ok (.invokestatic 107, 3) := by decide +kernel
theorem d19_4 : decode jdk_52_method_14_code 4 = .ok (.astore_n 3, 1) := by decide +kernel
theorem d19_5 : decode jdk_52_method_14_code 5 = .ok (.iconst 0, 1) := by decide +kernel
theorem d19_6 : decode jdk_52_method_14_code 6 = .ok (.istore 4, 2) := by decide +kernel
theorem d19_8 : decode jdk_52_method_14_code 8 = .ok (.iload 4, 2) := by decide +kernel
theorem d19_10 : decode jdk_52_method_14_code 10 = .ok (.iload_n 2, 1) := by decide +kernel
theorem d19_11 : decode jdk_52_method_14_code 11 = .ok (.if_icmp .ge 21, 3) := by decide +kernel
theorem d19_14 : decode jdk_52_method_14_code 14 = .ok (.aload_n 3, 1) := by decide +kernel
theorem d19_15 : decode jdk_52_method_14_code 15 = .ok (.iload 4, 2) := by decide +kernel
theorem d19_17 : decode jdk_52_method_14_code 17 = .ok (.aload_n 0, 1) := by decide +kernel
theorem d19_18 : decode jdk_52_method_14_code 18 = .ok (.iload_n 1, 1) := by decide +kernel
theorem d19_19 : decode jdk_52_method_14_code 19 = .ok (.caload, 1) := by decide +kernel
theorem pd_2 : parseMethodDescriptor "([BII)V" = some ⟨[(.array .byte), .int, .int], none⟩ := by decide +kernel
theorem d19_20 : decode jdk_52_method_14_code 20 = .ok (.invokestatic 111, 3) := by decide +kernel
theorem d19_23 : decode jdk_52_method_14_code 23 = .ok (.iinc 1 1, 3) := by decide +kernel
theorem d19_26 : decode jdk_52_method_14_code 26 = .ok (.iinc 4 1, 3) := by decide +kernel
theorem d19_29 : decode jdk_52_method_14_code 29 = .ok (.goto (-21), 3) := by decide +kernel
theorem d19_32 : decode jdk_52_method_14_code 32 = .ok (.aload_n 3, 1) := by decide +kernel
theorem d19_33 : decode jdk_52_method_14_code 33 = .ok (.areturn, 1) := by decide +kernel
def Q19_1 (Z : State) (ac : Addr) (kc : ClassId) (q1 : Int32) (h0 : Heap) (n0 : Nat) (v : Option Value) (h : Heap) (L : List Loc) : Prop := v = some (.ref h0.size) ∧ Fr n0 L ∧ Keep h0 h [] ∧ ∃ kb : ClassId, Arv Z h h0.size kb .byte (2 : Int32) [(.int (nar .byte ((q1 >>> ((0 : Int32) &&& 31)).toInt8.toInt32))), (.int (nar .byte ((q1 >>> ((8 : Int32) &&& 31)).toInt8.toInt32)))] (.int 0)
set_option maxRecDepth 65536 in
set_option maxHeartbeats 40000000 in
theorem rm19_1 (l : Launch) (Z : State) (a0 : Array Value) (hw : ∀ d ∈ tables_1, d.before a0 Z = true) (ws : List Jvm.Cond) (ac : Addr) (kc : ClassId) (q1 : Int32) (h0 : Heap) (n0 : Nat) (O0 : Old Z n0 h0) (SA : Sta Z Z.heap "java/lang/StringUTF16" "$assertionsDisabled" "Z" (.int 1)) (SH : Sta Z Z.heap "java/lang/StringUTF16" "HI_BYTE_SHIFT" "I" (.int 0)) (SL : Sta Z Z.heap "java/lang/StringUTF16" "LO_BYTE_SHIFT" "I" (.int 8)) (Vc : Arv Z h0 ac kc .char (1 : Int32) [(.int q1)] (.int 0)) :
    MetFree l (⟨"java/lang/StringUTF16", "toBytes", "([CII)[B"⟩ : MethodName) (head1 (Jvm.Cond.code (⟨"java/lang/StringUTF16", "toBytes", "([CII)[B"⟩ : MethodName) jdk_52_method_14_code 5 (some (.array .byte)) :: ws) ({ frames := 2, cells := 1, slots := 2, locals := 24 } : Room)) (fun a U => a = #[(.ref ac), (.int 0), (.int 1)] ∧ Z.Warmed39 U.vm ∧ U.heap = h0) (fun _ _ _ _ _ => True) (fun _ U o U' => ∃ v L, o = .returned v ∧ Q19_1 Z ac kc q1 h0 n0 v U'.heap L ∧ FrameEnd U o U' L ({ frames := 2, cells := 1, slots := 2, locals := 24 } : Room).cells ({ frames := 2, cells := 1, slots := 2, locals := 24 } : Room).slots) := by
  refine MetFree.of_bodySF (plainFor_of_name pn_3) hisR ?_
  intro p e s m args below meth c s₁ Bd hml0 hP hK
  obtain ⟨rfl, hZ, hh⟩ := hP
  have hx := Bd.exec
  have hby := Bd.bytes
  have hml : c.maxLocals = 5 := hml0
  have hown : s.vm.findClass "java/lang/StringUTF16" = some m.cls := findClass_of_methodNamed Bd.named
  have hnm := (name_of_methodNamed Bd.named Bd.method).1
  have X0 : Stand p l e ({ frames := 2, cells := 1, slots := 2, locals := 24 } : Room) s m #[(.ref ac), (.int 0), (.int 1)] below meth c s₁ [] 0 0 := Stand.of_body Bd
  have e0 : s₁.heap = h0 := by rw [← hh, Bd.state]; rfl
  have N0 := Fr.nil n0
  have Z0 : n0 ≤ h0.size := O0.1 ▸ O0.2.1
  have K0 : Keep h0 h0 [] := Keep.refl _ _
  have pre0 : ∀ t, At p e below s₁ m 0 #[vR ac, vI 0, vI 1, vU, vU] [] t → Steps p.tables e below (s₁.setTop (entryFrame m #[(.ref ac), (.int 0), (.int 1)] 5)) t := fun t k => castTop (ef_19_1 m ac) k
  have pre1 := fun t (kt : At p e below s₁ m 1 #[vR ac, vI 0, vI 1, vU, vU] [(.int 1)] t) => pre0 t (by
    show At p e below s₁ m 0 #[vR ac, vI 0, vI 1, vU, vU] [] _
    refine XS.iloadN X0.here hx rfl (hb hby d19_0) rfl ?_
    exact kt)
  obtain ⟨_, _, ⟨T2, L2, kc2, nc2⟩, -, X2, ⟨Lc2, hQ2, l2, y2, z2⟩, st2⟩ := Jvm.LawKit.callS X0 hx (y := (⟨"java/lang/StringUTF16", "newBytesFor", "(I)[B"⟩ : MethodName)) hown (mvT hZ (wd hw 88 rfl)) (mvT hZ (wd hw 89 rfl)) (mvT hZ (wd hw 70 rfl)) (mvT hZ (wd hw 90 rfl)) (by decide) (backOf (W := 0) (rm20_1 l Z a0 hw [] h0 n0 Z0) hZ (wd hw 90 rfl) (wd hw 70 rfl) (by decide) (by decide)) (g := (mkF m 1 #[vR ac, vI 0, vI 1, vU, vU] [(.int 1)])) rfl (by rw [hml]; rfl) (argsL := [(.int 1)]) (rest := []) (lenOf pd_1 rfl) rfl (by show 2 * 0 + _ ≤ _; exact Nat.le_of_eq rfl) (hb hby d19_1) (fun _ _ => ⟨rfl, e0, (by decide : 0 + 1 ≤ _), (by decide : 0 + 2 ≤ _)⟩)
  dsimp only [Pt.U, Pt.locs, Pt.cells, Pt.slots] at X2 l2 y2 z2 st2 hQ2
  subst l2 y2 z2
  obtain ⟨rfl, N2q, K2, kk2, Va2⟩ := hQ2
  have N2 := Fr.app N0 N2q
  obtain ⟨b2, gq2⟩ : ∃ z, z = h0.size := ⟨_, rfl⟩
  rw [← gq2] at Va2 st2
  have gg_b2 : n0 ≤ b2 := Nat.le_trans Z0 (Nat.le_of_eq gq2.symm)
  have sz_b2 : h0.size ≤ b2 := Nat.le_trans K0.1 (Nat.le_of_eq gq2.symm)
  have pre3 := fun t (kt : At p e below T2 m 4 #[vR ac, vI 0, vI 1, vU, vU] [(.ref b2)] t) => pre1 t (st2 _ kt)
  have pre4 := fun t (kt : At p e below T2 m 19 #[vR ac, vI 0, vI 1, vR b2, vI 0] [(.int 0), (.ref ac), (.int 0), (.ref b2)] t) => pre3 t (by
    show At p e below T2 m 4 #[vR ac, vI 0, vI 1, vU, vU] [(.ref b2)] _
    refine XS.astoreN X2.here hx rfl (hb hby d19_4) rfl rfl (l' := #[vR ac, vI 0, vI 1, vR b2, vU]) rfl ?_
    show At p e below T2 m 5 #[vR ac, vI 0, vI 1, vR b2, vU] [] _
    refine XS.iconst X2.here hx rfl (hb hby d19_5) ?_
    show At p e below T2 m 6 #[vR ac, vI 0, vI 1, vR b2, vU] [(.int 0)] _
    refine XS.istore X2.here hx rfl (hb hby d19_6) rfl (l' := #[vR ac, vI 0, vI 1, vR b2, vI 0]) rfl ?_
    show At p e below T2 m 8 #[vR ac, vI 0, vI 1, vR b2, vI 0] [] _
    refine XS.iload X2.here hx rfl (hb hby d19_8) rfl ?_
    show At p e below T2 m 10 #[vR ac, vI 0, vI 1, vR b2, vI 0] [(.int 0)] _
    refine XS.iloadN X2.here hx rfl (hb hby d19_10) rfl ?_
    show At p e below T2 m 11 #[vR ac, vI 0, vI 1, vR b2, vI 0] [(.int 1), (.int 0)] _
    refine XS.icmpNo X2.here hx rfl (hb hby d19_11) rfl (tlt (by decide : (0 : Int32) < (1 : Int32))).2.1 ?_
    show At p e below T2 m 14 #[vR ac, vI 0, vI 1, vR b2, vI 0] [] _
    refine XS.aloadN X2.here hx rfl (hb hby d19_14) rfl rfl ?_
    show At p e below T2 m 15 #[vR ac, vI 0, vI 1, vR b2, vI 0] [(.ref b2)] _
    refine XS.iload X2.here hx rfl (hb hby d19_15) rfl ?_
    show At p e below T2 m 17 #[vR ac, vI 0, vI 1, vR b2, vI 0] [(.int 0), (.ref b2)] _
    refine XS.aloadN X2.here hx rfl (hb hby d19_17) rfl rfl ?_
    show At p e below T2 m 18 #[vR ac, vI 0, vI 1, vR b2, vI 0] [(.ref ac), (.int 0), (.ref b2)] _
    refine XS.iloadN X2.here hx rfl (hb hby d19_18) rfl ?_
    exact kt)
  have f5 := (Vc.keep K2 nin0)
  obtain ⟨cl6, Ar6, qk6, Sz6, Nn6, Hh6, Gg6⟩ := id f5
  have hin6 : ¬ ((0 : Int32) < 0 ∨ cl6.slots.size ≤ ((0 : Int32)).toNatClampNeg) := inb_of Sz6 ⟨by decide, by decide⟩
  have hat6 : cl6.slots[((0 : Int32)).toNatClampNeg]? = some (.int q1) := Hh6.at hin6 rfl
  have o7 : Old Z n0 T2.heap := (O0.keep K2 all0)
  have pre8 := fun t (kt : At p e below T2 m 20 #[vR ac, vI 0, vI 1, vR b2, vI 0] [(.int q1), (.int 0), (.ref b2)] t) => pre4 t (by
    show At p e below T2 m 19 #[vR ac, vI 0, vI 1, vR b2, vI 0] [(.int 0), (.ref ac), (.int 0), (.ref b2)] _
    refine X2.caload hx (j := (0 : Int32)) (v := (.int q1)) Ar6.1 (State.isArrayOf_alike hZ.alike Ar6.2.1) Ar6.2.2 hin6 hat6 (g := (mkF m 19 #[vR ac, vI 0, vI 1, vR b2, vI 0] [(.int 0), (.ref ac), (.int 0), (.ref b2)])) rfl rfl (hb hby d19_19) _ ?_
    exact kt)
  obtain ⟨_, _, ⟨T9, L9, kc9, nc9⟩, -, X9, ⟨Lc9, hQ9, l9, y9, z9⟩, st9⟩ := Jvm.LawKit.callS X2 hx (y := (⟨"java/lang/StringUTF16", "putChar", "([BII)V"⟩ : MethodName)) hown (mvT hZ (wd hw 95 rfl)) (mvT hZ (wd hw 96 rfl)) (mvT hZ (wd hw 70 rfl)) (mvT hZ (wd hw 97 rfl)) (by decide) (backOf (W := 0) (rm22 l Z a0 hw [] b2 kk2 q1 (2 : Int32) _ (0 : Int32) 0 T2.heap n0 o7 SA SH SL Va2 gg_b2 ⟨by decide, by decide⟩ ⟨by decide, by decide⟩ (by decide) (by decide) (Nat.le_of_ble_eq_true rfl)) hZ (wd hw 97 rfl) (wd hw 70 rfl) (by decide) (by decide)) (g := (mkF m 20 #[vR ac, vI 0, vI 1, vR b2, vI 0] [(.int q1), (.int 0), (.ref b2)])) rfl (by rw [hml]; rfl) (argsL := [(.ref b2), (.int 0), (.int q1)]) (rest := []) (lenOf pd_2 rfl) rfl (by show 2 * 0 + _ ≤ _; exact Nat.le_of_eq rfl) (hb hby d19_20) (fun _ _ => ⟨rfl, rfl, (by decide : 1 + 0 ≤ _), (by decide : 2 + 0 ≤ _)⟩)
  dsimp only [Pt.U, Pt.locs, Pt.cells, Pt.slots] at X9 l9 y9 z9 st9 hQ9
  subst l9 y9 z9
  obtain ⟨rfl, N9q, K9, Va9⟩ := hQ9
  have N9 := Fr.app N2 N9q
  have pre10 := fun t (kt : At p e below T9 m 23 #[vR ac, vI 0, vI 1, vR b2, vI 0] [] t) => pre8 t (st9 _ kt)
  have Vx9 : Arv Z T9.heap b2 kk2 .byte (2 : Int32) [(.int (nar .byte ((q1 >>> ((0 : Int32) &&& 31)).toInt8.toInt32))), (.int (nar .byte ((q1 >>> ((8 : Int32) &&& 31)).toInt8.toInt32)))] (.int 0) := Va9
  have k11 : Keep h0 T9.heap [] := ((K0.trans K2 all0).trans K9 (allS (Or.inr sz_b2) all0))
  have pre12 := fun t (kt : At p e below T9 m 33 #[vR ac, vI 1, vI 1, vR b2, vI 1] [(.ref b2)] t) => pre10 t (by
    show At p e below T9 m 23 #[vR ac, vI 0, vI 1, vR b2, vI 0] [] _
    refine XS.iinc X9.here hx rfl (hb hby d19_23) rfl (l' := #[vR ac, .val (.int ((0 : Int32) + (1 : Int32))), vI 1, vR b2, vI 0]) rfl ?_
    show At p e below T9 m 26 #[vR ac, .val (.int ((0 : Int32) + (1 : Int32))), vI 1, vR b2, vI 0] [] _
    show At p e below T9 m 26 #[vR ac, vI 1, vI 1, vR b2, vI 0] [] _
    refine XS.iinc X9.here hx rfl (hb hby d19_26) rfl (l' := #[vR ac, vI 1, vI 1, vR b2, .val (.int ((0 : Int32) + (1 : Int32)))]) rfl ?_
    show At p e below T9 m 29 #[vR ac, vI 1, vI 1, vR b2, .val (.int ((0 : Int32) + (1 : Int32)))] [] _
    show At p e below T9 m 29 #[vR ac, vI 1, vI 1, vR b2, vI 1] [] _
    refine XS.goto X9.here hx rfl (pc0 := 29) (pc' := 8) rfl (hb hby d19_29) (by decide) (by decide) ?_
    show At p e below T9 m 8 #[vR ac, vI 1, vI 1, vR b2, vI 1] [] _
    refine XS.iload X9.here hx rfl (hb hby d19_8) rfl ?_
    show At p e below T9 m 10 #[vR ac, vI 1, vI 1, vR b2, vI 1] [(.int 1)] _
    refine XS.iloadN X9.here hx rfl (hb hby d19_10) rfl ?_
    show At p e below T9 m 11 #[vR ac, vI 1, vI 1, vR b2, vI 1] [(.int 1), (.int 1)] _
    refine XS.icmpYes X9.here hx rfl (pc0 := 11) (pc' := 32) rfl (hb hby d19_11) rfl (flt (by decide : ¬ ((1 : Int32) < (1 : Int32)))).2.1 (by decide) (by decide) ?_
    show At p e below T9 m 32 #[vR ac, vI 1, vI 1, vR b2, vI 1] [] _
    refine XS.aloadN X9.here hx rfl (hb hby d19_32) rfl rfl ?_
    exact kt)
  obtain ⟨fs, hr, hrun, hended, hW, hsame⟩ := X9.leave (v := (some (.ref b2))) (fun h => by rw [Bd.returns] at h; cases h)
  refine ⟨_, _, pre12 _ ?_, hrun, hended, _, _, rfl, ?_, ⟨_, rfl⟩, hW, hsame.mono (by decide) (by decide)⟩
  · show At p e below T9 m 33 #[vR ac, vI 1, vI 1, vR b2, vI 1] [(.ref b2)] _
    exact retOut X9 hx (t := (.array .byte)) Bd.returns rfl (Or.inr (Or.inr (Or.inr (Or.inr ⟨rfl, rfl, rfl⟩)))) (hb hby d19_33) hr
  · show Q19_1 Z ac kc q1 h0 n0 _ T9.heap _
    exact ⟨by rw [gq2], N9, k11, _, by rw [← gq2]; exact Vx9⟩
theorem ef_19_2 (m : MethodId) (ac : Addr) : entryFrame m #[(.ref ac), (.int 0), (.int 2)] 5 = (mkF m 0 #[vR ac, vI 0, vI 2, vU, vU] []) := by first | (simp [entryFrame, mkF, argsToLocals, Value.category]; done) | rfl
def Q19_2 (Z : State) (ac : Addr) (kc : ClassId) (q1 : Int32) (q2 : Int32) (h0 : Heap) (n0 : Nat) (v : Option Value) (h : Heap) (L : List Loc) : Prop := v = some (.ref h0.size) ∧ Fr n0 L ∧ Keep h0 h [] ∧ ∃ kb : ClassId, Arv Z h h0.size kb .byte (4 : Int32) [(.int (nar .byte ((q1 >>> ((0 : Int32) &&& 31)).toInt8.toInt32))), (.int (nar .byte ((q1 >>> ((8 : Int32) &&& 31)).toInt8.toInt32))), (.int (nar .byte ((q2 >>> ((0 : Int32) &&& 31)).toInt8.toInt32))), (.int (nar .byte ((q2 >>> ((8 : Int32) &&& 31)).toInt8.toInt32)))] (.int 0)
set_option maxRecDepth 65536 in
set_option maxHeartbeats 40000000 in
theorem rm19_2 (l : Launch) (Z : State) (a0 : Array Value) (hw : ∀ d ∈ tables_1, d.before a0 Z = true) (ws : List Jvm.Cond) (ac : Addr) (kc : ClassId) (q1 : Int32) (q2 : Int32) (h0 : Heap) (n0 : Nat) (O0 : Old Z n0 h0) (SA : Sta Z Z.heap "java/lang/StringUTF16" "$assertionsDisabled" "Z" (.int 1)) (SH : Sta Z Z.heap "java/lang/StringUTF16" "HI_BYTE_SHIFT" "I" (.int 0)) (SL : Sta Z Z.heap "java/lang/StringUTF16" "LO_BYTE_SHIFT" "I" (.int 8)) (Vc : Arv Z h0 ac kc .char (2 : Int32) [(.int q1), (.int q2)] (.int 0)) :
    MetFree l (⟨"java/lang/StringUTF16", "toBytes", "([CII)[B"⟩ : MethodName) (head1 (Jvm.Cond.code (⟨"java/lang/StringUTF16", "toBytes", "([CII)[B"⟩ : MethodName) jdk_52_method_14_code 5 (some (.array .byte)) :: ws) ({ frames := 2, cells := 1, slots := 4, locals := 24 } : Room)) (fun a U => a = #[(.ref ac), (.int 0), (.int 2)] ∧ Z.Warmed39 U.vm ∧ U.heap = h0) (fun _ _ _ _ _ => True) (fun _ U o U' => ∃ v L, o = .returned v ∧ Q19_2 Z ac kc q1 q2 h0 n0 v U'.heap L ∧ FrameEnd U o U' L ({ frames := 2, cells := 1, slots := 4, locals := 24 } : Room).cells ({ frames := 2, cells := 1, slots := 4, locals := 24 } : Room).slots) := by
  refine MetFree.of_bodySF (plainFor_of_name pn_3) hisR ?_
  intro p e s m args below meth c s₁ Bd hml0 hP hK
  obtain ⟨rfl, hZ, hh⟩ := hP
  have hx := Bd.exec
  have hby := Bd.bytes
  have hml : c.maxLocals = 5 := hml0
  have hown : s.vm.findClass "java/lang/StringUTF16" = some m.cls := findClass_of_methodNamed Bd.named
  have hnm := (name_of_methodNamed Bd.named Bd.method).1
  have X0 : Stand p l e ({ frames := 2, cells := 1, slots := 4, locals := 24 } : Room) s m #[(.ref ac), (.int 0), (.int 2)] below meth c s₁ [] 0 0 := Stand.of_body Bd
  have e0 : s₁.heap = h0 := by rw [← hh, Bd.state]; rfl
  have N0 := Fr.nil n0
  have Z0 : n0 ≤ h0.size := O0.1 ▸ O0.2.1
  have K0 : Keep h0 h0 [] := Keep.refl _ _
  have pre0 : ∀ t, At p e below s₁ m 0 #[vR ac, vI 0, vI 2, vU, vU] [] t → Steps p.tables e below (s₁.setTop (entryFrame m #[(.ref ac), (.int 0), (.int 2)] 5)) t := fun t k => castTop (ef_19_2 m ac) k
  have pre1 := fun t (kt : At p e below s₁ m 1 #[vR ac, vI 0, vI 2, vU, vU] [(.int 2)] t) => pre0 t (by
    show At p e below s₁ m 0 #[vR ac, vI 0, vI 2, vU, vU] [] _
    refine XS.iloadN X0.here hx rfl (hb hby d19_0) rfl ?_
    exact kt)
  obtain ⟨_, _, ⟨T2, L2, kc2, nc2⟩, -, X2, ⟨Lc2, hQ2, l2, y2, z2⟩, st2⟩ := Jvm.LawKit.callS X0 hx (y := (⟨"java/lang/StringUTF16", "newBytesFor", "(I)[B"⟩ : MethodName)) hown (mvT hZ (wd hw 88 rfl)) (mvT hZ (wd hw 89 rfl)) (mvT hZ (wd hw 70 rfl)) (mvT hZ (wd hw 90 rfl)) (by decide) (backOf (W := 0) (rm20_2 l Z a0 hw [] h0 n0 Z0) hZ (wd hw 90 rfl) (wd hw 70 rfl) (by decide) (by decide)) (g := (mkF m 1 #[vR ac, vI 0, vI 2, vU, vU] [(.int 2)])) rfl (by rw [hml]; rfl) (argsL := [(.int 2)]) (rest := []) (lenOf pd_1 rfl) rfl (by show 2 * 0 + _ ≤ _; exact Nat.le_of_eq rfl) (hb hby d19_1) (fun _ _ => ⟨rfl, e0, (by decide : 0 + 1 ≤ _), (by decide : 0 + 4 ≤ _)⟩)
  dsimp only [Pt.U, Pt.locs, Pt.cells, Pt.slots] at X2 l2 y2 z2 st2 hQ2
  subst l2 y2 z2
  obtain ⟨rfl, N2q, K2, kk2, Va2⟩ := hQ2
  have N2 := Fr.app N0 N2q
  obtain ⟨b2, gq2⟩ : ∃ z, z = h0.size := ⟨_, rfl⟩
  rw [← gq2] at Va2 st2
  have gg_b2 : n0 ≤ b2 := Nat.le_trans Z0 (Nat.le_of_eq gq2.symm)
  have sz_b2 : h0.size ≤ b2 := Nat.le_trans K0.1 (Nat.le_of_eq gq2.symm)
  have pre3 := fun t (kt : At p e below T2 m 4 #[vR ac, vI 0, vI 2, vU, vU] [(.ref b2)] t) => pre1 t (st2 _ kt)
  have pre4 := fun t (kt : At p e below T2 m 19 #[vR ac, vI 0, vI 2, vR b2, vI 0] [(.int 0), (.ref ac), (.int 0), (.ref b2)] t) => pre3 t (by
    show At p e below T2 m 4 #[vR ac, vI 0, vI 2, vU, vU] [(.ref b2)] _
    refine XS.astoreN X2.here hx rfl (hb hby d19_4) rfl rfl (l' := #[vR ac, vI 0, vI 2, vR b2, vU]) rfl ?_
    show At p e below T2 m 5 #[vR ac, vI 0, vI 2, vR b2, vU] [] _
    refine XS.iconst X2.here hx rfl (hb hby d19_5) ?_
    show At p e below T2 m 6 #[vR ac, vI 0, vI 2, vR b2, vU] [(.int 0)] _
    refine XS.istore X2.here hx rfl (hb hby d19_6) rfl (l' := #[vR ac, vI 0, vI 2, vR b2, vI 0]) rfl ?_
    show At p e below T2 m 8 #[vR ac, vI 0, vI 2, vR b2, vI 0] [] _
    refine XS.iload X2.here hx rfl (hb hby d19_8) rfl ?_
    show At p e below T2 m 10 #[vR ac, vI 0, vI 2, vR b2, vI 0] [(.int 0)] _
    refine XS.iloadN X2.here hx rfl (hb hby d19_10) rfl ?_
    show At p e below T2 m 11 #[vR ac, vI 0, vI 2, vR b2, vI 0] [(.int 2), (.int 0)] _
    refine XS.icmpNo X2.here hx rfl (hb hby d19_11) rfl (tlt (by decide : (0 : Int32) < (2 : Int32))).2.1 ?_
    show At p e below T2 m 14 #[vR ac, vI 0, vI 2, vR b2, vI 0] [] _
    refine XS.aloadN X2.here hx rfl (hb hby d19_14) rfl rfl ?_
    show At p e below T2 m 15 #[vR ac, vI 0, vI 2, vR b2, vI 0] [(.ref b2)] _
    refine XS.iload X2.here hx rfl (hb hby d19_15) rfl ?_
    show At p e below T2 m 17 #[vR ac, vI 0, vI 2, vR b2, vI 0] [(.int 0), (.ref b2)] _
    refine XS.aloadN X2.here hx rfl (hb hby d19_17) rfl rfl ?_
    show At p e below T2 m 18 #[vR ac, vI 0, vI 2, vR b2, vI 0] [(.ref ac), (.int 0), (.ref b2)] _
    refine XS.iloadN X2.here hx rfl (hb hby d19_18) rfl ?_
    exact kt)
  have f5 := (Vc.keep K2 nin0)
  obtain ⟨cl6, Ar6, qk6, Sz6, Nn6, Hh6, Gg6⟩ := id f5
  have hin6 : ¬ ((0 : Int32) < 0 ∨ cl6.slots.size ≤ ((0 : Int32)).toNatClampNeg) := inb_of Sz6 ⟨by decide, by decide⟩
  have hat6 : cl6.slots[((0 : Int32)).toNatClampNeg]? = some (.int q1) := Hh6.at hin6 rfl
  have o7 : Old Z n0 T2.heap := (O0.keep K2 all0)
  have pre8 := fun t (kt : At p e below T2 m 20 #[vR ac, vI 0, vI 2, vR b2, vI 0] [(.int q1), (.int 0), (.ref b2)] t) => pre4 t (by
    show At p e below T2 m 19 #[vR ac, vI 0, vI 2, vR b2, vI 0] [(.int 0), (.ref ac), (.int 0), (.ref b2)] _
    refine X2.caload hx (j := (0 : Int32)) (v := (.int q1)) Ar6.1 (State.isArrayOf_alike hZ.alike Ar6.2.1) Ar6.2.2 hin6 hat6 (g := (mkF m 19 #[vR ac, vI 0, vI 2, vR b2, vI 0] [(.int 0), (.ref ac), (.int 0), (.ref b2)])) rfl rfl (hb hby d19_19) _ ?_
    exact kt)
  obtain ⟨_, _, ⟨T9, L9, kc9, nc9⟩, -, X9, ⟨Lc9, hQ9, l9, y9, z9⟩, st9⟩ := Jvm.LawKit.callS X2 hx (y := (⟨"java/lang/StringUTF16", "putChar", "([BII)V"⟩ : MethodName)) hown (mvT hZ (wd hw 95 rfl)) (mvT hZ (wd hw 96 rfl)) (mvT hZ (wd hw 70 rfl)) (mvT hZ (wd hw 97 rfl)) (by decide) (backOf (W := 0) (rm22 l Z a0 hw [] b2 kk2 q1 (4 : Int32) _ (0 : Int32) 0 T2.heap n0 o7 SA SH SL Va2 gg_b2 ⟨by decide, by decide⟩ ⟨by decide, by decide⟩ (by decide) (by decide) (Nat.le_of_ble_eq_true rfl)) hZ (wd hw 97 rfl) (wd hw 70 rfl) (by decide) (by decide)) (g := (mkF m 20 #[vR ac, vI 0, vI 2, vR b2, vI 0] [(.int q1), (.int 0), (.ref b2)])) rfl (by rw [hml]; rfl) (argsL := [(.ref b2), (.int 0), (.int q1)]) (rest := []) (lenOf pd_2 rfl) rfl (by show 2 * 0 + _ ≤ _; exact Nat.le_of_eq rfl) (hb hby d19_20) (fun _ _ => ⟨rfl, rfl, (by decide : 1 + 0 ≤ _), (by decide : 4 + 0 ≤ _)⟩)
  dsimp only [Pt.U, Pt.locs, Pt.cells, Pt.slots] at X9 l9 y9 z9 st9 hQ9
  subst l9 y9 z9
  obtain ⟨rfl, N9q, K9, Va9⟩ := hQ9
  have N9 := Fr.app N2 N9q
  have pre10 := fun t (kt : At p e below T9 m 23 #[vR ac, vI 0, vI 2, vR b2, vI 0] [] t) => pre8 t (st9 _ kt)
  have Vx9 : Arv Z T9.heap b2 kk2 .byte (4 : Int32) [(.int (nar .byte ((q1 >>> ((0 : Int32) &&& 31)).toInt8.toInt32))), (.int (nar .byte ((q1 >>> ((8 : Int32) &&& 31)).toInt8.toInt32))), (.int 0), (.int 0)] (.int 0) := Va9
  have pre11 := fun t (kt : At p e below T9 m 19 #[vR ac, vI 1, vI 2, vR b2, vI 1] [(.int 1), (.ref ac), (.int 1), (.ref b2)] t) => pre10 t (by
    show At p e below T9 m 23 #[vR ac, vI 0, vI 2, vR b2, vI 0] [] _
    refine XS.iinc X9.here hx rfl (hb hby d19_23) rfl (l' := #[vR ac, .val (.int ((0 : Int32) + (1 : Int32))), vI 2, vR b2, vI 0]) rfl ?_
    show At p e below T9 m 26 #[vR ac, .val (.int ((0 : Int32) + (1 : Int32))), vI 2, vR b2, vI 0] [] _
    show At p e below T9 m 26 #[vR ac, vI 1, vI 2, vR b2, vI 0] [] _
    refine XS.iinc X9.here hx rfl (hb hby d19_26) rfl (l' := #[vR ac, vI 1, vI 2, vR b2, .val (.int ((0 : Int32) + (1 : Int32)))]) rfl ?_
    show At p e below T9 m 29 #[vR ac, vI 1, vI 2, vR b2, .val (.int ((0 : Int32) + (1 : Int32)))] [] _
    show At p e below T9 m 29 #[vR ac, vI 1, vI 2, vR b2, vI 1] [] _
    refine XS.goto X9.here hx rfl (pc0 := 29) (pc' := 8) rfl (hb hby d19_29) (by decide) (by decide) ?_
    show At p e below T9 m 8 #[vR ac, vI 1, vI 2, vR b2, vI 1] [] _
    refine XS.iload X9.here hx rfl (hb hby d19_8) rfl ?_
    show At p e below T9 m 10 #[vR ac, vI 1, vI 2, vR b2, vI 1] [(.int 1)] _
    refine XS.iloadN X9.here hx rfl (hb hby d19_10) rfl ?_
    show At p e below T9 m 11 #[vR ac, vI 1, vI 2, vR b2, vI 1] [(.int 2), (.int 1)] _
    refine XS.icmpNo X9.here hx rfl (hb hby d19_11) rfl (tlt (by decide : (1 : Int32) < (2 : Int32))).2.1 ?_
    show At p e below T9 m 14 #[vR ac, vI 1, vI 2, vR b2, vI 1] [] _
    refine XS.aloadN X9.here hx rfl (hb hby d19_14) rfl rfl ?_
    show At p e below T9 m 15 #[vR ac, vI 1, vI 2, vR b2, vI 1] [(.ref b2)] _
    refine XS.iload X9.here hx rfl (hb hby d19_15) rfl ?_
    show At p e below T9 m 17 #[vR ac, vI 1, vI 2, vR b2, vI 1] [(.int 1), (.ref b2)] _
    refine XS.aloadN X9.here hx rfl (hb hby d19_17) rfl rfl ?_
    show At p e below T9 m 18 #[vR ac, vI 1, vI 2, vR b2, vI 1] [(.ref ac), (.int 1), (.ref b2)] _
    refine XS.iloadN X9.here hx rfl (hb hby d19_18) rfl ?_
    exact kt)
  have f12 := (f5.keep K9 (ninS (Nat.ne_of_lt (Nat.lt_of_lt_of_le Vc.lt (Nat.le_of_eq gq2.symm))) nin0))
  obtain ⟨cl13, Ar13, qk13, Sz13, Nn13, Hh13, Gg13⟩ := id f12
  have hin13 : ¬ ((1 : Int32) < 0 ∨ cl13.slots.size ≤ ((1 : Int32)).toNatClampNeg) := inb_of Sz13 ⟨by decide, by decide⟩
  have hat13 : cl13.slots[((1 : Int32)).toNatClampNeg]? = some (.int q2) := Hh13.at hin13 rfl
  have o14 : Old Z n0 T9.heap := (o7.keep K9 (allS gg_b2 all0))
  have pre15 := fun t (kt : At p e below T9 m 20 #[vR ac, vI 1, vI 2, vR b2, vI 1] [(.int q2), (.int 1), (.ref b2)] t) => pre11 t (by
    show At p e below T9 m 19 #[vR ac, vI 1, vI 2, vR b2, vI 1] [(.int 1), (.ref ac), (.int 1), (.ref b2)] _
    refine X9.caload hx (j := (1 : Int32)) (v := (.int q2)) Ar13.1 (State.isArrayOf_alike hZ.alike Ar13.2.1) Ar13.2.2 hin13 hat13 (g := (mkF m 19 #[vR ac, vI 1, vI 2, vR b2, vI 1] [(.int 1), (.ref ac), (.int 1), (.ref b2)])) rfl rfl (hb hby d19_19) _ ?_
    exact kt)
  obtain ⟨_, _, ⟨T16, L16, kc16, nc16⟩, -, X16, ⟨Lc16, hQ16, l16, y16, z16⟩, st16⟩ := Jvm.LawKit.callS X9 hx (y := (⟨"java/lang/StringUTF16", "putChar", "([BII)V"⟩ : MethodName)) hown (mvT hZ (wd hw 95 rfl)) (mvT hZ (wd hw 96 rfl)) (mvT hZ (wd hw 70 rfl)) (mvT hZ (wd hw 97 rfl)) (by decide) (backOf (W := 0) (rm22 l Z a0 hw [] b2 kk2 q2 (4 : Int32) _ (1 : Int32) 2 T9.heap n0 o14 SA SH SL Vx9 gg_b2 ⟨by decide, by decide⟩ ⟨by decide, by decide⟩ (by decide) (by decide) (Nat.le_of_ble_eq_true rfl)) hZ (wd hw 97 rfl) (wd hw 70 rfl) (by decide) (by decide)) (g := (mkF m 20 #[vR ac, vI 1, vI 2, vR b2, vI 1] [(.int q2), (.int 1), (.ref b2)])) rfl (by rw [hml]; rfl) (argsL := [(.ref b2), (.int 1), (.int q2)]) (rest := []) (lenOf pd_2 rfl) rfl (by show 2 * 0 + _ ≤ _; exact Nat.le_of_eq rfl) (hb hby d19_20) (fun _ _ => ⟨rfl, rfl, (by decide : 1 + 0 ≤ _), (by decide : 4 + 0 ≤ _)⟩)
  dsimp only [Pt.U, Pt.locs, Pt.cells, Pt.slots] at X16 l16 y16 z16 st16 hQ16
  subst l16 y16 z16
  obtain ⟨rfl, N16q, K16, Va16⟩ := hQ16
  have N16 := Fr.app N9 N16q
  have pre17 := fun t (kt : At p e below T16 m 23 #[vR ac, vI 1, vI 2, vR b2, vI 1] [] t) => pre15 t (st16 _ kt)
  have Vx16 : Arv Z T16.heap b2 kk2 .byte (4 : Int32) [(.int (nar .byte ((q1 >>> ((0 : Int32) &&& 31)).toInt8.toInt32))), (.int (nar .byte ((q1 >>> ((8 : Int32) &&& 31)).toInt8.toInt32))), (.int (nar .byte ((q2 >>> ((0 : Int32) &&& 31)).toInt8.toInt32))), (.int (nar .byte ((q2 >>> ((8 : Int32) &&& 31)).toInt8.toInt32)))] (.int 0) := Va16
  have k18 : Keep h0 T16.heap [] := (((K0.trans K2 all0).trans K9 (allS (Or.inr sz_b2) all0)).trans K16 (allS (Or.inr sz_b2) all0))
  have pre19 := fun t (kt : At p e below T16 m 33 #[vR ac, vI 2, vI 2, vR b2, vI 2] [(.ref b2)] t) => pre17 t (by
    show At p e below T16 m 23 #[vR ac, vI 1, vI 2, vR b2, vI 1] [] _
    refine XS.iinc X16.here hx rfl (hb hby d19_23) rfl (l' := #[vR ac, .val (.int ((1 : Int32) + (1 : Int32))), vI 2, vR b2, vI 1]) rfl ?_
    show At p e below T16 m 26 #[vR ac, .val (.int ((1 : Int32) + (1 : Int32))), vI 2, vR b2, vI 1] [] _
    show At p e below T16 m 26 #[vR ac, vI 2, vI 2, vR b2, vI 1] [] _
    refine XS.iinc X16.here hx rfl (hb hby d19_26) rfl (l' := #[vR ac, vI 2, vI 2, vR b2, .val (.int ((1 : Int32) + (1 : Int32)))]) rfl ?_
    show At p e below T16 m 29 #[vR ac, vI 2, vI 2, vR b2, .val (.int ((1 : Int32) + (1 : Int32)))] [] _
    show At p e below T16 m 29 #[vR ac, vI 2, vI 2, vR b2, vI 2] [] _
    refine XS.goto X16.here hx rfl (pc0 := 29) (pc' := 8) rfl (hb hby d19_29) (by decide) (by decide) ?_
    show At p e below T16 m 8 #[vR ac, vI 2, vI 2, vR b2, vI 2] [] _
    refine XS.iload X16.here hx rfl (hb hby d19_8) rfl ?_
    show At p e below T16 m 10 #[vR ac, vI 2, vI 2, vR b2, vI 2] [(.int 2)] _
    refine XS.iloadN X16.here hx rfl (hb hby d19_10) rfl ?_
    show At p e below T16 m 11 #[vR ac, vI 2, vI 2, vR b2, vI 2] [(.int 2), (.int 2)] _
    refine XS.icmpYes X16.here hx rfl (pc0 := 11) (pc' := 32) rfl (hb hby d19_11) rfl (flt (by decide : ¬ ((2 : Int32) < (2 : Int32)))).2.1 (by decide) (by decide) ?_
    show At p e below T16 m 32 #[vR ac, vI 2, vI 2, vR b2, vI 2] [] _
    refine XS.aloadN X16.here hx rfl (hb hby d19_32) rfl rfl ?_
    exact kt)
  obtain ⟨fs, hr, hrun, hended, hW, hsame⟩ := X16.leave (v := (some (.ref b2))) (fun h => by rw [Bd.returns] at h; cases h)
  refine ⟨_, _, pre19 _ ?_, hrun, hended, _, _, rfl, ?_, ⟨_, rfl⟩, hW, hsame.mono (by decide) (by decide)⟩
  · show At p e below T16 m 33 #[vR ac, vI 2, vI 2, vR b2, vI 2] [(.ref b2)] _
    exact retOut X16 hx (t := (.array .byte)) Bd.returns rfl (Or.inr (Or.inr (Or.inr (Or.inr ⟨rfl, rfl, rfl⟩)))) (hb hby d19_33) hr
  · show Q19_2 Z ac kc q1 q2 h0 n0 _ T16.heap _
    exact ⟨by rw [gq2], N16, k18, _, by rw [← gq2]; exact Vx16⟩
theorem ef_19_3 (m : MethodId) (ac : Addr) : entryFrame m #[(.ref ac), (.int 0), (.int 3)] 5 = (mkF m 0 #[vR ac, vI 0, vI 3, vU, vU] []) := by first | (simp [entryFrame, mkF, argsToLocals, Value.category]; done) | rfl
def Q19_3 (Z : State) (ac : Addr) (kc : ClassId) (q1 : Int32) (q2 : Int32) (q3 : Int32) (h0 : Heap) (n0 : Nat) (v : Option Value) (h : Heap) (L : List Loc) : Prop := v = some (.ref h0.size) ∧ Fr n0 L ∧ Keep h0 h [] ∧ ∃ kb : ClassId, Arv Z h h0.size kb .byte (6 : Int32) [(.int (nar .byte ((q1 >>> ((0 : Int32) &&& 31)).toInt8.toInt32))), (.int (nar .byte ((q1 >>> ((8 : Int32) &&& 31)).toInt8.toInt32))), (.int (nar .byte ((q2 >>> ((0 : Int32) &&& 31)).toInt8.toInt32))), (.int (nar .byte ((q2 >>> ((8 : Int32) &&& 31)).toInt8.toInt32))), (.int (nar .byte ((q3 >>> ((0 : Int32) &&& 31)).toInt8.toInt32))), (.int (nar .byte ((q3 >>> ((8 : Int32) &&& 31)).toInt8.toInt32)))] (.int 0)
set_option maxRecDepth 65536 in
set_option maxHeartbeats 40000000 in
theorem rm19_3 (l : Launch) (Z : State) (a0 : Array Value) (hw : ∀ d ∈ tables_1, d.before a0 Z = true) (ws : List Jvm.Cond) (ac : Addr) (kc : ClassId) (q1 : Int32) (q2 : Int32) (q3 : Int32) (h0 : Heap) (n0 : Nat) (O0 : Old Z n0 h0) (SA : Sta Z Z.heap "java/lang/StringUTF16" "$assertionsDisabled" "Z" (.int 1)) (SH : Sta Z Z.heap "java/lang/StringUTF16" "HI_BYTE_SHIFT" "I" (.int 0)) (SL : Sta Z Z.heap "java/lang/StringUTF16" "LO_BYTE_SHIFT" "I" (.int 8)) (Vc : Arv Z h0 ac kc .char (3 : Int32) [(.int q1), (.int q2), (.int q3)] (.int 0)) :
    MetFree l (⟨"java/lang/StringUTF16", "toBytes", "([CII)[B"⟩ : MethodName) (head1 (Jvm.Cond.code (⟨"java/lang/StringUTF16", "toBytes", "([CII)[B"⟩ : MethodName) jdk_52_method_14_code 5 (some (.array .byte)) :: ws) ({ frames := 2, cells := 1, slots := 6, locals := 24 } : Room)) (fun a U => a = #[(.ref ac), (.int 0), (.int 3)] ∧ Z.Warmed39 U.vm ∧ U.heap = h0) (fun _ _ _ _ _ => True) (fun _ U o U' => ∃ v L, o = .returned v ∧ Q19_3 Z ac kc q1 q2 q3 h0 n0 v U'.heap L ∧ FrameEnd U o U' L ({ frames := 2, cells := 1, slots := 6, locals := 24 } : Room).cells ({ frames := 2, cells := 1, slots := 6, locals := 24 } : Room).slots) := by
  refine MetFree.of_bodySF (plainFor_of_name pn_3) hisR ?_
  intro p e s m args below meth c s₁ Bd hml0 hP hK
  obtain ⟨rfl, hZ, hh⟩ := hP
  have hx := Bd.exec
  have hby := Bd.bytes
  have hml : c.maxLocals = 5 := hml0
  have hown : s.vm.findClass "java/lang/StringUTF16" = some m.cls := findClass_of_methodNamed Bd.named
  have hnm := (name_of_methodNamed Bd.named Bd.method).1
  have X0 : Stand p l e ({ frames := 2, cells := 1, slots := 6, locals := 24 } : Room) s m #[(.ref ac), (.int 0), (.int 3)] below meth c s₁ [] 0 0 := Stand.of_body Bd
  have e0 : s₁.heap = h0 := by rw [← hh, Bd.state]; rfl
  have N0 := Fr.nil n0
  have Z0 : n0 ≤ h0.size := O0.1 ▸ O0.2.1
  have K0 : Keep h0 h0 [] := Keep.refl _ _
  have pre0 : ∀ t, At p e below s₁ m 0 #[vR ac, vI 0, vI 3, vU, vU] [] t → Steps p.tables e below (s₁.setTop (entryFrame m #[(.ref ac), (.int 0), (.int 3)] 5)) t := fun t k => castTop (ef_19_3 m ac) k
  have pre1 := fun t (kt : At p e below s₁ m 1 #[vR ac, vI 0, vI 3, vU, vU] [(.int 3)] t) => pre0 t (by
    show At p e below s₁ m 0 #[vR ac, vI 0, vI 3, vU, vU] [] _
    refine XS.iloadN X0.here hx rfl (hb hby d19_0) rfl ?_
    exact kt)
  obtain ⟨_, _, ⟨T2, L2, kc2, nc2⟩, -, X2, ⟨Lc2, hQ2, l2, y2, z2⟩, st2⟩ := Jvm.LawKit.callS X0 hx (y := (⟨"java/lang/StringUTF16", "newBytesFor", "(I)[B"⟩ : MethodName)) hown (mvT hZ (wd hw 88 rfl)) (mvT hZ (wd hw 89 rfl)) (mvT hZ (wd hw 70 rfl)) (mvT hZ (wd hw 90 rfl)) (by decide) (backOf (W := 0) (rm20_3 l Z a0 hw [] h0 n0 Z0) hZ (wd hw 90 rfl) (wd hw 70 rfl) (by decide) (by decide)) (g := (mkF m 1 #[vR ac, vI 0, vI 3, vU, vU] [(.int 3)])) rfl (by rw [hml]; rfl) (argsL := [(.int 3)]) (rest := []) (lenOf pd_1 rfl) rfl (by show 2 * 0 + _ ≤ _; exact Nat.le_of_eq rfl) (hb hby d19_1) (fun _ _ => ⟨rfl, e0, (by decide : 0 + 1 ≤ _), (by decide : 0 + 6 ≤ _)⟩)
  dsimp only [Pt.U, Pt.locs, Pt.cells, Pt.slots] at X2 l2 y2 z2 st2 hQ2
  subst l2 y2 z2
  obtain ⟨rfl, N2q, K2, kk2, Va2⟩ := hQ2
  have N2 := Fr.app N0 N2q
  obtain ⟨b2, gq2⟩ : ∃ z, z = h0.size := ⟨_, rfl⟩
  rw [← gq2] at Va2 st2
  have gg_b2 : n0 ≤ b2 := Nat.le_trans Z0 (Nat.le_of_eq gq2.symm)
  have sz_b2 : h0.size ≤ b2 := Nat.le_trans K0.1 (Nat.le_of_eq gq2.symm)
  have pre3 := fun t (kt : At p e below T2 m 4 #[vR ac, vI 0, vI 3, vU, vU] [(.ref b2)] t) => pre1 t (st2 _ kt)
  have pre4 := fun t (kt : At p e below T2 m 19 #[vR ac, vI 0, vI 3, vR b2, vI 0] [(.int 0), (.ref ac), (.int 0), (.ref b2)] t) => pre3 t (by
    show At p e below T2 m 4 #[vR ac, vI 0, vI 3, vU, vU] [(.ref b2)] _
    refine XS.astoreN X2.here hx rfl (hb hby d19_4) rfl rfl (l' := #[vR ac, vI 0, vI 3, vR b2, vU]) rfl ?_
    show At p e below T2 m 5 #[vR ac, vI 0, vI 3, vR b2, vU] [] _
    refine XS.iconst X2.here hx rfl (hb hby d19_5) ?_
    show At p e below T2 m 6 #[vR ac, vI 0, vI 3, vR b2, vU] [(.int 0)] _
    refine XS.istore X2.here hx rfl (hb hby d19_6) rfl (l' := #[vR ac, vI 0, vI 3, vR b2, vI 0]) rfl ?_
    show At p e below T2 m 8 #[vR ac, vI 0, vI 3, vR b2, vI 0] [] _
    refine XS.iload X2.here hx rfl (hb hby d19_8) rfl ?_
    show At p e below T2 m 10 #[vR ac, vI 0, vI 3, vR b2, vI 0] [(.int 0)] _
    refine XS.iloadN X2.here hx rfl (hb hby d19_10) rfl ?_
    show At p e below T2 m 11 #[vR ac, vI 0, vI 3, vR b2, vI 0] [(.int 3), (.int 0)] _
    refine XS.icmpNo X2.here hx rfl (hb hby d19_11) rfl (tlt (by decide : (0 : Int32) < (3 : Int32))).2.1 ?_
    show At p e below T2 m 14 #[vR ac, vI 0, vI 3, vR b2, vI 0] [] _
    refine XS.aloadN X2.here hx rfl (hb hby d19_14) rfl rfl ?_
    show At p e below T2 m 15 #[vR ac, vI 0, vI 3, vR b2, vI 0] [(.ref b2)] _
    refine XS.iload X2.here hx rfl (hb hby d19_15) rfl ?_
    show At p e below T2 m 17 #[vR ac, vI 0, vI 3, vR b2, vI 0] [(.int 0), (.ref b2)] _
    refine XS.aloadN X2.here hx rfl (hb hby d19_17) rfl rfl ?_
    show At p e below T2 m 18 #[vR ac, vI 0, vI 3, vR b2, vI 0] [(.ref ac), (.int 0), (.ref b2)] _
    refine XS.iloadN X2.here hx rfl (hb hby d19_18) rfl ?_
    exact kt)
  have f5 := (Vc.keep K2 nin0)
  obtain ⟨cl6, Ar6, qk6, Sz6, Nn6, Hh6, Gg6⟩ := id f5
  have hin6 : ¬ ((0 : Int32) < 0 ∨ cl6.slots.size ≤ ((0 : Int32)).toNatClampNeg) := inb_of Sz6 ⟨by decide, by decide⟩
  have hat6 : cl6.slots[((0 : Int32)).toNatClampNeg]? = some (.int q1) := Hh6.at hin6 rfl
  have o7 : Old Z n0 T2.heap := (O0.keep K2 all0)
  have pre8 := fun t (kt : At p e below T2 m 20 #[vR ac, vI 0, vI 3, vR b2, vI 0] [(.int q1), (.int 0), (.ref b2)] t) => pre4 t (by
    show At p e below T2 m 19 #[vR ac, vI 0, vI 3, vR b2, vI 0] [(.int 0), (.ref ac), (.int 0), (.ref b2)] _
    refine X2.caload hx (j := (0 : Int32)) (v := (.int q1)) Ar6.1 (State.isArrayOf_alike hZ.alike Ar6.2.1) Ar6.2.2 hin6 hat6 (g := (mkF m 19 #[vR ac, vI 0, vI 3, vR b2, vI 0] [(.int 0), (.ref ac), (.int 0), (.ref b2)])) rfl rfl (hb hby d19_19) _ ?_
    exact kt)
  obtain ⟨_, _, ⟨T9, L9, kc9, nc9⟩, -, X9, ⟨Lc9, hQ9, l9, y9, z9⟩, st9⟩ := Jvm.LawKit.callS X2 hx (y := (⟨"java/lang/StringUTF16", "putChar", "([BII)V"⟩ : MethodName)) hown (mvT hZ (wd hw 95 rfl)) (mvT hZ (wd hw 96 rfl)) (mvT hZ (wd hw 70 rfl)) (mvT hZ (wd hw 97 rfl)) (by decide) (backOf (W := 0) (rm22 l Z a0 hw [] b2 kk2 q1 (6 : Int32) _ (0 : Int32) 0 T2.heap n0 o7 SA SH SL Va2 gg_b2 ⟨by decide, by decide⟩ ⟨by decide, by decide⟩ (by decide) (by decide) (Nat.le_of_ble_eq_true rfl)) hZ (wd hw 97 rfl) (wd hw 70 rfl) (by decide) (by decide)) (g := (mkF m 20 #[vR ac, vI 0, vI 3, vR b2, vI 0] [(.int q1), (.int 0), (.ref b2)])) rfl (by rw [hml]; rfl) (argsL := [(.ref b2), (.int 0), (.int q1)]) (rest := []) (lenOf pd_2 rfl) rfl (by show 2 * 0 + _ ≤ _; exact Nat.le_of_eq rfl) (hb hby d19_20) (fun _ _ => ⟨rfl, rfl, (by decide : 1 + 0 ≤ _), (by decide : 6 + 0 ≤ _)⟩)
  dsimp only [Pt.U, Pt.locs, Pt.cells, Pt.slots] at X9 l9 y9 z9 st9 hQ9
  subst l9 y9 z9
  obtain ⟨rfl, N9q, K9, Va9⟩ := hQ9
  have N9 := Fr.app N2 N9q
  have pre10 := fun t (kt : At p e below T9 m 23 #[vR ac, vI 0, vI 3, vR b2, vI 0] [] t) => pre8 t (st9 _ kt)
  have Vx9 : Arv Z T9.heap b2 kk2 .byte (6 : Int32) [(.int (nar .byte ((q1 >>> ((0 : Int32) &&& 31)).toInt8.toInt32))), (.int (nar .byte ((q1 >>> ((8 : Int32) &&& 31)).toInt8.toInt32))), (.int 0), (.int 0), (.int 0), (.int 0)] (.int 0) := Va9
  have pre11 := fun t (kt : At p e below T9 m 19 #[vR ac, vI 1, vI 3, vR b2, vI 1] [(.int 1), (.ref ac), (.int 1), (.ref b2)] t) => pre10 t (by
    show At p e below T9 m 23 #[vR ac, vI 0, vI 3, vR b2, vI 0] [] _
    refine XS.iinc X9.here hx rfl (hb hby d19_23) rfl (l' := #[vR ac, .val (.int ((0 : Int32) + (1 : Int32))), vI 3, vR b2, vI 0]) rfl ?_
    show At p e below T9 m 26 #[vR ac, .val (.int ((0 : Int32) + (1 : Int32))), vI 3, vR b2, vI 0] [] _
    show At p e below T9 m 26 #[vR ac, vI 1, vI 3, vR b2, vI 0] [] _
    refine XS.iinc X9.here hx rfl (hb hby d19_26) rfl (l' := #[vR ac, vI 1, vI 3, vR b2, .val (.int ((0 : Int32) + (1 : Int32)))]) rfl ?_
    show At p e below T9 m 29 #[vR ac, vI 1, vI 3, vR b2, .val (.int ((0 : Int32) + (1 : Int32)))] [] _
    show At p e below T9 m 29 #[vR ac, vI 1, vI 3, vR b2, vI 1] [] _
    refine XS.goto X9.here hx rfl (pc0 := 29) (pc' := 8) rfl (hb hby d19_29) (by decide) (by decide) ?_
    show At p e below T9 m 8 #[vR ac, vI 1, vI 3, vR b2, vI 1] [] _
    refine XS.iload X9.here hx rfl (hb hby d19_8) rfl ?_
    show At p e below T9 m 10 #[vR ac, vI 1, vI 3, vR b2, vI 1] [(.int 1)] _
    refine XS.iloadN X9.here hx rfl (hb hby d19_10) rfl ?_
    show At p e below T9 m 11 #[vR ac, vI 1, vI 3, vR b2, vI 1] [(.int 3), (.int 1)] _
    refine XS.icmpNo X9.here hx rfl (hb hby d19_11) rfl (tlt (by decide : (1 : Int32) < (3 : Int32))).2.1 ?_
    show At p e below T9 m 14 #[vR ac, vI 1, vI 3, vR b2, vI 1] [] _
    refine XS.aloadN X9.here hx rfl (hb hby d19_14) rfl rfl ?_
    show At p e below T9 m 15 #[vR ac, vI 1, vI 3, vR b2, vI 1] [(.ref b2)] _
    refine XS.iload X9.here hx rfl (hb hby d19_15) rfl ?_
    show At p e below T9 m 17 #[vR ac, vI 1, vI 3, vR b2, vI 1] [(.int 1), (.ref b2)] _
    refine XS.aloadN X9.here hx rfl (hb hby d19_17) rfl rfl ?_
    show At p e below T9 m 18 #[vR ac, vI 1, vI 3, vR b2, vI 1] [(.ref ac), (.int 1), (.ref b2)] _
    refine XS.iloadN X9.here hx rfl (hb hby d19_18) rfl ?_
    exact kt)
  have f12 := (f5.keep K9 (ninS (Nat.ne_of_lt (Nat.lt_of_lt_of_le Vc.lt (Nat.le_of_eq gq2.symm))) nin0))
  obtain ⟨cl13, Ar13, qk13, Sz13, Nn13, Hh13, Gg13⟩ := id f12
  have hin13 : ¬ ((1 : Int32) < 0 ∨ cl13.slots.size ≤ ((1 : Int32)).toNatClampNeg) := inb_of Sz13 ⟨by decide, by decide⟩
  have hat13 : cl13.slots[((1 : Int32)).toNatClampNeg]? = some (.int q2) := Hh13.at hin13 rfl
  have o14 : Old Z n0 T9.heap := (o7.keep K9 (allS gg_b2 all0))
  have pre15 := fun t (kt : At p e below T9 m 20 #[vR ac, vI 1, vI 3, vR b2, vI 1] [(.int q2), (.int 1), (.ref b2)] t) => pre11 t (by
    show At p e below T9 m 19 #[vR ac, vI 1, vI 3, vR b2, vI 1] [(.int 1), (.ref ac), (.int 1), (.ref b2)] _
    refine X9.caload hx (j := (1 : Int32)) (v := (.int q2)) Ar13.1 (State.isArrayOf_alike hZ.alike Ar13.2.1) Ar13.2.2 hin13 hat13 (g := (mkF m 19 #[vR ac, vI 1, vI 3, vR b2, vI 1] [(.int 1), (.ref ac), (.int 1), (.ref b2)])) rfl rfl (hb hby d19_19) _ ?_
    exact kt)
  obtain ⟨_, _, ⟨T16, L16, kc16, nc16⟩, -, X16, ⟨Lc16, hQ16, l16, y16, z16⟩, st16⟩ := Jvm.LawKit.callS X9 hx (y := (⟨"java/lang/StringUTF16", "putChar", "([BII)V"⟩ : MethodName)) hown (mvT hZ (wd hw 95 rfl)) (mvT hZ (wd hw 96 rfl)) (mvT hZ (wd hw 70 rfl)) (mvT hZ (wd hw 97 rfl)) (by decide) (backOf (W := 0) (rm22 l Z a0 hw [] b2 kk2 q2 (6 : Int32) _ (1 : Int32) 2 T9.heap n0 o14 SA SH SL Vx9 gg_b2 ⟨by decide, by decide⟩ ⟨by decide, by decide⟩ (by decide) (by decide) (Nat.le_of_ble_eq_true rfl)) hZ (wd hw 97 rfl) (wd hw 70 rfl) (by decide) (by decide)) (g := (mkF m 20 #[vR ac, vI 1, vI 3, vR b2, vI 1] [(.int q2), (.int 1), (.ref b2)])) rfl (by rw [hml]; rfl) (argsL := [(.ref b2), (.int 1), (.int q2)]) (rest := []) (lenOf pd_2 rfl) rfl (by show 2 * 0 + _ ≤ _; exact Nat.le_of_eq rfl) (hb hby d19_20) (fun _ _ => ⟨rfl, rfl, (by decide : 1 + 0 ≤ _), (by decide : 6 + 0 ≤ _)⟩)
  dsimp only [Pt.U, Pt.locs, Pt.cells, Pt.slots] at X16 l16 y16 z16 st16 hQ16
  subst l16 y16 z16
  obtain ⟨rfl, N16q, K16, Va16⟩ := hQ16
  have N16 := Fr.app N9 N16q
  have pre17 := fun t (kt : At p e below T16 m 23 #[vR ac, vI 1, vI 3, vR b2, vI 1] [] t) => pre15 t (st16 _ kt)
  have Vx16 : Arv Z T16.heap b2 kk2 .byte (6 : Int32) [(.int (nar .byte ((q1 >>> ((0 : Int32) &&& 31)).toInt8.toInt32))), (.int (nar .byte ((q1 >>> ((8 : Int32) &&& 31)).toInt8.toInt32))), (.int (nar .byte ((q2 >>> ((0 : Int32) &&& 31)).toInt8.toInt32))), (.int (nar .byte ((q2 >>> ((8 : Int32) &&& 31)).toInt8.toInt32))), (.int 0), (.int 0)] (.int 0) := Va16
  have pre18 := fun t (kt : At p e below T16 m 19 #[vR ac, vI 2, vI 3, vR b2, vI 2] [(.int 2), (.ref ac), (.int 2), (.ref b2)] t) => pre17 t (by
    show At p e below T16 m 23 #[vR ac, vI 1, vI 3, vR b2, vI 1] [] _
    refine XS.iinc X16.here hx rfl (hb hby d19_23) rfl (l' := #[vR ac, .val (.int ((1 : Int32) + (1 : Int32))), vI 3, vR b2, vI 1]) rfl ?_
    show At p e below T16 m 26 #[vR ac, .val (.int ((1 : Int32) + (1 : Int32))), vI 3, vR b2, vI 1] [] _
    show At p e below T16 m 26 #[vR ac, vI 2, vI 3, vR b2, vI 1] [] _
    refine XS.iinc X16.here hx rfl (hb hby d19_26) rfl (l' := #[vR ac, vI 2, vI 3, vR b2, .val (.int ((1 : Int32) + (1 : Int32)))]) rfl ?_
    show At p e below T16 m 29 #[vR ac, vI 2, vI 3, vR b2, .val (.int ((1 : Int32) + (1 : Int32)))] [] _
    show At p e below T16 m 29 #[vR ac, vI 2, vI 3, vR b2, vI 2] [] _
    refine XS.goto X16.here hx rfl (pc0 := 29) (pc' := 8) rfl (hb hby d19_29) (by decide) (by decide) ?_
    show At p e below T16 m 8 #[vR ac, vI 2, vI 3, vR b2, vI 2] [] _
    refine XS.iload X16.here hx rfl (hb hby d19_8) rfl ?_
    show At p e below T16 m 10 #[vR ac, vI 2, vI 3, vR b2, vI 2] [(.int 2)] _
    refine XS.iloadN X16.here hx rfl (hb hby d19_10) rfl ?_
    show At p e below T16 m 11 #[vR ac, vI 2, vI 3, vR b2, vI 2] [(.int 3), (.int 2)] _
    refine XS.icmpNo X16.here hx rfl (hb hby d19_11) rfl (tlt (by decide : (2 : Int32) < (3 : Int32))).2.1 ?_
    show At p e below T16 m 14 #[vR ac, vI 2, vI 3, vR b2, vI 2] [] _
    refine XS.aloadN X16.here hx rfl (hb hby d19_14) rfl rfl ?_
    show At p e below T16 m 15 #[vR ac, vI 2, vI 3, vR b2, vI 2] [(.ref b2)] _
    refine XS.iload X16.here hx rfl (hb hby d19_15) rfl ?_
    show At p e below T16 m 17 #[vR ac, vI 2, vI 3, vR b2, vI 2] [(.int 2), (.ref b2)] _
    refine XS.aloadN X16.here hx rfl (hb hby d19_17) rfl rfl ?_
    show At p e below T16 m 18 #[vR ac, vI 2, vI 3, vR b2, vI 2] [(.ref ac), (.int 2), (.ref b2)] _
    refine XS.iloadN X16.here hx rfl (hb hby d19_18) rfl ?_
    exact kt)
  have f19 := (f12.keep K16 (ninS (Nat.ne_of_lt (Nat.lt_of_lt_of_le Vc.lt (Nat.le_of_eq gq2.symm))) nin0))
  obtain ⟨cl20, Ar20, qk20, Sz20, Nn20, Hh20, Gg20⟩ := id f19
  have hin20 : ¬ ((2 : Int32) < 0 ∨ cl20.slots.size ≤ ((2 : Int32)).toNatClampNeg) := inb_of Sz20 ⟨by decide, by decide⟩
  have hat20 : cl20.slots[((2 : Int32)).toNatClampNeg]? = some (.int q3) := Hh20.at hin20 rfl
  have o21 : Old Z n0 T16.heap := (o14.keep K16 (allS gg_b2 all0))
  have pre22 := fun t (kt : At p e below T16 m 20 #[vR ac, vI 2, vI 3, vR b2, vI 2] [(.int q3), (.int 2), (.ref b2)] t) => pre18 t (by
    show At p e below T16 m 19 #[vR ac, vI 2, vI 3, vR b2, vI 2] [(.int 2), (.ref ac), (.int 2), (.ref b2)] _
    refine X16.caload hx (j := (2 : Int32)) (v := (.int q3)) Ar20.1 (State.isArrayOf_alike hZ.alike Ar20.2.1) Ar20.2.2 hin20 hat20 (g := (mkF m 19 #[vR ac, vI 2, vI 3, vR b2, vI 2] [(.int 2), (.ref ac), (.int 2), (.ref b2)])) rfl rfl (hb hby d19_19) _ ?_
    exact kt)
  obtain ⟨_, _, ⟨T23, L23, kc23, nc23⟩, -, X23, ⟨Lc23, hQ23, l23, y23, z23⟩, st23⟩ := Jvm.LawKit.callS X16 hx (y := (⟨"java/lang/StringUTF16", "putChar", "([BII)V"⟩ : MethodName)) hown (mvT hZ (wd hw 95 rfl)) (mvT hZ (wd hw 96 rfl)) (mvT hZ (wd hw 70 rfl)) (mvT hZ (wd hw 97 rfl)) (by decide) (backOf (W := 0) (rm22 l Z a0 hw [] b2 kk2 q3 (6 : Int32) _ (2 : Int32) 4 T16.heap n0 o21 SA SH SL Vx16 gg_b2 ⟨by decide, by decide⟩ ⟨by decide, by decide⟩ (by decide) (by decide) (Nat.le_of_ble_eq_true rfl)) hZ (wd hw 97 rfl) (wd hw 70 rfl) (by decide) (by decide)) (g := (mkF m 20 #[vR ac, vI 2, vI 3, vR b2, vI 2] [(.int q3), (.int 2), (.ref b2)])) rfl (by rw [hml]; rfl) (argsL := [(.ref b2), (.int 2), (.int q3)]) (rest := []) (lenOf pd_2 rfl) rfl (by show 2 * 0 + _ ≤ _; exact Nat.le_of_eq rfl) (hb hby d19_20) (fun _ _ => ⟨rfl, rfl, (by decide : 1 + 0 ≤ _), (by decide : 6 + 0 ≤ _)⟩)
  dsimp only [Pt.U, Pt.locs, Pt.cells, Pt.slots] at X23 l23 y23 z23 st23 hQ23
  subst l23 y23 z23
  obtain ⟨rfl, N23q, K23, Va23⟩ := hQ23
  have N23 := Fr.app N16 N23q
  have pre24 := fun t (kt : At p e below T23 m 23 #[vR ac, vI 2, vI 3, vR b2, vI 2] [] t) => pre22 t (st23 _ kt)
  have Vx23 : Arv Z T23.heap b2 kk2 .byte (6 : Int32) [(.int (nar .byte ((q1 >>> ((0 : Int32) &&& 31)).toInt8.toInt32))), (.int (nar .byte ((q1 >>> ((8 : Int32) &&& 31)).toInt8.toInt32))), (.int (nar .byte ((q2 >>> ((0 : Int32) &&& 31)).toInt8.toInt32))), (.int (nar .byte ((q2 >>> ((8 : Int32) &&& 31)).toInt8.toInt32))), (.int (nar .byte ((q3 >>> ((0 : Int32) &&& 31)).toInt8.toInt32))), (.int (nar .byte ((q3 >>> ((8 : Int32) &&& 31)).toInt8.toInt32)))] (.int 0) := Va23
  have k25 : Keep h0 T23.heap [] := ((((K0.trans K2 all0).trans K9 (allS (Or.inr sz_b2) all0)).trans K16 (allS (Or.inr sz_b2) all0)).trans K23 (allS (Or.inr sz_b2) all0))
  have pre26 := fun t (kt : At p e below T23 m 33 #[vR ac, vI 3, vI 3, vR b2, vI 3] [(.ref b2)] t) => pre24 t (by
    show At p e below T23 m 23 #[vR ac, vI 2, vI 3, vR b2, vI 2] [] _
    refine XS.iinc X23.here hx rfl (hb hby d19_23) rfl (l' := #[vR ac, .val (.int ((2 : Int32) + (1 : Int32))), vI 3, vR b2, vI 2]) rfl ?_
    show At p e below T23 m 26 #[vR ac, .val (.int ((2 : Int32) + (1 : Int32))), vI 3, vR b2, vI 2] [] _
    show At p e below T23 m 26 #[vR ac, vI 3, vI 3, vR b2, vI 2] [] _
    refine XS.iinc X23.here hx rfl (hb hby d19_26) rfl (l' := #[vR ac, vI 3, vI 3, vR b2, .val (.int ((2 : Int32) + (1 : Int32)))]) rfl ?_
    show At p e below T23 m 29 #[vR ac, vI 3, vI 3, vR b2, .val (.int ((2 : Int32) + (1 : Int32)))] [] _
    show At p e below T23 m 29 #[vR ac, vI 3, vI 3, vR b2, vI 3] [] _
    refine XS.goto X23.here hx rfl (pc0 := 29) (pc' := 8) rfl (hb hby d19_29) (by decide) (by decide) ?_
    show At p e below T23 m 8 #[vR ac, vI 3, vI 3, vR b2, vI 3] [] _
    refine XS.iload X23.here hx rfl (hb hby d19_8) rfl ?_
    show At p e below T23 m 10 #[vR ac, vI 3, vI 3, vR b2, vI 3] [(.int 3)] _
    refine XS.iloadN X23.here hx rfl (hb hby d19_10) rfl ?_
    show At p e below T23 m 11 #[vR ac, vI 3, vI 3, vR b2, vI 3] [(.int 3), (.int 3)] _
    refine XS.icmpYes X23.here hx rfl (pc0 := 11) (pc' := 32) rfl (hb hby d19_11) rfl (flt (by decide : ¬ ((3 : Int32) < (3 : Int32)))).2.1 (by decide) (by decide) ?_
    show At p e below T23 m 32 #[vR ac, vI 3, vI 3, vR b2, vI 3] [] _
    refine XS.aloadN X23.here hx rfl (hb hby d19_32) rfl rfl ?_
    exact kt)
  obtain ⟨fs, hr, hrun, hended, hW, hsame⟩ := X23.leave (v := (some (.ref b2))) (fun h => by rw [Bd.returns] at h; cases h)
  refine ⟨_, _, pre26 _ ?_, hrun, hended, _, _, rfl, ?_, ⟨_, rfl⟩, hW, hsame.mono (by decide) (by decide)⟩
  · show At p e below T23 m 33 #[vR ac, vI 3, vI 3, vR b2, vI 3] [(.ref b2)] _
    exact retOut X23 hx (t := (.array .byte)) Bd.returns rfl (Or.inr (Or.inr (Or.inr (Or.inr ⟨rfl, rfl, rfl⟩)))) (hb hby d19_33) hr
  · show Q19_3 Z ac kc q1 q2 q3 h0 n0 _ T23.heap _
    exact ⟨by rw [gq2], N23, k25, _, by rw [← gq2]; exact Vx23⟩
theorem ef_19_4 (m : MethodId) (ac : Addr) : entryFrame m #[(.ref ac), (.int 0), (.int 4)] 5 = (mkF m 0 #[vR ac, vI 0, vI 4, vU, vU] []) := by first | (simp [entryFrame, mkF, argsToLocals, Value.category]; done) | rfl
def Q19_4 (Z : State) (ac : Addr) (kc : ClassId) (q1 : Int32) (q2 : Int32) (q3 : Int32) (q4 : Int32) (h0 : Heap) (n0 : Nat) (v : Option Value) (h : Heap) (L : List Loc) : Prop := v = some (.ref h0.size) ∧ Fr n0 L ∧ Keep h0 h [] ∧ ∃ kb : ClassId, Arv Z h h0.size kb .byte (8 : Int32) [(.int (nar .byte ((q1 >>> ((0 : Int32) &&& 31)).toInt8.toInt32))), (.int (nar .byte ((q1 >>> ((8 : Int32) &&& 31)).toInt8.toInt32))), (.int (nar .byte ((q2 >>> ((0 : Int32) &&& 31)).toInt8.toInt32))), (.int (nar .byte ((q2 >>> ((8 : Int32) &&& 31)).toInt8.toInt32))), (.int (nar .byte ((q3 >>> ((0 : Int32) &&& 31)).toInt8.toInt32))), (.int (nar .byte ((q3 >>> ((8 : Int32) &&& 31)).toInt8.toInt32))), (.int (nar .byte ((q4 >>> ((0 : Int32) &&& 31)).toInt8.toInt32))), (.int (nar .byte ((q4 >>> ((8 : Int32) &&& 31)).toInt8.toInt32)))] (.int 0)
set_option maxRecDepth 65536 in
set_option maxHeartbeats 40000000 in
theorem rm19_4 (l : Launch) (Z : State) (a0 : Array Value) (hw : ∀ d ∈ tables_1, d.before a0 Z = true) (ws : List Jvm.Cond) (ac : Addr) (kc : ClassId) (q1 : Int32) (q2 : Int32) (q3 : Int32) (q4 : Int32) (h0 : Heap) (n0 : Nat) (O0 : Old Z n0 h0) (SA : Sta Z Z.heap "java/lang/StringUTF16" "$assertionsDisabled" "Z" (.int 1)) (SH : Sta Z Z.heap "java/lang/StringUTF16" "HI_BYTE_SHIFT" "I" (.int 0)) (SL : Sta Z Z.heap "java/lang/StringUTF16" "LO_BYTE_SHIFT" "I" (.int 8)) (Vc : Arv Z h0 ac kc .char (4 : Int32) [(.int q1), (.int q2), (.int q3), (.int q4)] (.int 0)) :
    MetFree l (⟨"java/lang/StringUTF16", "toBytes", "([CII)[B"⟩ : MethodName) (head1 (Jvm.Cond.code (⟨"java/lang/StringUTF16", "toBytes", "([CII)[B"⟩ : MethodName) jdk_52_method_14_code 5 (some (.array .byte)) :: ws) ({ frames := 2, cells := 1, slots := 8, locals := 24 } : Room)) (fun a U => a = #[(.ref ac), (.int 0), (.int 4)] ∧ Z.Warmed39 U.vm ∧ U.heap = h0) (fun _ _ _ _ _ => True) (fun _ U o U' => ∃ v L, o = .returned v ∧ Q19_4 Z ac kc q1 q2 q3 q4 h0 n0 v U'.heap L ∧ FrameEnd U o U' L ({ frames := 2, cells := 1, slots := 8, locals := 24 } : Room).cells ({ frames := 2, cells := 1, slots := 8, locals := 24 } : Room).slots) := by
  refine MetFree.of_bodySF (plainFor_of_name pn_3) hisR ?_
  intro p e s m args below meth c s₁ Bd hml0 hP hK
  obtain ⟨rfl, hZ, hh⟩ := hP
  have hx := Bd.exec
  have hby := Bd.bytes
  have hml : c.maxLocals = 5 := hml0
  have hown : s.vm.findClass "java/lang/StringUTF16" = some m.cls := findClass_of_methodNamed Bd.named
  have hnm := (name_of_methodNamed Bd.named Bd.method).1
  have X0 : Stand p l e ({ frames := 2, cells := 1, slots := 8, locals := 24 } : Room) s m #[(.ref ac), (.int 0), (.int 4)] below meth c s₁ [] 0 0 := Stand.of_body Bd
  have e0 : s₁.heap = h0 := by rw [← hh, Bd.state]; rfl
  have N0 := Fr.nil n0
  have Z0 : n0 ≤ h0.size := O0.1 ▸ O0.2.1
  have K0 : Keep h0 h0 [] := Keep.refl _ _
  have pre0 : ∀ t, At p e below s₁ m 0 #[vR ac, vI 0, vI 4, vU, vU] [] t → Steps p.tables e below (s₁.setTop (entryFrame m #[(.ref ac), (.int 0), (.int 4)] 5)) t := fun t k => castTop (ef_19_4 m ac) k
  have pre1 := fun t (kt : At p e below s₁ m 1 #[vR ac, vI 0, vI 4, vU, vU] [(.int 4)] t) => pre0 t (by
    show At p e below s₁ m 0 #[vR ac, vI 0, vI 4, vU, vU] [] _
    refine XS.iloadN X0.here hx rfl (hb hby d19_0) rfl ?_
    exact kt)
  obtain ⟨_, _, ⟨T2, L2, kc2, nc2⟩, -, X2, ⟨Lc2, hQ2, l2, y2, z2⟩, st2⟩ := Jvm.LawKit.callS X0 hx (y := (⟨"java/lang/StringUTF16", "newBytesFor", "(I)[B"⟩ : MethodName)) hown (mvT hZ (wd hw 88 rfl)) (mvT hZ (wd hw 89 rfl)) (mvT hZ (wd hw 70 rfl)) (mvT hZ (wd hw 90 rfl)) (by decide) (backOf (W := 0) (rm20_4 l Z a0 hw [] h0 n0 Z0) hZ (wd hw 90 rfl) (wd hw 70 rfl) (by decide) (by decide)) (g := (mkF m 1 #[vR ac, vI 0, vI 4, vU, vU] [(.int 4)])) rfl (by rw [hml]; rfl) (argsL := [(.int 4)]) (rest := []) (lenOf pd_1 rfl) rfl (by show 2 * 0 + _ ≤ _; exact Nat.le_of_eq rfl) (hb hby d19_1) (fun _ _ => ⟨rfl, e0, (by decide : 0 + 1 ≤ _), (by decide : 0 + 8 ≤ _)⟩)
  dsimp only [Pt.U, Pt.locs, Pt.cells, Pt.slots] at X2 l2 y2 z2 st2 hQ2
  subst l2 y2 z2
  obtain ⟨rfl, N2q, K2, kk2, Va2⟩ := hQ2
  have N2 := Fr.app N0 N2q
  obtain ⟨b2, gq2⟩ : ∃ z, z = h0.size := ⟨_, rfl⟩
  rw [← gq2] at Va2 st2
  have gg_b2 : n0 ≤ b2 := Nat.le_trans Z0 (Nat.le_of_eq gq2.symm)
  have sz_b2 : h0.size ≤ b2 := Nat.le_trans K0.1 (Nat.le_of_eq gq2.symm)
  have pre3 := fun t (kt : At p e below T2 m 4 #[vR ac, vI 0, vI 4, vU, vU] [(.ref b2)] t) => pre1 t (st2 _ kt)
  have pre4 := fun t (kt : At p e below T2 m 19 #[vR ac, vI 0, vI 4, vR b2, vI 0] [(.int 0), (.ref ac), (.int 0), (.ref b2)] t) => pre3 t (by
    show At p e below T2 m 4 #[vR ac, vI 0, vI 4, vU, vU] [(.ref b2)] _
    refine XS.astoreN X2.here hx rfl (hb hby d19_4) rfl rfl (l' := #[vR ac, vI 0, vI 4, vR b2, vU]) rfl ?_
    show At p e below T2 m 5 #[vR ac, vI 0, vI 4, vR b2, vU] [] _
    refine XS.iconst X2.here hx rfl (hb hby d19_5) ?_
    show At p e below T2 m 6 #[vR ac, vI 0, vI 4, vR b2, vU] [(.int 0)] _
    refine XS.istore X2.here hx rfl (hb hby d19_6) rfl (l' := #[vR ac, vI 0, vI 4, vR b2, vI 0]) rfl ?_
    show At p e below T2 m 8 #[vR ac, vI 0, vI 4, vR b2, vI 0] [] _
    refine XS.iload X2.here hx rfl (hb hby d19_8) rfl ?_
    show At p e below T2 m 10 #[vR ac, vI 0, vI 4, vR b2, vI 0] [(.int 0)] _
    refine XS.iloadN X2.here hx rfl (hb hby d19_10) rfl ?_
    show At p e below T2 m 11 #[vR ac, vI 0, vI 4, vR b2, vI 0] [(.int 4), (.int 0)] _
    refine XS.icmpNo X2.here hx rfl (hb hby d19_11) rfl (tlt (by decide : (0 : Int32) < (4 : Int32))).2.1 ?_
    show At p e below T2 m 14 #[vR ac, vI 0, vI 4, vR b2, vI 0] [] _
    refine XS.aloadN X2.here hx rfl (hb hby d19_14) rfl rfl ?_
    show At p e below T2 m 15 #[vR ac, vI 0, vI 4, vR b2, vI 0] [(.ref b2)] _
    refine XS.iload X2.here hx rfl (hb hby d19_15) rfl ?_
    show At p e below T2 m 17 #[vR ac, vI 0, vI 4, vR b2, vI 0] [(.int 0), (.ref b2)] _
    refine XS.aloadN X2.here hx rfl (hb hby d19_17) rfl rfl ?_
    show At p e below T2 m 18 #[vR ac, vI 0, vI 4, vR b2, vI 0] [(.ref ac), (.int 0), (.ref b2)] _
    refine XS.iloadN X2.here hx rfl (hb hby d19_18) rfl ?_
    exact kt)
  have f5 := (Vc.keep K2 nin0)
  obtain ⟨cl6, Ar6, qk6, Sz6, Nn6, Hh6, Gg6⟩ := id f5
  have hin6 : ¬ ((0 : Int32) < 0 ∨ cl6.slots.size ≤ ((0 : Int32)).toNatClampNeg) := inb_of Sz6 ⟨by decide, by decide⟩
  have hat6 : cl6.slots[((0 : Int32)).toNatClampNeg]? = some (.int q1) := Hh6.at hin6 rfl
  have o7 : Old Z n0 T2.heap := (O0.keep K2 all0)
  have pre8 := fun t (kt : At p e below T2 m 20 #[vR ac, vI 0, vI 4, vR b2, vI 0] [(.int q1), (.int 0), (.ref b2)] t) => pre4 t (by
    show At p e below T2 m 19 #[vR ac, vI 0, vI 4, vR b2, vI 0] [(.int 0), (.ref ac), (.int 0), (.ref b2)] _
    refine X2.caload hx (j := (0 : Int32)) (v := (.int q1)) Ar6.1 (State.isArrayOf_alike hZ.alike Ar6.2.1) Ar6.2.2 hin6 hat6 (g := (mkF m 19 #[vR ac, vI 0, vI 4, vR b2, vI 0] [(.int 0), (.ref ac), (.int 0), (.ref b2)])) rfl rfl (hb hby d19_19) _ ?_
    exact kt)
  obtain ⟨_, _, ⟨T9, L9, kc9, nc9⟩, -, X9, ⟨Lc9, hQ9, l9, y9, z9⟩, st9⟩ := Jvm.LawKit.callS X2 hx (y := (⟨"java/lang/StringUTF16", "putChar", "([BII)V"⟩ : MethodName)) hown (mvT hZ (wd hw 95 rfl)) (mvT hZ (wd hw 96 rfl)) (mvT hZ (wd hw 70 rfl)) (mvT hZ (wd hw 97 rfl)) (by decide) (backOf (W := 0) (rm22 l Z a0 hw [] b2 kk2 q1 (8 : Int32) _ (0 : Int32) 0 T2.heap n0 o7 SA SH SL Va2 gg_b2 ⟨by decide, by decide⟩ ⟨by decide, by decide⟩ (by decide) (by decide) (Nat.le_of_ble_eq_true rfl)) hZ (wd hw 97 rfl) (wd hw 70 rfl) (by decide) (by decide)) (g := (mkF m 20 #[vR ac, vI 0, vI 4, vR b2, vI 0] [(.int q1), (.int 0), (.ref b2)])) rfl (by rw [hml]; rfl) (argsL := [(.ref b2), (.int 0), (.int q1)]) (rest := []) (lenOf pd_2 rfl) rfl (by show 2 * 0 + _ ≤ _; exact Nat.le_of_eq rfl) (hb hby d19_20) (fun _ _ => ⟨rfl, rfl, (by decide : 1 + 0 ≤ _), (by decide : 8 + 0 ≤ _)⟩)
  dsimp only [Pt.U, Pt.locs, Pt.cells, Pt.slots] at X9 l9 y9 z9 st9 hQ9
  subst l9 y9 z9
  obtain ⟨rfl, N9q, K9, Va9⟩ := hQ9
  have N9 := Fr.app N2 N9q
  have pre10 := fun t (kt : At p e below T9 m 23 #[vR ac, vI 0, vI 4, vR b2, vI 0] [] t) => pre8 t (st9 _ kt)
  have Vx9 : Arv Z T9.heap b2 kk2 .byte (8 : Int32) [(.int (nar .byte ((q1 >>> ((0 : Int32) &&& 31)).toInt8.toInt32))), (.int (nar .byte ((q1 >>> ((8 : Int32) &&& 31)).toInt8.toInt32))), (.int 0), (.int 0), (.int 0), (.int 0), (.int 0), (.int 0)] (.int 0) := Va9
  have pre11 := fun t (kt : At p e below T9 m 19 #[vR ac, vI 1, vI 4, vR b2, vI 1] [(.int 1), (.ref ac), (.int 1), (.ref b2)] t) => pre10 t (by
    show At p e below T9 m 23 #[vR ac, vI 0, vI 4, vR b2, vI 0] [] _
    refine XS.iinc X9.here hx rfl (hb hby d19_23) rfl (l' := #[vR ac, .val (.int ((0 : Int32) + (1 : Int32))), vI 4, vR b2, vI 0]) rfl ?_
    show At p e below T9 m 26 #[vR ac, .val (.int ((0 : Int32) + (1 : Int32))), vI 4, vR b2, vI 0] [] _
    show At p e below T9 m 26 #[vR ac, vI 1, vI 4, vR b2, vI 0] [] _
    refine XS.iinc X9.here hx rfl (hb hby d19_26) rfl (l' := #[vR ac, vI 1, vI 4, vR b2, .val (.int ((0 : Int32) + (1 : Int32)))]) rfl ?_
    show At p e below T9 m 29 #[vR ac, vI 1, vI 4, vR b2, .val (.int ((0 : Int32) + (1 : Int32)))] [] _
    show At p e below T9 m 29 #[vR ac, vI 1, vI 4, vR b2, vI 1] [] _
    refine XS.goto X9.here hx rfl (pc0 := 29) (pc' := 8) rfl (hb hby d19_29) (by decide) (by decide) ?_
    show At p e below T9 m 8 #[vR ac, vI 1, vI 4, vR b2, vI 1] [] _
    refine XS.iload X9.here hx rfl (hb hby d19_8) rfl ?_
    show At p e below T9 m 10 #[vR ac, vI 1, vI 4, vR b2, vI 1] [(.int 1)] _
    refine XS.iloadN X9.here hx rfl (hb hby d19_10) rfl ?_
    show At p e below T9 m 11 #[vR ac, vI 1, vI 4, vR b2, vI 1] [(.int 4), (.int 1)] _
    refine XS.icmpNo X9.here hx rfl (hb hby d19_11) rfl (tlt (by decide : (1 : Int32) < (4 : Int32))).2.1 ?_
    show At p e below T9 m 14 #[vR ac, vI 1, vI 4, vR b2, vI 1] [] _
    refine XS.aloadN X9.here hx rfl (hb hby d19_14) rfl rfl ?_
    show At p e below T9 m 15 #[vR ac, vI 1, vI 4, vR b2, vI 1] [(.ref b2)] _
    refine XS.iload X9.here hx rfl (hb hby d19_15) rfl ?_
    show At p e below T9 m 17 #[vR ac, vI 1, vI 4, vR b2, vI 1] [(.int 1), (.ref b2)] _
    refine XS.aloadN X9.here hx rfl (hb hby d19_17) rfl rfl ?_
    show At p e below T9 m 18 #[vR ac, vI 1, vI 4, vR b2, vI 1] [(.ref ac), (.int 1), (.ref b2)] _
    refine XS.iloadN X9.here hx rfl (hb hby d19_18) rfl ?_
    exact kt)
  have f12 := (f5.keep K9 (ninS (Nat.ne_of_lt (Nat.lt_of_lt_of_le Vc.lt (Nat.le_of_eq gq2.symm))) nin0))
  obtain ⟨cl13, Ar13, qk13, Sz13, Nn13, Hh13, Gg13⟩ := id f12
  have hin13 : ¬ ((1 : Int32) < 0 ∨ cl13.slots.size ≤ ((1 : Int32)).toNatClampNeg) := inb_of Sz13 ⟨by decide, by decide⟩
  have hat13 : cl13.slots[((1 : Int32)).toNatClampNeg]? = some (.int q2) := Hh13.at hin13 rfl
  have o14 : Old Z n0 T9.heap := (o7.keep K9 (allS gg_b2 all0))
  have pre15 := fun t (kt : At p e below T9 m 20 #[vR ac, vI 1, vI 4, vR b2, vI 1] [(.int q2), (.int 1), (.ref b2)] t) => pre11 t (by
    show At p e below T9 m 19 #[vR ac, vI 1, vI 4, vR b2, vI 1] [(.int 1), (.ref ac), (.int 1), (.ref b2)] _
    refine X9.caload hx (j := (1 : Int32)) (v := (.int q2)) Ar13.1 (State.isArrayOf_alike hZ.alike Ar13.2.1) Ar13.2.2 hin13 hat13 (g := (mkF m 19 #[vR ac, vI 1, vI 4, vR b2, vI 1] [(.int 1), (.ref ac), (.int 1), (.ref b2)])) rfl rfl (hb hby d19_19) _ ?_
    exact kt)
  obtain ⟨_, _, ⟨T16, L16, kc16, nc16⟩, -, X16, ⟨Lc16, hQ16, l16, y16, z16⟩, st16⟩ := Jvm.LawKit.callS X9 hx (y := (⟨"java/lang/StringUTF16", "putChar", "([BII)V"⟩ : MethodName)) hown (mvT hZ (wd hw 95 rfl)) (mvT hZ (wd hw 96 rfl)) (mvT hZ (wd hw 70 rfl)) (mvT hZ (wd hw 97 rfl)) (by decide) (backOf (W := 0) (rm22 l Z a0 hw [] b2 kk2 q2 (8 : Int32) _ (1 : Int32) 2 T9.heap n0 o14 SA SH SL Vx9 gg_b2 ⟨by decide, by decide⟩ ⟨by decide, by decide⟩ (by decide) (by decide) (Nat.le_of_ble_eq_true rfl)) hZ (wd hw 97 rfl) (wd hw 70 rfl) (by decide) (by decide)) (g := (mkF m 20 #[vR ac, vI 1, vI 4, vR b2, vI 1] [(.int q2), (.int 1), (.ref b2)])) rfl (by rw [hml]; rfl) (argsL := [(.ref b2), (.int 1), (.int q2)]) (rest := []) (lenOf pd_2 rfl) rfl (by show 2 * 0 + _ ≤ _; exact Nat.le_of_eq rfl) (hb hby d19_20) (fun _ _ => ⟨rfl, rfl, (by decide : 1 + 0 ≤ _), (by decide : 8 + 0 ≤ _)⟩)
  dsimp only [Pt.U, Pt.locs, Pt.cells, Pt.slots] at X16 l16 y16 z16 st16 hQ16
  subst l16 y16 z16
  obtain ⟨rfl, N16q, K16, Va16⟩ := hQ16
  have N16 := Fr.app N9 N16q
  have pre17 := fun t (kt : At p e below T16 m 23 #[vR ac, vI 1, vI 4, vR b2, vI 1] [] t) => pre15 t (st16 _ kt)
  have Vx16 : Arv Z T16.heap b2 kk2 .byte (8 : Int32) [(.int (nar .byte ((q1 >>> ((0 : Int32) &&& 31)).toInt8.toInt32))), (.int (nar .byte ((q1 >>> ((8 : Int32) &&& 31)).toInt8.toInt32))), (.int (nar .byte ((q2 >>> ((0 : Int32) &&& 31)).toInt8.toInt32))), (.int (nar .byte ((q2 >>> ((8 : Int32) &&& 31)).toInt8.toInt32))), (.int 0), (.int 0), (.int 0), (.int 0)] (.int 0) := Va16
  have pre18 := fun t (kt : At p e below T16 m 19 #[vR ac, vI 2, vI 4, vR b2, vI 2] [(.int 2), (.ref ac), (.int 2), (.ref b2)] t) => pre17 t (by
    show At p e below T16 m 23 #[vR ac, vI 1, vI 4, vR b2, vI 1] [] _
    refine XS.iinc X16.here hx rfl (hb hby d19_23) rfl (l' := #[vR ac, .val (.int ((1 : Int32) + (1 : Int32))), vI 4, vR b2, vI 1]) rfl ?_
    show At p e below T16 m 26 #[vR ac, .val (.int ((1 : Int32) + (1 : Int32))), vI 4, vR b2, vI 1] [] _
    show At p e below T16 m 26 #[vR ac, vI 2, vI 4, vR b2, vI 1] [] _
    refine XS.iinc X16.here hx rfl (hb hby d19_26) rfl (l' := #[vR ac, vI 2, vI 4, vR b2, .val (.int ((1 : Int32) + (1 : Int32)))]) rfl ?_
    show At p e below T16 m 29 #[vR ac, vI 2, vI 4, vR b2, .val (.int ((1 : Int32) + (1 : Int32)))] [] _
    show At p e below T16 m 29 #[vR ac, vI 2, vI 4, vR b2, vI 2] [] _
    refine XS.goto X16.here hx rfl (pc0 := 29) (pc' := 8) rfl (hb hby d19_29) (by decide) (by decide) ?_
    show At p e below T16 m 8 #[vR ac, vI 2, vI 4, vR b2, vI 2] [] _
    refine XS.iload X16.here hx rfl (hb hby d19_8) rfl ?_
    show At p e below T16 m 10 #[vR ac, vI 2, vI 4, vR b2, vI 2] [(.int 2)] _
    refine XS.iloadN X16.here hx rfl (hb hby d19_10) rfl ?_
    show At p e below T16 m 11 #[vR ac, vI 2, vI 4, vR b2, vI 2] [(.int 4), (.int 2)] _
    refine XS.icmpNo X16.here hx rfl (hb hby d19_11) rfl (tlt (by decide : (2 : Int32) < (4 : Int32))).2.1 ?_
    show At p e below T16 m 14 #[vR ac, vI 2, vI 4, vR b2, vI 2] [] _
    refine XS.aloadN X16.here hx rfl (hb hby d19_14) rfl rfl ?_
    show At p e below T16 m 15 #[vR ac, vI 2, vI 4, vR b2, vI 2] [(.ref b2)] _
    refine XS.iload X16.here hx rfl (hb hby d19_15) rfl ?_
    show At p e below T16 m 17 #[vR ac, vI 2, vI 4, vR b2, vI 2] [(.int 2), (.ref b2)] _
    refine XS.aloadN X16.here hx rfl (hb hby d19_17) rfl rfl ?_
    show At p e below T16 m 18 #[vR ac, vI 2, vI 4, vR b2, vI 2] [(.ref ac), (.int 2), (.ref b2)] _
    refine XS.iloadN X16.here hx rfl (hb hby d19_18) rfl ?_
    exact kt)
  have f19 := (f12.keep K16 (ninS (Nat.ne_of_lt (Nat.lt_of_lt_of_le Vc.lt (Nat.le_of_eq gq2.symm))) nin0))
  obtain ⟨cl20, Ar20, qk20, Sz20, Nn20, Hh20, Gg20⟩ := id f19
  have hin20 : ¬ ((2 : Int32) < 0 ∨ cl20.slots.size ≤ ((2 : Int32)).toNatClampNeg) := inb_of Sz20 ⟨by decide, by decide⟩
  have hat20 : cl20.slots[((2 : Int32)).toNatClampNeg]? = some (.int q3) := Hh20.at hin20 rfl
  have o21 : Old Z n0 T16.heap := (o14.keep K16 (allS gg_b2 all0))
  have pre22 := fun t (kt : At p e below T16 m 20 #[vR ac, vI 2, vI 4, vR b2, vI 2] [(.int q3), (.int 2), (.ref b2)] t) => pre18 t (by
    show At p e below T16 m 19 #[vR ac, vI 2, vI 4, vR b2, vI 2] [(.int 2), (.ref ac), (.int 2), (.ref b2)] _
    refine X16.caload hx (j := (2 : Int32)) (v := (.int q3)) Ar20.1 (State.isArrayOf_alike hZ.alike Ar20.2.1) Ar20.2.2 hin20 hat20 (g := (mkF m 19 #[vR ac, vI 2, vI 4, vR b2, vI 2] [(.int 2), (.ref ac), (.int 2), (.ref b2)])) rfl rfl (hb hby d19_19) _ ?_
    exact kt)
  obtain ⟨_, _, ⟨T23, L23, kc23, nc23⟩, -, X23, ⟨Lc23, hQ23, l23, y23, z23⟩, st23⟩ := Jvm.LawKit.callS X16 hx (y := (⟨"java/lang/StringUTF16", "putChar", "([BII)V"⟩ : MethodName)) hown (mvT hZ (wd hw 95 rfl)) (mvT hZ (wd hw 96 rfl)) (mvT hZ (wd hw 70 rfl)) (mvT hZ (wd hw 97 rfl)) (by decide) (backOf (W := 0) (rm22 l Z a0 hw [] b2 kk2 q3 (8 : Int32) _ (2 : Int32) 4 T16.heap n0 o21 SA SH SL Vx16 gg_b2 ⟨by decide, by decide⟩ ⟨by decide, by decide⟩ (by decide) (by decide) (Nat.le_of_ble_eq_true rfl)) hZ (wd hw 97 rfl) (wd hw 70 rfl) (by decide) (by decide)) (g := (mkF m 20 #[vR ac, vI 2, vI 4, vR b2, vI 2] [(.int q3), (.int 2), (.ref b2)])) rfl (by rw [hml]; rfl) (argsL := [(.ref b2), (.int 2), (.int q3)]) (rest := []) (lenOf pd_2 rfl) rfl (by show 2 * 0 + _ ≤ _; exact Nat.le_of_eq rfl) (hb hby d19_20) (fun _ _ => ⟨rfl, rfl, (by decide : 1 + 0 ≤ _), (by decide : 8 + 0 ≤ _)⟩)
  dsimp only [Pt.U, Pt.locs, Pt.cells, Pt.slots] at X23 l23 y23 z23 st23 hQ23
  subst l23 y23 z23
  obtain ⟨rfl, N23q, K23, Va23⟩ := hQ23
  have N23 := Fr.app N16 N23q
  have pre24 := fun t (kt : At p e below T23 m 23 #[vR ac, vI 2, vI 4, vR b2, vI 2] [] t) => pre22 t (st23 _ kt)
  have Vx23 : Arv Z T23.heap b2 kk2 .byte (8 : Int32) [(.int (nar .byte ((q1 >>> ((0 : Int32) &&& 31)).toInt8.toInt32))), (.int (nar .byte ((q1 >>> ((8 : Int32) &&& 31)).toInt8.toInt32))), (.int (nar .byte ((q2 >>> ((0 : Int32) &&& 31)).toInt8.toInt32))), (.int (nar .byte ((q2 >>> ((8 : Int32) &&& 31)).toInt8.toInt32))), (.int (nar .byte ((q3 >>> ((0 : Int32) &&& 31)).toInt8.toInt32))), (.int (nar .byte ((q3 >>> ((8 : Int32) &&& 31)).toInt8.toInt32))), (.int 0), (.int 0)] (.int 0) := Va23
  have pre25 := fun t (kt : At p e below T23 m 19 #[vR ac, vI 3, vI 4, vR b2, vI 3] [(.int 3), (.ref ac), (.int 3), (.ref b2)] t) => pre24 t (by
    show At p e below T23 m 23 #[vR ac, vI 2, vI 4, vR b2, vI 2] [] _
    refine XS.iinc X23.here hx rfl (hb hby d19_23) rfl (l' := #[vR ac, .val (.int ((2 : Int32) + (1 : Int32))), vI 4, vR b2, vI 2]) rfl ?_
    show At p e below T23 m 26 #[vR ac, .val (.int ((2 : Int32) + (1 : Int32))), vI 4, vR b2, vI 2] [] _
    show At p e below T23 m 26 #[vR ac, vI 3, vI 4, vR b2, vI 2] [] _
    refine XS.iinc X23.here hx rfl (hb hby d19_26) rfl (l' := #[vR ac, vI 3, vI 4, vR b2, .val (.int ((2 : Int32) + (1 : Int32)))]) rfl ?_
    show At p e below T23 m 29 #[vR ac, vI 3, vI 4, vR b2, .val (.int ((2 : Int32) + (1 : Int32)))] [] _
    show At p e below T23 m 29 #[vR ac, vI 3, vI 4, vR b2, vI 3] [] _
    refine XS.goto X23.here hx rfl (pc0 := 29) (pc' := 8) rfl (hb hby d19_29) (by decide) (by decide) ?_
    show At p e below T23 m 8 #[vR ac, vI 3, vI 4, vR b2, vI 3] [] _
    refine XS.iload X23.here hx rfl (hb hby d19_8) rfl ?_
    show At p e below T23 m 10 #[vR ac, vI 3, vI 4, vR b2, vI 3] [(.int 3)] _
    refine XS.iloadN X23.here hx rfl (hb hby d19_10) rfl ?_
    show At p e below T23 m 11 #[vR ac, vI 3, vI 4, vR b2, vI 3] [(.int 4), (.int 3)] _
    refine XS.icmpNo X23.here hx rfl (hb hby d19_11) rfl (tlt (by decide : (3 : Int32) < (4 : Int32))).2.1 ?_
    show At p e below T23 m 14 #[vR ac, vI 3, vI 4, vR b2, vI 3] [] _
    refine XS.aloadN X23.here hx rfl (hb hby d19_14) rfl rfl ?_
    show At p e below T23 m 15 #[vR ac, vI 3, vI 4, vR b2, vI 3] [(.ref b2)] _
    refine XS.iload X23.here hx rfl (hb hby d19_15) rfl ?_
    show At p e below T23 m 17 #[vR ac, vI 3, vI 4, vR b2, vI 3] [(.int 3), (.ref b2)] _
    refine XS.aloadN X23.here hx rfl (hb hby d19_17) rfl rfl ?_
    show At p e below T23 m 18 #[vR ac, vI 3, vI 4, vR b2, vI 3] [(.ref ac), (.int 3), (.ref b2)] _
    refine XS.iloadN X23.here hx rfl (hb hby d19_18) rfl ?_
    exact kt)
  have f26 := (f19.keep K23 (ninS (Nat.ne_of_lt (Nat.lt_of_lt_of_le Vc.lt (Nat.le_of_eq gq2.symm))) nin0))
  obtain ⟨cl27, Ar27, qk27, Sz27, Nn27, Hh27, Gg27⟩ := id f26
  have hin27 : ¬ ((3 : Int32) < 0 ∨ cl27.slots.size ≤ ((3 : Int32)).toNatClampNeg) := inb_of Sz27 ⟨by decide, by decide⟩
  have hat27 : cl27.slots[((3 : Int32)).toNatClampNeg]? = some (.int q4) := Hh27.at hin27 rfl
  have o28 : Old Z n0 T23.heap := (o21.keep K23 (allS gg_b2 all0))
  have pre29 := fun t (kt : At p e below T23 m 20 #[vR ac, vI 3, vI 4, vR b2, vI 3] [(.int q4), (.int 3), (.ref b2)] t) => pre25 t (by
    show At p e below T23 m 19 #[vR ac, vI 3, vI 4, vR b2, vI 3] [(.int 3), (.ref ac), (.int 3), (.ref b2)] _
    refine X23.caload hx (j := (3 : Int32)) (v := (.int q4)) Ar27.1 (State.isArrayOf_alike hZ.alike Ar27.2.1) Ar27.2.2 hin27 hat27 (g := (mkF m 19 #[vR ac, vI 3, vI 4, vR b2, vI 3] [(.int 3), (.ref ac), (.int 3), (.ref b2)])) rfl rfl (hb hby d19_19) _ ?_
    exact kt)
  obtain ⟨_, _, ⟨T30, L30, kc30, nc30⟩, -, X30, ⟨Lc30, hQ30, l30, y30, z30⟩, st30⟩ := Jvm.LawKit.callS X23 hx (y := (⟨"java/lang/StringUTF16", "putChar", "([BII)V"⟩ : MethodName)) hown (mvT hZ (wd hw 95 rfl)) (mvT hZ (wd hw 96 rfl)) (mvT hZ (wd hw 70 rfl)) (mvT hZ (wd hw 97 rfl)) (by decide) (backOf (W := 0) (rm22 l Z a0 hw [] b2 kk2 q4 (8 : Int32) _ (3 : Int32) 6 T23.heap n0 o28 SA SH SL Vx23 gg_b2 ⟨by decide, by decide⟩ ⟨by decide, by decide⟩ (by decide) (by decide) (Nat.le_of_ble_eq_true rfl)) hZ (wd hw 97 rfl) (wd hw 70 rfl) (by decide) (by decide)) (g := (mkF m 20 #[vR ac, vI 3, vI 4, vR b2, vI 3] [(.int q4), (.int 3), (.ref b2)])) rfl (by rw [hml]; rfl) (argsL := [(.ref b2), (.int 3), (.int q4)]) (rest := []) (lenOf pd_2 rfl) rfl (by show 2 * 0 + _ ≤ _; exact Nat.le_of_eq rfl) (hb hby d19_20) (fun _ _ => ⟨rfl, rfl, (by decide : 1 + 0 ≤ _), (by decide : 8 + 0 ≤ _)⟩)
  dsimp only [Pt.U, Pt.locs, Pt.cells, Pt.slots] at X30 l30 y30 z30 st30 hQ30
  subst l30 y30 z30
  obtain ⟨rfl, N30q, K30, Va30⟩ := hQ30
  have N30 := Fr.app N23 N30q
  have pre31 := fun t (kt : At p e below T30 m 23 #[vR ac, vI 3, vI 4, vR b2, vI 3] [] t) => pre29 t (st30 _ kt)
  have Vx30 : Arv Z T30.heap b2 kk2 .byte (8 : Int32) [(.int (nar .byte ((q1 >>> ((0 : Int32) &&& 31)).toInt8.toInt32))), (.int (nar .byte ((q1 >>> ((8 : Int32) &&& 31)).toInt8.toInt32))), (.int (nar .byte ((q2 >>> ((0 : Int32) &&& 31)).toInt8.toInt32))), (.int (nar .byte ((q2 >>> ((8 : Int32) &&& 31)).toInt8.toInt32))), (.int (nar .byte ((q3 >>> ((0 : Int32) &&& 31)).toInt8.toInt32))), (.int (nar .byte ((q3 >>> ((8 : Int32) &&& 31)).toInt8.toInt32))), (.int (nar .byte ((q4 >>> ((0 : Int32) &&& 31)).toInt8.toInt32))), (.int (nar .byte ((q4 >>> ((8 : Int32) &&& 31)).toInt8.toInt32)))] (.int 0) := Va30
  have k32 : Keep h0 T30.heap [] := (((((K0.trans K2 all0).trans K9 (allS (Or.inr sz_b2) all0)).trans K16 (allS (Or.inr sz_b2) all0)).trans K23 (allS (Or.inr sz_b2) all0)).trans K30 (allS (Or.inr sz_b2) all0))
  have pre33 := fun t (kt : At p e below T30 m 33 #[vR ac, vI 4, vI 4, vR b2, vI 4] [(.ref b2)] t) => pre31 t (by
    show At p e below T30 m 23 #[vR ac, vI 3, vI 4, vR b2, vI 3] [] _
    refine XS.iinc X30.here hx rfl (hb hby d19_23) rfl (l' := #[vR ac, .val (.int ((3 : Int32) + (1 : Int32))), vI 4, vR b2, vI 3]) rfl ?_
    show At p e below T30 m 26 #[vR ac, .val (.int ((3 : Int32) + (1 : Int32))), vI 4, vR b2, vI 3] [] _
    show At p e below T30 m 26 #[vR ac, vI 4, vI 4, vR b2, vI 3] [] _
    refine XS.iinc X30.here hx rfl (hb hby d19_26) rfl (l' := #[vR ac, vI 4, vI 4, vR b2, .val (.int ((3 : Int32) + (1 : Int32)))]) rfl ?_
    show At p e below T30 m 29 #[vR ac, vI 4, vI 4, vR b2, .val (.int ((3 : Int32) + (1 : Int32)))] [] _
    show At p e below T30 m 29 #[vR ac, vI 4, vI 4, vR b2, vI 4] [] _
    refine XS.goto X30.here hx rfl (pc0 := 29) (pc' := 8) rfl (hb hby d19_29) (by decide) (by decide) ?_
    show At p e below T30 m 8 #[vR ac, vI 4, vI 4, vR b2, vI 4] [] _
    refine XS.iload X30.here hx rfl (hb hby d19_8) rfl ?_
    show At p e below T30 m 10 #[vR ac, vI 4, vI 4, vR b2, vI 4] [(.int 4)] _
    refine XS.iloadN X30.here hx rfl (hb hby d19_10) rfl ?_
    show At p e below T30 m 11 #[vR ac, vI 4, vI 4, vR b2, vI 4] [(.int 4), (.int 4)] _
    refine XS.icmpYes X30.here hx rfl (pc0 := 11) (pc' := 32) rfl (hb hby d19_11) rfl (flt (by decide : ¬ ((4 : Int32) < (4 : Int32)))).2.1 (by decide) (by decide) ?_
    show At p e below T30 m 32 #[vR ac, vI 4, vI 4, vR b2, vI 4] [] _
    refine XS.aloadN X30.here hx rfl (hb hby d19_32) rfl rfl ?_
    exact kt)
  obtain ⟨fs, hr, hrun, hended, hW, hsame⟩ := X30.leave (v := (some (.ref b2))) (fun h => by rw [Bd.returns] at h; cases h)
  refine ⟨_, _, pre33 _ ?_, hrun, hended, _, _, rfl, ?_, ⟨_, rfl⟩, hW, hsame.mono (by decide) (by decide)⟩
  · show At p e below T30 m 33 #[vR ac, vI 4, vI 4, vR b2, vI 4] [(.ref b2)] _
    exact retOut X30 hx (t := (.array .byte)) Bd.returns rfl (Or.inr (Or.inr (Or.inr (Or.inr ⟨rfl, rfl, rfl⟩)))) (hb hby d19_33) hr
  · show Q19_4 Z ac kc q1 q2 q3 q4 h0 n0 _ T30.heap _
    exact ⟨by rw [gq2], N30, k32, _, by rw [← gq2]; exact Vx30⟩
theorem ef_15_1 (m : MethodId) (ac : Addr) (ab : Addr) : entryFrame m #[(.ref ac), (.int 0), (.ref ab), (.int 0), (.int 1)] 7 = (mkF m 0 #[vR ac, vI 0, vR ab, vI 0, vI 1, vU, vU] []) := by first | (simp [entryFrame, mkF, argsToLocals, Value.category]; done) | rfl
theorem d15_0 : decode jdk_52_method_21_code 0 = .ok (.iconst 0, 1) := by decide +kernel
theorem d15_1 : decode jdk_52_method_21_code 1 = .ok (.istore 5, 2) := by decide +kernel
theorem d15_3 : decode jdk_52_method_21_code 3 = .ok (.iload 5, 2) := by decide +kernel
theorem d15_5 : decode jdk_52_method_21_code 5 = .ok (.iload 4, 2) := by decide +kernel
theorem d15_7 : decode jdk_52_method_21_code 7 = .ok (.if_icmp .ge 37, 3) := by decide +kernel
theorem d15_10 : decode jdk_52_method_21_code 10 = .ok (.aload_n 0, 1) := by decide +kernel
theorem d15_11 : decode jdk_52_method_21_code 11 = .ok (.iload_n 1, 1) := by decide +kernel
theorem d15_12 : decode jdk_52_method_21_code 12 = .ok (.caload, 1) := by decide +kernel
theorem d15_13 : decode jdk_52_method_21_code 13 = .ok (.istore 6, 2) := by decide +kernel
theorem d15_15 : decode jdk_52_method_21_code 15 = .ok (.iload 6, 2) := by decide +kernel
theorem d15_17 : decode jdk_52_method_21_code 17 = .ok (.sipush 255, 3) := by decide +kernel
theorem d15_20 : decode jdk_52_method_21_code 20 = .ok (.if_icmp .le 6, 3) := by decide +kernel
theorem d15_23 : decode jdk_52_method_21_code 23 = .ok (.iload 5, 2) := by decide +kernel
theorem d15_25 : decode jdk_52_method_21_code 25 = .ok (.ireturn, 1) := by decide +kernel
theorem d15_26 : decode jdk_52_method_21_code 26 = .ok (.aload_n 2, 1) := by decide +kernel
theorem d15_27 : decode jdk_52_method_21_code 27 = .ok (.iload_n 3, 1) := by decide +kernel
theorem d15_28 : decode jdk_52_method_21_code 28 = .ok (.iload 6, 2) := by decide +kernel
theorem d15_30 : decode jdk_52_method_21_code 30 = .ok (.i2b, 1) := by decide +kernel
theorem d15_31 : decode jdk_52_method_21_code 31 = .ok (.bastore, 1) := by decide +kernel
theorem d15_32 : decode jdk_52_method_21_code 32 = .ok (.iinc 1 1, 3) := by decide +kernel
theorem d15_35 : decode jdk_52_method_21_code 35 = .ok (.iinc 3 1, 3) := by decide +kernel
theorem d15_38 : decode jdk_52_method_21_code 38 = .ok (.iinc 5 1, 3) := by decide +kernel
theorem d15_41 : decode jdk_52_method_21_code 41 = .ok (.goto (-38), 3) := by decide +kernel
theorem d15_44 : decode jdk_52_method_21_code 44 = .ok (.iload 4, 2) := by decide +kernel
theorem d15_46 : decode jdk_52_method_21_code 46 = .ok (.ireturn, 1) := by decide +kernel
def Q15_1 (Z : State) (ac : Addr) (kc : ClassId) (ab : Addr) (kb : ClassId) (q1 : Int32) (h0 : Heap) (n0 : Nat) (v : Option Value) (h : Heap) (L : List Loc) : Prop := ∃ r : Int32, v = some (.int r) ∧ Fr n0 L ∧ Keep h0 h [ab] ∧ ((r = (1 : Int32) ∧ (¬ ((255 : Int32) < q1) ∧ True) ∧ Arv Z h ab kb .byte (1 : Int32) [(.int (nar .byte (q1.toInt8.toInt32)))] (.int 0)) ∨ ((r = (0 : Int32) ∧ (255 : Int32) < q1)))
set_option maxRecDepth 65536 in
set_option maxHeartbeats 40000000 in
theorem rm15_1 (l : Launch) (Z : State) (a0 : Array Value) (hw : ∀ d ∈ tables_1, d.before a0 Z = true) (ws : List Jvm.Cond) (ac : Addr) (kc : ClassId) (ab : Addr) (kb : ClassId) (q1 : Int32) (h0 : Heap) (n0 : Nat) (Z0 : n0 ≤ h0.size) (Vc : Arv Z h0 ac kc .char (1 : Int32) [(.int q1)] (.int 0)) (Vb : Arv Z h0 ab kb .byte (1 : Int32) [(.int 0)] (.int 0)) (ncb : ac ≠ ab) (gb : n0 ≤ ab) :
    MetFree l (⟨"java/lang/StringUTF16", "compress", "([CI[BII)I"⟩ : MethodName) (head1 (Jvm.Cond.code (⟨"java/lang/StringUTF16", "compress", "([CI[BII)I"⟩ : MethodName) jdk_52_method_21_code 7 (some .int) :: ws) ({ frames := 0, cells := 0, slots := 0, locals := 0 } : Room)) (fun a U => a = #[(.ref ac), (.int 0), (.ref ab), (.int 0), (.int 1)] ∧ Z.Warmed39 U.vm ∧ U.heap = h0) (fun _ _ _ _ _ => True) (fun _ U o U' => ∃ v L, o = .returned v ∧ Q15_1 Z ac kc ab kb q1 h0 n0 v U'.heap L ∧ FrameEnd U o U' L ({ frames := 0, cells := 0, slots := 0, locals := 0 } : Room).cells ({ frames := 0, cells := 0, slots := 0, locals := 0 } : Room).slots) := by
  refine MetFree.of_bodySF (plainFor_of_name pn_3) hisR ?_
  intro p e s m args below meth c s₁ Bd hml0 hP hK
  obtain ⟨rfl, hZ, hh⟩ := hP
  have hx := Bd.exec
  have hby := Bd.bytes
  have hml : c.maxLocals = 7 := hml0
  have hown : s.vm.findClass "java/lang/StringUTF16" = some m.cls := findClass_of_methodNamed Bd.named
  have hnm := (name_of_methodNamed Bd.named Bd.method).1
  have X0 : Stand p l e ({ frames := 0, cells := 0, slots := 0, locals := 0 } : Room) s m #[(.ref ac), (.int 0), (.ref ab), (.int 0), (.int 1)] below meth c s₁ [] 0 0 := Stand.of_body Bd
  have e0 : s₁.heap = h0 := by rw [← hh, Bd.state]; rfl
  have N0 := Fr.nil n0
  have K0 : Keep h0 h0 [ab] := Keep.refl _ _
  have pre0 : ∀ t, At p e below s₁ m 0 #[vR ac, vI 0, vR ab, vI 0, vI 1, vU, vU] [] t → Steps p.tables e below (s₁.setTop (entryFrame m #[(.ref ac), (.int 0), (.ref ab), (.int 0), (.int 1)] 7)) t := fun t k => castTop (ef_15_1 m ac ab) k
  have pre1 := fun t (kt : At p e below s₁ m 12 #[vR ac, vI 0, vR ab, vI 0, vI 1, vI 0, vU] [(.int 0), (.ref ac)] t) => pre0 t (by
    show At p e below s₁ m 0 #[vR ac, vI 0, vR ab, vI 0, vI 1, vU, vU] [] _
    refine XS.iconst X0.here hx rfl (hb hby d15_0) ?_
    show At p e below s₁ m 1 #[vR ac, vI 0, vR ab, vI 0, vI 1, vU, vU] [(.int 0)] _
    refine XS.istore X0.here hx rfl (hb hby d15_1) rfl (l' := #[vR ac, vI 0, vR ab, vI 0, vI 1, vI 0, vU]) rfl ?_
    show At p e below s₁ m 3 #[vR ac, vI 0, vR ab, vI 0, vI 1, vI 0, vU] [] _
    refine XS.iload X0.here hx rfl (hb hby d15_3) rfl ?_
    show At p e below s₁ m 5 #[vR ac, vI 0, vR ab, vI 0, vI 1, vI 0, vU] [(.int 0)] _
    refine XS.iload X0.here hx rfl (hb hby d15_5) rfl ?_
    show At p e below s₁ m 7 #[vR ac, vI 0, vR ab, vI 0, vI 1, vI 0, vU] [(.int 1), (.int 0)] _
    refine XS.icmpNo X0.here hx rfl (hb hby d15_7) rfl (tlt (by decide : (0 : Int32) < (1 : Int32))).2.1 ?_
    show At p e below s₁ m 10 #[vR ac, vI 0, vR ab, vI 0, vI 1, vI 0, vU] [] _
    refine XS.aloadN X0.here hx rfl (hb hby d15_10) rfl rfl ?_
    show At p e below s₁ m 11 #[vR ac, vI 0, vR ab, vI 0, vI 1, vI 0, vU] [(.ref ac)] _
    refine XS.iloadN X0.here hx rfl (hb hby d15_11) rfl ?_
    exact kt)
  obtain ⟨cl2, Ar2, qk2, Sz2, Nn2, Hh2, Gg2⟩ := id Vc
  have hin2 : ¬ ((0 : Int32) < 0 ∨ cl2.slots.size ≤ ((0 : Int32)).toNatClampNeg) := inb_of Sz2 ⟨by decide, by decide⟩
  have hat2 : cl2.slots[((0 : Int32)).toNatClampNeg]? = some (.int q1) := Hh2.at hin2 rfl
  have pre3 := fun t (kt : At p e below s₁ m 20 #[vR ac, vI 0, vR ab, vI 0, vI 1, vI 0, vI q1] [(.int 255), (.int q1)] t) => pre1 t (by
    show At p e below s₁ m 12 #[vR ac, vI 0, vR ab, vI 0, vI 1, vI 0, vU] [(.int 0), (.ref ac)] _
    refine X0.caload hx (j := (0 : Int32)) (v := (.int q1)) (by rw [e0]; exact Ar2.1) (State.isArrayOf_alike hZ.alike Ar2.2.1) Ar2.2.2 hin2 hat2 (g := (mkF m 12 #[vR ac, vI 0, vR ab, vI 0, vI 1, vI 0, vU] [(.int 0), (.ref ac)])) rfl rfl (hb hby d15_12) _ ?_
    show At p e below s₁ m 13 #[vR ac, vI 0, vR ab, vI 0, vI 1, vI 0, vU] [(.int q1)] _
    refine XS.istore X0.here hx rfl (hb hby d15_13) rfl (l' := #[vR ac, vI 0, vR ab, vI 0, vI 1, vI 0, vI q1]) rfl ?_
    show At p e below s₁ m 15 #[vR ac, vI 0, vR ab, vI 0, vI 1, vI 0, vI q1] [] _
    refine XS.iload X0.here hx rfl (hb hby d15_15) rfl ?_
    show At p e below s₁ m 17 #[vR ac, vI 0, vR ab, vI 0, vI 1, vI 0, vI q1] [(.int q1)] _
    refine XS.sipush X0.here hx rfl (hb hby d15_17) ?_
    exact kt)
  by_cases k1 : (255 : Int32) < q1
  · have pre4 := fun t (kt : At p e below s₁ m 25 #[vR ac, vI 0, vR ab, vI 0, vI 1, vI 0, vI q1] [(.int 0)] t) => pre3 t (by
      show At p e below s₁ m 20 #[vR ac, vI 0, vR ab, vI 0, vI 1, vI 0, vI q1] [(.int 255), (.int q1)] _
      refine XS.icmpNo X0.here hx rfl (hb hby d15_20) rfl (tlt (k1 : (255 : Int32) < q1)).2.2.2 ?_
      show At p e below s₁ m 23 #[vR ac, vI 0, vR ab, vI 0, vI 1, vI 0, vI q1] [] _
      refine XS.iload X0.here hx rfl (hb hby d15_23) rfl ?_
      exact kt)
    obtain ⟨fs, hr, hrun, hended, hW, hsame⟩ := X0.leave (v := (some (.int 0))) (fun h => by rw [Bd.returns] at h; cases h)
    refine ⟨_, _, pre4 _ ?_, hrun, hended, _, _, rfl, ?_, ⟨_, rfl⟩, hW, hsame.mono (by decide) (by decide)⟩
    · show At p e below s₁ m 25 #[vR ac, vI 0, vR ab, vI 0, vI 1, vI 0, vI q1] [(.int 0)] _
      exact retI X0 hx Bd.returns (hb hby d15_25) hr
    · show Q15_1 Z ac kc ab kb q1 h0 n0 _ s₁.heap _
      rw [e0]
      exact ⟨_, rfl, N0, K0, Or.inr (⟨rfl, k1⟩)⟩
  · obtain ⟨cl5, Ar5, qk5, Sz5, Nn5, Hh5, Gg5⟩ := id Vb
    have hin5 : ¬ ((0 : Int32) < 0 ∨ cl5.slots.size ≤ ((0 : Int32)).toNatClampNeg) := inb_of Sz5 ⟨by decide, by decide⟩
    have pre6 := fun t (kt : At p e below s₁ m 31 #[vR ac, vI 0, vR ab, vI 0, vI 1, vI 0, vI q1] [(.int (q1.toInt8.toInt32)), (.int 0), (.ref ab)] t) => pre3 t (by
      show At p e below s₁ m 20 #[vR ac, vI 0, vR ab, vI 0, vI 1, vI 0, vI q1] [(.int 255), (.int q1)] _
      refine XS.icmpYes X0.here hx rfl (pc0 := 20) (pc' := 26) rfl (hb hby d15_20) rfl (flt (k1 : ¬ ((255 : Int32) < q1))).2.2.2 (by decide) (by decide) ?_
      show At p e below s₁ m 26 #[vR ac, vI 0, vR ab, vI 0, vI 1, vI 0, vI q1] [] _
      refine XS.aloadN X0.here hx rfl (hb hby d15_26) rfl rfl ?_
      show At p e below s₁ m 27 #[vR ac, vI 0, vR ab, vI 0, vI 1, vI 0, vI q1] [(.ref ab)] _
      refine XS.iloadN X0.here hx rfl (hb hby d15_27) rfl ?_
      show At p e below s₁ m 28 #[vR ac, vI 0, vR ab, vI 0, vI 1, vI 0, vI q1] [(.int 0), (.ref ab)] _
      refine XS.iload X0.here hx rfl (hb hby d15_28) rfl ?_
      show At p e below s₁ m 30 #[vR ac, vI 0, vR ab, vI 0, vI 1, vI 0, vI q1] [(.int q1), (.int 0), (.ref ab)] _
      refine XS.i2b X0.here hx rfl (hb hby d15_30) rfl ?_
      exact kt)
    obtain ⟨T7, h7, X7, e7, W7, st7⟩ := stB X0 hx hZ e0 Ar5 (j := (0 : Int32)) hin5 (g := (mkF m 31 #[vR ac, vI 0, vR ab, vI 0, vI 1, vI 0, vI q1] [(.int (q1.toInt8.toInt32)), (.int 0), (.ref ab)])) rfl rfl (hb hby d15_31)
    have V7 := Arv.set Ar5 qk5 Sz5 Nn5 Hh5 Gg5 (fits_nar_byte _) W7 0 rfl (Nat.le_of_ble_eq_true rfl)
    have V7' : Arv Z h7 ab kb .byte (1 : Int32) [(.int (nar .byte (q1.toInt8.toInt32)))] (.int 0) := V7
    have N7 := Fr.snoc X7 N0 gb
    have pre8 := fun t (kt : At p e below T7 m 32 #[vR ac, vI 0, vR ab, vI 0, vI 1, vI 0, vI q1] [] t) => pre6 t (st7 _ kt)
    have k9 : Keep h0 h7 [ab] := (K0.wr W7 (Or.inl (List.mem_of_getElem? (i := 0) rfl)))
    have pre10 := fun t (kt : At p e below T7 m 46 #[vR ac, vI 1, vR ab, vI 1, vI 1, vI 1, vI q1] [(.int 1)] t) => pre8 t (by
      show At p e below T7 m 32 #[vR ac, vI 0, vR ab, vI 0, vI 1, vI 0, vI q1] [] _
      refine XS.iinc X7.here hx rfl (hb hby d15_32) rfl (l' := #[vR ac, .val (.int ((0 : Int32) + (1 : Int32))), vR ab, vI 0, vI 1, vI 0, vI q1]) rfl ?_
      show At p e below T7 m 35 #[vR ac, .val (.int ((0 : Int32) + (1 : Int32))), vR ab, vI 0, vI 1, vI 0, vI q1] [] _
      show At p e below T7 m 35 #[vR ac, vI 1, vR ab, vI 0, vI 1, vI 0, vI q1] [] _
      refine XS.iinc X7.here hx rfl (hb hby d15_35) rfl (l' := #[vR ac, vI 1, vR ab, .val (.int ((0 : Int32) + (1 : Int32))), vI 1, vI 0, vI q1]) rfl ?_
      show At p e below T7 m 38 #[vR ac, vI 1, vR ab, .val (.int ((0 : Int32) + (1 : Int32))), vI 1, vI 0, vI q1] [] _
      show At p e below T7 m 38 #[vR ac, vI 1, vR ab, vI 1, vI 1, vI 0, vI q1] [] _
      refine XS.iinc X7.here hx rfl (hb hby d15_38) rfl (l' := #[vR ac, vI 1, vR ab, vI 1, vI 1, .val (.int ((0 : Int32) + (1 : Int32))), vI q1]) rfl ?_
      show At p e below T7 m 41 #[vR ac, vI 1, vR ab, vI 1, vI 1, .val (.int ((0 : Int32) + (1 : Int32))), vI q1] [] _
      show At p e below T7 m 41 #[vR ac, vI 1, vR ab, vI 1, vI 1, vI 1, vI q1] [] _
      refine XS.goto X7.here hx rfl (pc0 := 41) (pc' := 3) rfl (hb hby d15_41) (by decide) (by decide) ?_
      show At p e below T7 m 3 #[vR ac, vI 1, vR ab, vI 1, vI 1, vI 1, vI q1] [] _
      refine XS.iload X7.here hx rfl (hb hby d15_3) rfl ?_
      show At p e below T7 m 5 #[vR ac, vI 1, vR ab, vI 1, vI 1, vI 1, vI q1] [(.int 1)] _
      refine XS.iload X7.here hx rfl (hb hby d15_5) rfl ?_
      show At p e below T7 m 7 #[vR ac, vI 1, vR ab, vI 1, vI 1, vI 1, vI q1] [(.int 1), (.int 1)] _
      refine XS.icmpYes X7.here hx rfl (pc0 := 7) (pc' := 44) rfl (hb hby d15_7) rfl (flt (by decide : ¬ ((1 : Int32) < (1 : Int32)))).2.1 (by decide) (by decide) ?_
      show At p e below T7 m 44 #[vR ac, vI 1, vR ab, vI 1, vI 1, vI 1, vI q1] [] _
      refine XS.iload X7.here hx rfl (hb hby d15_44) rfl ?_
      exact kt)
    obtain ⟨fs, hr, hrun, hended, hW, hsame⟩ := X7.leave (v := (some (.int 1))) (fun h => by rw [Bd.returns] at h; cases h)
    refine ⟨_, _, pre10 _ ?_, hrun, hended, _, _, rfl, ?_, ⟨_, rfl⟩, hW, hsame.mono (by decide) (by decide)⟩
    · show At p e below T7 m 46 #[vR ac, vI 1, vR ab, vI 1, vI 1, vI 1, vI q1] [(.int 1)] _
      exact retI X7 hx Bd.returns (hb hby d15_46) hr
    · show Q15_1 Z ac kc ab kb q1 h0 n0 _ T7.heap _
      rw [e7]
      exact ⟨_, rfl, N7, k9, Or.inl ⟨rfl, ⟨k1, trivial⟩, V7'⟩⟩
theorem own_bad1 {r : Int32} {q1 : Int32} (R1 : own_R q1) (h : ((r = (0 : Int32) ∧ (255 : Int32) < q1))) : ∃ u1 u2 : Int32, (¬ ((r <<< ((1 : Int32) &&& 31)) < 0) ∧ (r <<< ((1 : Int32) &&& 31)) < (2 : Int32)) ∧ (¬ (((r <<< ((1 : Int32) &&& 31)) + (1 : Int32)) < 0) ∧ ((r <<< ((1 : Int32) &&& 31)) + (1 : Int32)) < (2 : Int32)) ∧ ([(.int (nar .byte ((q1 >>> ((0 : Int32) &&& 31)).toInt8.toInt32))), (.int (nar .byte ((q1 >>> ((8 : Int32) &&& 31)).toInt8.toInt32)))] : List Value).getD ((r <<< ((1 : Int32) &&& 31))).toNatClampNeg (.int 0) = (.int u1) ∧ ([(.int (nar .byte ((q1 >>> ((0 : Int32) &&& 31)).toInt8.toInt32))), (.int (nar .byte ((q1 >>> ((8 : Int32) &&& 31)).toInt8.toInt32)))] : List Value).getD (((r <<< ((1 : Int32) &&& 31)) + (1 : Int32))).toNatClampNeg (.int 0) = (.int u2) ∧ (255 : Int32) < own_gc u1 u2 ∧ ¬ (r = (1 : Int32)) := by
  rcases h with ⟨rfl, k⟩
  · exact ⟨(nar .byte ((q1 >>> ((0 : Int32) &&& 31)).toInt8.toInt32)), (nar .byte ((q1 >>> ((8 : Int32) &&& 31)).toInt8.toInt32)), ⟨by decide, by decide⟩, ⟨by decide, by decide⟩, by rw [show ((0 : Int32) <<< ((1 : Int32) &&& 31)) = (0 : Int32) from by decide]; rfl, by rw [show (((0 : Int32) <<< ((1 : Int32) &&& 31)) + (1 : Int32)) = (1 : Int32) from by decide]; rfl, by rw [own_gcq R1]; exact k, by decide⟩
theorem ef_14_1 (m : MethodId) (ac : Addr) : entryFrame m #[(.ref ac), (.int 0), (.int 1)] 6 = (mkF m 0 #[vR ac, vI 0, vI 1, vU, vU, vU] []) := by first | (simp [entryFrame, mkF, argsToLocals, Value.category]; done) | rfl
theorem d14_0 : decode jdk_52_method_16_code 0 = .ok (.iload_n 2, 1) := by decide +kernel
theorem d14_1 : decode jdk_52_method_16_code 1 = .ok (.newarray .byte, 2) := by decide +kernel
theorem d14_3 : decode jdk_52_method_16_code 3 = .ok (.astore_n 3, 1) := by decide +kernel
theorem d14_4 : decode jdk_52_method_16_code 4 = .ok (.aload_n 0, 1) := by decide +kernel
theorem d14_5 : decode jdk_52_method_16_code 5 = .ok (.iload_n 1, 1) := by decide +kernel
theorem d14_6 : decode jdk_52_method_16_code 6 = .ok (.aload_n 3, 1) := by decide +kernel
theorem d14_7 : decode jdk_52_method_16_code 7 = .ok (.iconst 0, 1) := by decide +kernel
theorem d14_8 : decode jdk_52_method_16_code 8 = .ok (.iload_n 2, 1) := by decide +kernel
theorem pd_3 : parseMethodDescriptor "([CI[BII)I" = some ⟨[(.array .char), .int, (.array .byte), .int, .int], some .int⟩ := by decide +kernel
theorem d14_9 : decode jdk_52_method_16_code 9 = .ok (.invokestatic 115, 3) := by decide +kernel
theorem d14_12 : decode jdk_52_method_16_code 12 = .ok (.istore 4, 2) := by decide +kernel
theorem d14_14 : decode jdk_52_method_16_code 14 = .ok (.iload 4, 2) := by decide +kernel
theorem d14_16 : decode jdk_52_method_16_code 16 = .ok (.iload_n 2, 1) := by decide +kernel
theorem d14_17 : decode jdk_52_method_16_code 17 = .ok (.if_icmp .eq 40, 3) := by decide +kernel
theorem d14_57 : decode jdk_52_method_16_code 57 = .ok (.aload_n 3, 1) := by decide +kernel
theorem d14_58 : decode jdk_52_method_16_code 58 = .ok (.areturn, 1) := by decide +kernel
theorem d14_20 : decode jdk_52_method_16_code 20 = .ok (.aload_n 0, 1) := by decide +kernel
theorem d14_21 : decode jdk_52_method_16_code 21 = .ok (.iload_n 1, 1) := by decide +kernel
theorem d14_22 : decode jdk_52_method_16_code 22 = .ok (.iload_n 2, 1) := by decide +kernel
theorem pd_4 : parseMethodDescriptor "([CII)[B" = some ⟨[(.array .char), .int, .int], some (.array .byte)⟩ := by decide +kernel
theorem d14_23 : decode jdk_52_method_16_code 23 = .ok (.invokestatic 119, 3) := by decide +kernel
theorem d14_26 : decode jdk_52_method_16_code 26 = .ok (.astore 5, 2) := by decide +kernel
theorem d14_28 : decode jdk_52_method_16_code 28 = .ok (.aload 5, 2) := by decide +kernel
theorem d14_30 : decode jdk_52_method_16_code 30 = .ok (.iload 4, 2) := by decide +kernel
theorem pd_5 : parseMethodDescriptor "([BI)C" = some ⟨[(.array .byte), .int], some .char⟩ := by decide +kernel
theorem d14_32 : decode jdk_52_method_16_code 32 = .ok (.invokestatic 71, 3) := by decide +kernel
theorem d14_35 : decode jdk_52_method_16_code 35 = .ok (.sipush 255, 3) := by decide +kernel
theorem d14_38 : decode jdk_52_method_16_code 38 = .ok (.if_icmp .gt 16, 3) := by decide +kernel
theorem d14_54 : decode jdk_52_method_16_code 54 = .ok (.aload 5, 2) := by decide +kernel
theorem d14_56 : decode jdk_52_method_16_code 56 = .ok (.areturn, 1) := by decide +kernel
def Q14_1 (Z : State) (ac : Addr) (kc : ClassId) (q1 : Int32) (h0 : Heap) (n0 : Nat) (v : Option Value) (h : Heap) (L : List Loc) : Prop := ∃ (x : Addr) (kb : ClassId), v = some (.ref x) ∧ Fr n0 L ∧ Keep h0 h [] ∧ h0.size ≤ x ∧ n0 ≤ x ∧ (((¬ ((255 : Int32) < q1) ∧ True) ∧ Arv Z h x kb .byte (1 : Int32) [(.int (nar .byte (q1.toInt8.toInt32)))] (.int 0)) ∨ Arv Z h x kb .byte (2 : Int32) [(.int (nar .byte ((q1 >>> ((0 : Int32) &&& 31)).toInt8.toInt32))), (.int (nar .byte ((q1 >>> ((8 : Int32) &&& 31)).toInt8.toInt32)))] (.int 0))
set_option maxRecDepth 65536 in
set_option maxHeartbeats 40000000 in
theorem rm14_1 (l : Launch) (Z : State) (a0 : Array Value) (hw : ∀ d ∈ tables_1, d.before a0 Z = true) (ws : List Jvm.Cond) (ac : Addr) (kc : ClassId) (q1 : Int32) (h0 : Heap) (n0 : Nat) (O0 : Old Z n0 h0) (SA : Sta Z Z.heap "java/lang/StringUTF16" "$assertionsDisabled" "Z" (.int 1)) (SH : Sta Z Z.heap "java/lang/StringUTF16" "HI_BYTE_SHIFT" "I" (.int 0)) (SL : Sta Z Z.heap "java/lang/StringUTF16" "LO_BYTE_SHIFT" "I" (.int 8)) (Vc : Arv Z h0 ac kc .char (1 : Int32) [(.int q1)] (.int 0)) (R1 : own_R q1) :
    MetFree l (⟨"java/lang/StringUTF16", "compress", "([CII)[B"⟩ : MethodName) (head1 (Jvm.Cond.code (⟨"java/lang/StringUTF16", "compress", "([CII)[B"⟩ : MethodName) jdk_52_method_16_code 6 (some (.array .byte)) :: ws) ({ frames := 3, cells := 2, slots := 3, locals := 40 } : Room)) (fun a U => a = #[(.ref ac), (.int 0), (.int 1)] ∧ Z.Warmed39 U.vm ∧ U.heap = h0) (fun _ _ _ _ _ => True) (fun _ U o U' => ∃ v L, o = .returned v ∧ Q14_1 Z ac kc q1 h0 n0 v U'.heap L ∧ FrameEnd U o U' L ({ frames := 3, cells := 2, slots := 3, locals := 40 } : Room).cells ({ frames := 3, cells := 2, slots := 3, locals := 40 } : Room).slots) := by
  refine MetFree.of_bodySF (plainFor_of_name pn_3) hisR ?_
  intro p e s m args below meth c s₁ Bd hml0 hP hK
  obtain ⟨rfl, hZ, hh⟩ := hP
  have hx := Bd.exec
  have hby := Bd.bytes
  have hml : c.maxLocals = 6 := hml0
  have hown : s.vm.findClass "java/lang/StringUTF16" = some m.cls := findClass_of_methodNamed Bd.named
  have hnm := (name_of_methodNamed Bd.named Bd.method).1
  have X0 : Stand p l e ({ frames := 3, cells := 2, slots := 3, locals := 40 } : Room) s m #[(.ref ac), (.int 0), (.int 1)] below meth c s₁ [] 0 0 := Stand.of_body Bd
  have e0 : s₁.heap = h0 := by rw [← hh, Bd.state]; rfl
  have N0 := Fr.nil n0
  have Z0 : n0 ≤ h0.size := O0.1 ▸ O0.2.1
  have K0 : Keep h0 h0 [] := Keep.refl _ _
  have pre0 : ∀ t, At p e below s₁ m 0 #[vR ac, vI 0, vI 1, vU, vU, vU] [] t → Steps p.tables e below (s₁.setTop (entryFrame m #[(.ref ac), (.int 0), (.int 1)] 6)) t := fun t k => castTop (ef_14_1 m ac) k
  have pre1 := fun t (kt : At p e below s₁ m 1 #[vR ac, vI 0, vI 1, vU, vU, vU] [(.int 1)] t) => pre0 t (by
    show At p e below s₁ m 0 #[vR ac, vI 0, vI 1, vU, vU, vU] [] _
    refine XS.iloadN X0.here hx rfl (hb hby d14_0) rfl ?_
    exact kt)
  obtain ⟨T2, h2, k2, X2, e2, E2, A2, st2⟩ := newP X0 hx hZ (wd hw 17 rfl) e0 (g := (mkF m 1 #[vR ac, vI 0, vI 1, vU, vU, vU] [(.int 1)])) rfl (hb hby d14_1) rfl (by decide) (cap := 1) (by decide) (by decide) (by decide) (by decide)
  obtain ⟨b2, gq2⟩ : ∃ z, z = h0.size := ⟨_, rfl⟩
  rw [← gq2] at A2 st2
  have gg_b2 : n0 ≤ b2 := Nat.le_trans Z0 (Nat.le_of_eq gq2.symm)
  have sz_b2 : h0.size ≤ b2 := Nat.le_trans K0.1 (Nat.le_of_eq gq2.symm)
  have V2 : Arv Z h2 b2 k2 .byte (1 : Int32) [(.int 0)] (.int 0) := (Arv.new A2 (by decide)).pad (pad_rep [] (.int 0) 1)
  have pre3 := fun t (kt : At p e below T2 m 3 #[vR ac, vI 0, vI 1, vU, vU, vU] [(.ref b2)] t) => pre1 t (st2 _ kt)
  have z4 : n0 ≤ h2.size := (Nat.le_trans Z0 E2.1)
  have f5 := (Vc.ext E2)
  have pre6 := fun t (kt : At p e below T2 m 9 #[vR ac, vI 0, vI 1, vR b2, vU, vU] [(.int 1), (.int 0), (.ref b2), (.int 0), (.ref ac)] t) => pre3 t (by
    show At p e below T2 m 3 #[vR ac, vI 0, vI 1, vU, vU, vU] [(.ref b2)] _
    refine XS.astoreN X2.here hx rfl (hb hby d14_3) rfl rfl (l' := #[vR ac, vI 0, vI 1, vR b2, vU, vU]) rfl ?_
    show At p e below T2 m 4 #[vR ac, vI 0, vI 1, vR b2, vU, vU] [] _
    refine XS.aloadN X2.here hx rfl (hb hby d14_4) rfl rfl ?_
    show At p e below T2 m 5 #[vR ac, vI 0, vI 1, vR b2, vU, vU] [(.ref ac)] _
    refine XS.iloadN X2.here hx rfl (hb hby d14_5) rfl ?_
    show At p e below T2 m 6 #[vR ac, vI 0, vI 1, vR b2, vU, vU] [(.int 0), (.ref ac)] _
    refine XS.aloadN X2.here hx rfl (hb hby d14_6) rfl rfl ?_
    show At p e below T2 m 7 #[vR ac, vI 0, vI 1, vR b2, vU, vU] [(.ref b2), (.int 0), (.ref ac)] _
    refine XS.iconst X2.here hx rfl (hb hby d14_7) ?_
    show At p e below T2 m 8 #[vR ac, vI 0, vI 1, vR b2, vU, vU] [(.int 0), (.ref b2), (.int 0), (.ref ac)] _
    refine XS.iloadN X2.here hx rfl (hb hby d14_8) rfl ?_
    exact kt)
  obtain ⟨_, _, ⟨T7, L7, kc7, nc7⟩, -, X7, ⟨Lc7, hQ7, l7, y7, z7⟩, st7⟩ := Jvm.LawKit.callS X2 hx (y := (⟨"java/lang/StringUTF16", "compress", "([CI[BII)I"⟩ : MethodName)) hown (mvT hZ (wd hw 72 rfl)) (mvT hZ (wd hw 73 rfl)) (mvT hZ (wd hw 70 rfl)) (mvT hZ (wd hw 74 rfl)) (by decide) (backOf (W := 0) (rm15_1 l Z a0 hw [] ac kc b2 k2 q1 h2 n0 z4 f5 V2 (Nat.ne_of_lt (Nat.lt_of_lt_of_le Vc.lt (Nat.le_of_eq gq2.symm))) gg_b2) hZ (wd hw 74 rfl) (wd hw 70 rfl) (by decide) (by decide)) (g := (mkF m 9 #[vR ac, vI 0, vI 1, vR b2, vU, vU] [(.int 1), (.int 0), (.ref b2), (.int 0), (.ref ac)])) rfl (by rw [hml]; rfl) (argsL := [(.ref ac), (.int 0), (.ref b2), (.int 0), (.int 1)]) (rest := []) (lenOf pd_3 rfl) rfl (by show 2 * 0 + _ ≤ _; exact Nat.le_of_eq rfl) (hb hby d14_9) (fun _ _ => ⟨rfl, e2, (by decide : 1 + 0 ≤ _), (by decide : 1 + 0 ≤ _)⟩)
  dsimp only [Pt.U, Pt.locs, Pt.cells, Pt.slots] at X7 l7 y7 z7 st7 hQ7
  subst l7 y7 z7
  obtain ⟨r7, rfl, N7q, K7, hr7⟩ := hQ7
  have N7 := Fr.app N0 N7q
  have pre8 := fun t (kt : At p e below T7 m 12 #[vR ac, vI 0, vI 1, vR b2, vU, vU] [(.int r7)] t) => pre6 t (st7 _ kt)
  rcases hr7 with ⟨er, kall, Va7⟩ | hbad
  · have k9 : Keep h0 T7.heap [] := ((K0.ext E2).trans K7 (allS (Or.inr sz_b2) all0))
    have pre10 := fun t (kt : At p e below T7 m 58 #[vR ac, vI 0, vI 1, vR b2, vI 1, vU] [(.ref b2)] t) => pre8 t (by
      show At p e below T7 m 12 #[vR ac, vI 0, vI 1, vR b2, vU, vU] [(.int r7)] _
      rw [show r7 = (1 : Int32) from er]
      show At p e below T7 m 12 #[vR ac, vI 0, vI 1, vR b2, vU, vU] [(.int 1)] _
      refine XS.istore X7.here hx rfl (hb hby d14_12) rfl (l' := #[vR ac, vI 0, vI 1, vR b2, vI 1, vU]) rfl ?_
      show At p e below T7 m 14 #[vR ac, vI 0, vI 1, vR b2, vI 1, vU] [] _
      refine XS.iload X7.here hx rfl (hb hby d14_14) rfl ?_
      show At p e below T7 m 16 #[vR ac, vI 0, vI 1, vR b2, vI 1, vU] [(.int 1)] _
      refine XS.iloadN X7.here hx rfl (hb hby d14_16) rfl ?_
      show At p e below T7 m 17 #[vR ac, vI 0, vI 1, vR b2, vI 1, vU] [(.int 1), (.int 1)] _
      refine XS.icmpYes X7.here hx rfl (pc0 := 17) (pc' := 57) rfl (hb hby d14_17) rfl (teq (by decide : (1 : Int32) = (1 : Int32))).1 (by decide) (by decide) ?_
      show At p e below T7 m 57 #[vR ac, vI 0, vI 1, vR b2, vI 1, vU] [] _
      refine XS.aloadN X7.here hx rfl (hb hby d14_57) rfl rfl ?_
      exact kt)
    obtain ⟨fs, hr, hrun, hended, hW, hsame⟩ := X7.leave (v := (some (.ref b2))) (fun h => by rw [Bd.returns] at h; cases h)
    refine ⟨_, _, pre10 _ ?_, hrun, hended, _, _, rfl, ?_, ⟨_, rfl⟩, hW, hsame.mono (by decide) (by decide)⟩
    · show At p e below T7 m 58 #[vR ac, vI 0, vI 1, vR b2, vI 1, vU] [(.ref b2)] _
      exact retOut X7 hx (t := (.array .byte)) Bd.returns rfl (Or.inr (Or.inr (Or.inr (Or.inr ⟨rfl, rfl, rfl⟩)))) (hb hby d14_58) hr
    · show Q14_1 Z ac kc q1 h0 n0 _ T7.heap _
      exact ⟨_, _, rfl, N7, k9, sz_b2, gg_b2, Or.inl ⟨kall, Va7⟩⟩
  · obtain ⟨u1, u2, j1, j2, g1, g2, hgt, hne⟩ := own_bad1 R1 hbad
    have o11 : Old Z n0 T7.heap := ((O0.ext E2).keep K7 (allS gg_b2 all0))
    have f12 := (f5.keep K7 (ninS (Nat.ne_of_lt (Nat.lt_of_lt_of_le Vc.lt (Nat.le_of_eq gq2.symm))) nin0))
    have pre13 := fun t (kt : At p e below T7 m 23 #[vR ac, vI 0, vI 1, vR b2, vI r7, vU] [(.int 1), (.int 0), (.ref ac)] t) => pre8 t (by
      show At p e below T7 m 12 #[vR ac, vI 0, vI 1, vR b2, vU, vU] [(.int r7)] _
      refine XS.istore X7.here hx rfl (hb hby d14_12) rfl (l' := #[vR ac, vI 0, vI 1, vR b2, vI r7, vU]) rfl ?_
      show At p e below T7 m 14 #[vR ac, vI 0, vI 1, vR b2, vI r7, vU] [] _
      refine XS.iload X7.here hx rfl (hb hby d14_14) rfl ?_
      show At p e below T7 m 16 #[vR ac, vI 0, vI 1, vR b2, vI r7, vU] [(.int r7)] _
      refine XS.iloadN X7.here hx rfl (hb hby d14_16) rfl ?_
      show At p e below T7 m 17 #[vR ac, vI 0, vI 1, vR b2, vI r7, vU] [(.int 1), (.int r7)] _
      refine XS.icmpNo X7.here hx rfl (hb hby d14_17) rfl (feq (hne : ¬ (r7 = (1 : Int32)))).1 ?_
      show At p e below T7 m 20 #[vR ac, vI 0, vI 1, vR b2, vI r7, vU] [] _
      refine XS.aloadN X7.here hx rfl (hb hby d14_20) rfl rfl ?_
      show At p e below T7 m 21 #[vR ac, vI 0, vI 1, vR b2, vI r7, vU] [(.ref ac)] _
      refine XS.iloadN X7.here hx rfl (hb hby d14_21) rfl ?_
      show At p e below T7 m 22 #[vR ac, vI 0, vI 1, vR b2, vI r7, vU] [(.int 0), (.ref ac)] _
      refine XS.iloadN X7.here hx rfl (hb hby d14_22) rfl ?_
      exact kt)
    have z14 : n0 ≤ T7.heap.size := (Nat.le_trans z4 K7.1)
    obtain ⟨_, _, ⟨T15, L15, kc15, nc15⟩, -, X15, ⟨Lc15, hQ15, l15, y15, z15⟩, st15⟩ := Jvm.LawKit.callS X7 hx (y := (⟨"java/lang/StringUTF16", "toBytes", "([CII)[B"⟩ : MethodName)) hown (mvT hZ (wd hw 85 rfl)) (mvT hZ (wd hw 86 rfl)) (mvT hZ (wd hw 70 rfl)) (mvT hZ (wd hw 87 rfl)) (by decide) (backOf (W := 0) (rm19_1 l Z a0 hw [] ac kc q1 T7.heap n0 o11 SA SH SL f12) hZ (wd hw 87 rfl) (wd hw 70 rfl) (by decide) (by decide)) (g := (mkF m 23 #[vR ac, vI 0, vI 1, vR b2, vI r7, vU] [(.int 1), (.int 0), (.ref ac)])) rfl (by rw [hml]; rfl) (argsL := [(.ref ac), (.int 0), (.int 1)]) (rest := []) (lenOf pd_4 rfl) rfl (by show 2 * 0 + _ ≤ _; exact Nat.le_of_eq rfl) (hb hby d14_23) (fun _ _ => ⟨rfl, rfl, (by decide : 1 + 1 ≤ _), (by decide : 1 + 2 ≤ _)⟩)
    dsimp only [Pt.U, Pt.locs, Pt.cells, Pt.slots] at X15 l15 y15 z15 st15 hQ15
    subst l15 y15 z15
    obtain ⟨rfl, N15q, K15, kk15, Va15⟩ := hQ15
    have N15 := Fr.app N7 N15q
    obtain ⟨b15, gq15⟩ : ∃ z, z = T7.heap.size := ⟨_, rfl⟩
    rw [← gq15] at Va15 st15
    have gg_b15 : n0 ≤ b15 := Nat.le_trans z14 (Nat.le_of_eq gq15.symm)
    have k16 : Keep h0 T7.heap [] := ((K0.ext E2).trans K7 (allS (Or.inr sz_b2) all0))
    have sz_b15 : h0.size ≤ b15 := Nat.le_trans k16.1 (Nat.le_of_eq gq15.symm)
    have pre17 := fun t (kt : At p e below T15 m 26 #[vR ac, vI 0, vI 1, vR b2, vI r7, vU] [(.ref b15)] t) => pre13 t (st15 _ kt)
    have o18 : Old Z n0 T15.heap := (o11.keep K15 all0)
    have pre19 := fun t (kt : At p e below T15 m 32 #[vR ac, vI 0, vI 1, vR b2, vI r7, vR b15] [(.int r7), (.ref b15)] t) => pre17 t (by
      show At p e below T15 m 26 #[vR ac, vI 0, vI 1, vR b2, vI r7, vU] [(.ref b15)] _
      refine XS.astore X15.here hx rfl (hb hby d14_26) rfl rfl (l' := #[vR ac, vI 0, vI 1, vR b2, vI r7, vR b15]) rfl ?_
      show At p e below T15 m 28 #[vR ac, vI 0, vI 1, vR b2, vI r7, vR b15] [] _
      refine XS.aload X15.here hx rfl (hb hby d14_28) rfl rfl ?_
      show At p e below T15 m 30 #[vR ac, vI 0, vI 1, vR b2, vI r7, vR b15] [(.ref b15)] _
      refine XS.iload X15.here hx rfl (hb hby d14_30) rfl ?_
      exact kt)
    obtain ⟨_, _, ⟨T20, L20, kc20, nc20⟩, -, X20, ⟨Lc20, hQ20, l20, y20, z20⟩, st20⟩ := Jvm.LawKit.callS X15 hx (y := (⟨"java/lang/StringUTF16", "getChar", "([BI)C"⟩ : MethodName)) hown (mvT hZ (wd hw 101 rfl)) (mvT hZ (wd hw 102 rfl)) (mvT hZ (wd hw 70 rfl)) (mvT hZ (wd hw 103 rfl)) (by decide) (backOf (W := 0) (rm23 l Z a0 hw [] b15 kk15 (2 : Int32) _ r7 u1 u2 T15.heap n0 o18 SA SH SL Va15 j1 j2 g1 g2) hZ (wd hw 103 rfl) (wd hw 70 rfl) (by decide) (by decide)) (g := (mkF m 32 #[vR ac, vI 0, vI 1, vR b2, vI r7, vR b15] [(.int r7), (.ref b15)])) rfl (by rw [hml]; rfl) (argsL := [(.ref b15), (.int r7)]) (rest := []) (lenOf pd_5 rfl) rfl (by show 2 * 0 + _ ≤ _; exact Nat.le_of_eq rfl) (hb hby d14_32) (fun _ _ => ⟨rfl, rfl, (by decide : 2 + 0 ≤ _), (by decide : 3 + 0 ≤ _)⟩)
    dsimp only [Pt.U, Pt.locs, Pt.cells, Pt.slots] at X20 l20 y20 z20 st20 hQ20
    subst l20 y20 z20
    obtain ⟨rfl, N20q, he20⟩ := hQ20
    have N20 := Fr.app N15 N20q
    have pre21 := fun t (kt : At p e below T20 m 35 #[vR ac, vI 0, vI 1, vR b2, vI r7, vR b15] [(.int (own_gc u1 u2))] t) => pre19 t (st20 _ kt)
    have k22 : Keep h0 T15.heap [] := (k16.trans K15 all0)
    have pre23 := fun t (kt : At p e below T20 m 56 #[vR ac, vI 0, vI 1, vR b2, vI r7, vR b15] [(.ref b15)] t) => pre21 t (by
      show At p e below T20 m 35 #[vR ac, vI 0, vI 1, vR b2, vI r7, vR b15] [(.int (own_gc u1 u2))] _
      refine XS.sipush X20.here hx rfl (hb hby d14_35) ?_
      show At p e below T20 m 38 #[vR ac, vI 0, vI 1, vR b2, vI r7, vR b15] [(.int 255), (.int (own_gc u1 u2))] _
      refine XS.icmpYes X20.here hx rfl (pc0 := 38) (pc' := 54) rfl (hb hby d14_38) rfl (tlt (hgt : (255 : Int32) < (own_gc u1 u2))).2.2.1 (by decide) (by decide) ?_
      show At p e below T20 m 54 #[vR ac, vI 0, vI 1, vR b2, vI r7, vR b15] [] _
      refine XS.aload X20.here hx rfl (hb hby d14_54) rfl rfl ?_
      exact kt)
    obtain ⟨fs, hr, hrun, hended, hW, hsame⟩ := X20.leave (v := (some (.ref b15))) (fun h => by rw [Bd.returns] at h; cases h)
    refine ⟨_, _, pre23 _ ?_, hrun, hended, _, _, rfl, ?_, ⟨_, rfl⟩, hW, hsame.mono (by decide) (by decide)⟩
    · show At p e below T20 m 56 #[vR ac, vI 0, vI 1, vR b2, vI r7, vR b15] [(.ref b15)] _
      exact retOut X20 hx (t := (.array .byte)) Bd.returns rfl (Or.inr (Or.inr (Or.inr (Or.inr ⟨rfl, rfl, rfl⟩)))) (hb hby d14_56) hr
    · show Q14_1 Z ac kc q1 h0 n0 _ T20.heap _
      rw [he20]
      exact ⟨_, _, rfl, N20, k22, sz_b15, gg_b15, Or.inr Va15⟩
theorem ef_15_2 (m : MethodId) (ac : Addr) (ab : Addr) : entryFrame m #[(.ref ac), (.int 0), (.ref ab), (.int 0), (.int 2)] 7 = (mkF m 0 #[vR ac, vI 0, vR ab, vI 0, vI 2, vU, vU] []) := by first | (simp [entryFrame, mkF, argsToLocals, Value.category]; done) | rfl
def Q15_2 (Z : State) (ac : Addr) (kc : ClassId) (ab : Addr) (kb : ClassId) (q1 : Int32) (q2 : Int32) (h0 : Heap) (n0 : Nat) (v : Option Value) (h : Heap) (L : List Loc) : Prop := ∃ r : Int32, v = some (.int r) ∧ Fr n0 L ∧ Keep h0 h [ab] ∧ ((r = (2 : Int32) ∧ (¬ ((255 : Int32) < q1) ∧ ¬ ((255 : Int32) < q2) ∧ True) ∧ Arv Z h ab kb .byte (2 : Int32) [(.int (nar .byte (q1.toInt8.toInt32))), (.int (nar .byte (q2.toInt8.toInt32)))] (.int 0)) ∨ ((r = (0 : Int32) ∧ (255 : Int32) < q1) ∨ (r = (1 : Int32) ∧ (255 : Int32) < q2)))
set_option maxRecDepth 65536 in
set_option maxHeartbeats 40000000 in
theorem rm15_2 (l : Launch) (Z : State) (a0 : Array Value) (hw : ∀ d ∈ tables_1, d.before a0 Z = true) (ws : List Jvm.Cond) (ac : Addr) (kc : ClassId) (ab : Addr) (kb : ClassId) (q1 : Int32) (q2 : Int32) (h0 : Heap) (n0 : Nat) (Z0 : n0 ≤ h0.size) (Vc : Arv Z h0 ac kc .char (2 : Int32) [(.int q1), (.int q2)] (.int 0)) (Vb : Arv Z h0 ab kb .byte (2 : Int32) [(.int 0), (.int 0)] (.int 0)) (ncb : ac ≠ ab) (gb : n0 ≤ ab) :
    MetFree l (⟨"java/lang/StringUTF16", "compress", "([CI[BII)I"⟩ : MethodName) (head1 (Jvm.Cond.code (⟨"java/lang/StringUTF16", "compress", "([CI[BII)I"⟩ : MethodName) jdk_52_method_21_code 7 (some .int) :: ws) ({ frames := 0, cells := 0, slots := 0, locals := 0 } : Room)) (fun a U => a = #[(.ref ac), (.int 0), (.ref ab), (.int 0), (.int 2)] ∧ Z.Warmed39 U.vm ∧ U.heap = h0) (fun _ _ _ _ _ => True) (fun _ U o U' => ∃ v L, o = .returned v ∧ Q15_2 Z ac kc ab kb q1 q2 h0 n0 v U'.heap L ∧ FrameEnd U o U' L ({ frames := 0, cells := 0, slots := 0, locals := 0 } : Room).cells ({ frames := 0, cells := 0, slots := 0, locals := 0 } : Room).slots) := by
  refine MetFree.of_bodySF (plainFor_of_name pn_3) hisR ?_
  intro p e s m args below meth c s₁ Bd hml0 hP hK
  obtain ⟨rfl, hZ, hh⟩ := hP
  have hx := Bd.exec
  have hby := Bd.bytes
  have hml : c.maxLocals = 7 := hml0
  have hown : s.vm.findClass "java/lang/StringUTF16" = some m.cls := findClass_of_methodNamed Bd.named
  have hnm := (name_of_methodNamed Bd.named Bd.method).1
  have X0 : Stand p l e ({ frames := 0, cells := 0, slots := 0, locals := 0 } : Room) s m #[(.ref ac), (.int 0), (.ref ab), (.int 0), (.int 2)] below meth c s₁ [] 0 0 := Stand.of_body Bd
  have e0 : s₁.heap = h0 := by rw [← hh, Bd.state]; rfl
  have N0 := Fr.nil n0
  have K0 : Keep h0 h0 [ab] := Keep.refl _ _
  have pre0 : ∀ t, At p e below s₁ m 0 #[vR ac, vI 0, vR ab, vI 0, vI 2, vU, vU] [] t → Steps p.tables e below (s₁.setTop (entryFrame m #[(.ref ac), (.int 0), (.ref ab), (.int 0), (.int 2)] 7)) t := fun t k => castTop (ef_15_2 m ac ab) k
  have pre1 := fun t (kt : At p e below s₁ m 12 #[vR ac, vI 0, vR ab, vI 0, vI 2, vI 0, vU] [(.int 0), (.ref ac)] t) => pre0 t (by
    show At p e below s₁ m 0 #[vR ac, vI 0, vR ab, vI 0, vI 2, vU, vU] [] _
    refine XS.iconst X0.here hx rfl (hb hby d15_0) ?_
    show At p e below s₁ m 1 #[vR ac, vI 0, vR ab, vI 0, vI 2, vU, vU] [(.int 0)] _
    refine XS.istore X0.here hx rfl (hb hby d15_1) rfl (l' := #[vR ac, vI 0, vR ab, vI 0, vI 2, vI 0, vU]) rfl ?_
    show At p e below s₁ m 3 #[vR ac, vI 0, vR ab, vI 0, vI 2, vI 0, vU] [] _
    refine XS.iload X0.here hx rfl (hb hby d15_3) rfl ?_
    show At p e below s₁ m 5 #[vR ac, vI 0, vR ab, vI 0, vI 2, vI 0, vU] [(.int 0)] _
    refine XS.iload X0.here hx rfl (hb hby d15_5) rfl ?_
    show At p e below s₁ m 7 #[vR ac, vI 0, vR ab, vI 0, vI 2, vI 0, vU] [(.int 2), (.int 0)] _
    refine XS.icmpNo X0.here hx rfl (hb hby d15_7) rfl (tlt (by decide : (0 : Int32) < (2 : Int32))).2.1 ?_
    show At p e below s₁ m 10 #[vR ac, vI 0, vR ab, vI 0, vI 2, vI 0, vU] [] _
    refine XS.aloadN X0.here hx rfl (hb hby d15_10) rfl rfl ?_
    show At p e below s₁ m 11 #[vR ac, vI 0, vR ab, vI 0, vI 2, vI 0, vU] [(.ref ac)] _
    refine XS.iloadN X0.here hx rfl (hb hby d15_11) rfl ?_
    exact kt)
  obtain ⟨cl2, Ar2, qk2, Sz2, Nn2, Hh2, Gg2⟩ := id Vc
  have hin2 : ¬ ((0 : Int32) < 0 ∨ cl2.slots.size ≤ ((0 : Int32)).toNatClampNeg) := inb_of Sz2 ⟨by decide, by decide⟩
  have hat2 : cl2.slots[((0 : Int32)).toNatClampNeg]? = some (.int q1) := Hh2.at hin2 rfl
  have pre3 := fun t (kt : At p e below s₁ m 20 #[vR ac, vI 0, vR ab, vI 0, vI 2, vI 0, vI q1] [(.int 255), (.int q1)] t) => pre1 t (by
    show At p e below s₁ m 12 #[vR ac, vI 0, vR ab, vI 0, vI 2, vI 0, vU] [(.int 0), (.ref ac)] _
    refine X0.caload hx (j := (0 : Int32)) (v := (.int q1)) (by rw [e0]; exact Ar2.1) (State.isArrayOf_alike hZ.alike Ar2.2.1) Ar2.2.2 hin2 hat2 (g := (mkF m 12 #[vR ac, vI 0, vR ab, vI 0, vI 2, vI 0, vU] [(.int 0), (.ref ac)])) rfl rfl (hb hby d15_12) _ ?_
    show At p e below s₁ m 13 #[vR ac, vI 0, vR ab, vI 0, vI 2, vI 0, vU] [(.int q1)] _
    refine XS.istore X0.here hx rfl (hb hby d15_13) rfl (l' := #[vR ac, vI 0, vR ab, vI 0, vI 2, vI 0, vI q1]) rfl ?_
    show At p e below s₁ m 15 #[vR ac, vI 0, vR ab, vI 0, vI 2, vI 0, vI q1] [] _
    refine XS.iload X0.here hx rfl (hb hby d15_15) rfl ?_
    show At p e below s₁ m 17 #[vR ac, vI 0, vR ab, vI 0, vI 2, vI 0, vI q1] [(.int q1)] _
    refine XS.sipush X0.here hx rfl (hb hby d15_17) ?_
    exact kt)
  by_cases k1 : (255 : Int32) < q1
  · have pre4 := fun t (kt : At p e below s₁ m 25 #[vR ac, vI 0, vR ab, vI 0, vI 2, vI 0, vI q1] [(.int 0)] t) => pre3 t (by
      show At p e below s₁ m 20 #[vR ac, vI 0, vR ab, vI 0, vI 2, vI 0, vI q1] [(.int 255), (.int q1)] _
      refine XS.icmpNo X0.here hx rfl (hb hby d15_20) rfl (tlt (k1 : (255 : Int32) < q1)).2.2.2 ?_
      show At p e below s₁ m 23 #[vR ac, vI 0, vR ab, vI 0, vI 2, vI 0, vI q1] [] _
      refine XS.iload X0.here hx rfl (hb hby d15_23) rfl ?_
      exact kt)
    obtain ⟨fs, hr, hrun, hended, hW, hsame⟩ := X0.leave (v := (some (.int 0))) (fun h => by rw [Bd.returns] at h; cases h)
    refine ⟨_, _, pre4 _ ?_, hrun, hended, _, _, rfl, ?_, ⟨_, rfl⟩, hW, hsame.mono (by decide) (by decide)⟩
    · show At p e below s₁ m 25 #[vR ac, vI 0, vR ab, vI 0, vI 2, vI 0, vI q1] [(.int 0)] _
      exact retI X0 hx Bd.returns (hb hby d15_25) hr
    · show Q15_2 Z ac kc ab kb q1 q2 h0 n0 _ s₁.heap _
      rw [e0]
      exact ⟨_, rfl, N0, K0, Or.inr (Or.inl ⟨rfl, k1⟩)⟩
  · obtain ⟨cl5, Ar5, qk5, Sz5, Nn5, Hh5, Gg5⟩ := id Vb
    have hin5 : ¬ ((0 : Int32) < 0 ∨ cl5.slots.size ≤ ((0 : Int32)).toNatClampNeg) := inb_of Sz5 ⟨by decide, by decide⟩
    have pre6 := fun t (kt : At p e below s₁ m 31 #[vR ac, vI 0, vR ab, vI 0, vI 2, vI 0, vI q1] [(.int (q1.toInt8.toInt32)), (.int 0), (.ref ab)] t) => pre3 t (by
      show At p e below s₁ m 20 #[vR ac, vI 0, vR ab, vI 0, vI 2, vI 0, vI q1] [(.int 255), (.int q1)] _
      refine XS.icmpYes X0.here hx rfl (pc0 := 20) (pc' := 26) rfl (hb hby d15_20) rfl (flt (k1 : ¬ ((255 : Int32) < q1))).2.2.2 (by decide) (by decide) ?_
      show At p e below s₁ m 26 #[vR ac, vI 0, vR ab, vI 0, vI 2, vI 0, vI q1] [] _
      refine XS.aloadN X0.here hx rfl (hb hby d15_26) rfl rfl ?_
      show At p e below s₁ m 27 #[vR ac, vI 0, vR ab, vI 0, vI 2, vI 0, vI q1] [(.ref ab)] _
      refine XS.iloadN X0.here hx rfl (hb hby d15_27) rfl ?_
      show At p e below s₁ m 28 #[vR ac, vI 0, vR ab, vI 0, vI 2, vI 0, vI q1] [(.int 0), (.ref ab)] _
      refine XS.iload X0.here hx rfl (hb hby d15_28) rfl ?_
      show At p e below s₁ m 30 #[vR ac, vI 0, vR ab, vI 0, vI 2, vI 0, vI q1] [(.int q1), (.int 0), (.ref ab)] _
      refine XS.i2b X0.here hx rfl (hb hby d15_30) rfl ?_
      exact kt)
    obtain ⟨T7, h7, X7, e7, W7, st7⟩ := stB X0 hx hZ e0 Ar5 (j := (0 : Int32)) hin5 (g := (mkF m 31 #[vR ac, vI 0, vR ab, vI 0, vI 2, vI 0, vI q1] [(.int (q1.toInt8.toInt32)), (.int 0), (.ref ab)])) rfl rfl (hb hby d15_31)
    have V7 := Arv.set Ar5 qk5 Sz5 Nn5 Hh5 Gg5 (fits_nar_byte _) W7 0 rfl (Nat.le_of_ble_eq_true rfl)
    have V7' : Arv Z h7 ab kb .byte (2 : Int32) [(.int (nar .byte (q1.toInt8.toInt32))), (.int 0)] (.int 0) := V7
    have N7 := Fr.snoc X7 N0 gb
    have pre8 := fun t (kt : At p e below T7 m 32 #[vR ac, vI 0, vR ab, vI 0, vI 2, vI 0, vI q1] [] t) => pre6 t (st7 _ kt)
    have pre9 := fun t (kt : At p e below T7 m 12 #[vR ac, vI 1, vR ab, vI 1, vI 2, vI 1, vI q1] [(.int 1), (.ref ac)] t) => pre8 t (by
      show At p e below T7 m 32 #[vR ac, vI 0, vR ab, vI 0, vI 2, vI 0, vI q1] [] _
      refine XS.iinc X7.here hx rfl (hb hby d15_32) rfl (l' := #[vR ac, .val (.int ((0 : Int32) + (1 : Int32))), vR ab, vI 0, vI 2, vI 0, vI q1]) rfl ?_
      show At p e below T7 m 35 #[vR ac, .val (.int ((0 : Int32) + (1 : Int32))), vR ab, vI 0, vI 2, vI 0, vI q1] [] _
      show At p e below T7 m 35 #[vR ac, vI 1, vR ab, vI 0, vI 2, vI 0, vI q1] [] _
      refine XS.iinc X7.here hx rfl (hb hby d15_35) rfl (l' := #[vR ac, vI 1, vR ab, .val (.int ((0 : Int32) + (1 : Int32))), vI 2, vI 0, vI q1]) rfl ?_
      show At p e below T7 m 38 #[vR ac, vI 1, vR ab, .val (.int ((0 : Int32) + (1 : Int32))), vI 2, vI 0, vI q1] [] _
      show At p e below T7 m 38 #[vR ac, vI 1, vR ab, vI 1, vI 2, vI 0, vI q1] [] _
      refine XS.iinc X7.here hx rfl (hb hby d15_38) rfl (l' := #[vR ac, vI 1, vR ab, vI 1, vI 2, .val (.int ((0 : Int32) + (1 : Int32))), vI q1]) rfl ?_
      show At p e below T7 m 41 #[vR ac, vI 1, vR ab, vI 1, vI 2, .val (.int ((0 : Int32) + (1 : Int32))), vI q1] [] _
      show At p e below T7 m 41 #[vR ac, vI 1, vR ab, vI 1, vI 2, vI 1, vI q1] [] _
      refine XS.goto X7.here hx rfl (pc0 := 41) (pc' := 3) rfl (hb hby d15_41) (by decide) (by decide) ?_
      show At p e below T7 m 3 #[vR ac, vI 1, vR ab, vI 1, vI 2, vI 1, vI q1] [] _
      refine XS.iload X7.here hx rfl (hb hby d15_3) rfl ?_
      show At p e below T7 m 5 #[vR ac, vI 1, vR ab, vI 1, vI 2, vI 1, vI q1] [(.int 1)] _
      refine XS.iload X7.here hx rfl (hb hby d15_5) rfl ?_
      show At p e below T7 m 7 #[vR ac, vI 1, vR ab, vI 1, vI 2, vI 1, vI q1] [(.int 2), (.int 1)] _
      refine XS.icmpNo X7.here hx rfl (hb hby d15_7) rfl (tlt (by decide : (1 : Int32) < (2 : Int32))).2.1 ?_
      show At p e below T7 m 10 #[vR ac, vI 1, vR ab, vI 1, vI 2, vI 1, vI q1] [] _
      refine XS.aloadN X7.here hx rfl (hb hby d15_10) rfl rfl ?_
      show At p e below T7 m 11 #[vR ac, vI 1, vR ab, vI 1, vI 2, vI 1, vI q1] [(.ref ac)] _
      refine XS.iloadN X7.here hx rfl (hb hby d15_11) rfl ?_
      exact kt)
    have f10 := (Vc.other W7 ncb)
    obtain ⟨cl11, Ar11, qk11, Sz11, Nn11, Hh11, Gg11⟩ := id f10
    have hin11 : ¬ ((1 : Int32) < 0 ∨ cl11.slots.size ≤ ((1 : Int32)).toNatClampNeg) := inb_of Sz11 ⟨by decide, by decide⟩
    have hat11 : cl11.slots[((1 : Int32)).toNatClampNeg]? = some (.int q2) := Hh11.at hin11 rfl
    have pre12 := fun t (kt : At p e below T7 m 20 #[vR ac, vI 1, vR ab, vI 1, vI 2, vI 1, vI q2] [(.int 255), (.int q2)] t) => pre9 t (by
      show At p e below T7 m 12 #[vR ac, vI 1, vR ab, vI 1, vI 2, vI 1, vI q1] [(.int 1), (.ref ac)] _
      refine X7.caload hx (j := (1 : Int32)) (v := (.int q2)) (by rw [e7]; exact Ar11.1) (State.isArrayOf_alike hZ.alike Ar11.2.1) Ar11.2.2 hin11 hat11 (g := (mkF m 12 #[vR ac, vI 1, vR ab, vI 1, vI 2, vI 1, vI q1] [(.int 1), (.ref ac)])) rfl rfl (hb hby d15_12) _ ?_
      show At p e below T7 m 13 #[vR ac, vI 1, vR ab, vI 1, vI 2, vI 1, vI q1] [(.int q2)] _
      refine XS.istore X7.here hx rfl (hb hby d15_13) rfl (l' := #[vR ac, vI 1, vR ab, vI 1, vI 2, vI 1, vI q2]) rfl ?_
      show At p e below T7 m 15 #[vR ac, vI 1, vR ab, vI 1, vI 2, vI 1, vI q2] [] _
      refine XS.iload X7.here hx rfl (hb hby d15_15) rfl ?_
      show At p e below T7 m 17 #[vR ac, vI 1, vR ab, vI 1, vI 2, vI 1, vI q2] [(.int q2)] _
      refine XS.sipush X7.here hx rfl (hb hby d15_17) ?_
      exact kt)
    by_cases k2 : (255 : Int32) < q2
    · have k13 : Keep h0 h7 [ab] := (K0.wr W7 (Or.inl (List.mem_of_getElem? (i := 0) rfl)))
      have pre14 := fun t (kt : At p e below T7 m 25 #[vR ac, vI 1, vR ab, vI 1, vI 2, vI 1, vI q2] [(.int 1)] t) => pre12 t (by
        show At p e below T7 m 20 #[vR ac, vI 1, vR ab, vI 1, vI 2, vI 1, vI q2] [(.int 255), (.int q2)] _
        refine XS.icmpNo X7.here hx rfl (hb hby d15_20) rfl (tlt (k2 : (255 : Int32) < q2)).2.2.2 ?_
        show At p e below T7 m 23 #[vR ac, vI 1, vR ab, vI 1, vI 2, vI 1, vI q2] [] _
        refine XS.iload X7.here hx rfl (hb hby d15_23) rfl ?_
        exact kt)
      obtain ⟨fs, hr, hrun, hended, hW, hsame⟩ := X7.leave (v := (some (.int 1))) (fun h => by rw [Bd.returns] at h; cases h)
      refine ⟨_, _, pre14 _ ?_, hrun, hended, _, _, rfl, ?_, ⟨_, rfl⟩, hW, hsame.mono (by decide) (by decide)⟩
      · show At p e below T7 m 25 #[vR ac, vI 1, vR ab, vI 1, vI 2, vI 1, vI q2] [(.int 1)] _
        exact retI X7 hx Bd.returns (hb hby d15_25) hr
      · show Q15_2 Z ac kc ab kb q1 q2 h0 n0 _ T7.heap _
        rw [e7]
        exact ⟨_, rfl, N7, k13, Or.inr (Or.inr (⟨rfl, k2⟩))⟩
    · obtain ⟨cl15, Ar15, qk15, Sz15, Nn15, Hh15, Gg15⟩ := id V7'
      have hin15 : ¬ ((1 : Int32) < 0 ∨ cl15.slots.size ≤ ((1 : Int32)).toNatClampNeg) := inb_of Sz15 ⟨by decide, by decide⟩
      have pre16 := fun t (kt : At p e below T7 m 31 #[vR ac, vI 1, vR ab, vI 1, vI 2, vI 1, vI q2] [(.int (q2.toInt8.toInt32)), (.int 1), (.ref ab)] t) => pre12 t (by
        show At p e below T7 m 20 #[vR ac, vI 1, vR ab, vI 1, vI 2, vI 1, vI q2] [(.int 255), (.int q2)] _
        refine XS.icmpYes X7.here hx rfl (pc0 := 20) (pc' := 26) rfl (hb hby d15_20) rfl (flt (k2 : ¬ ((255 : Int32) < q2))).2.2.2 (by decide) (by decide) ?_
        show At p e below T7 m 26 #[vR ac, vI 1, vR ab, vI 1, vI 2, vI 1, vI q2] [] _
        refine XS.aloadN X7.here hx rfl (hb hby d15_26) rfl rfl ?_
        show At p e below T7 m 27 #[vR ac, vI 1, vR ab, vI 1, vI 2, vI 1, vI q2] [(.ref ab)] _
        refine XS.iloadN X7.here hx rfl (hb hby d15_27) rfl ?_
        show At p e below T7 m 28 #[vR ac, vI 1, vR ab, vI 1, vI 2, vI 1, vI q2] [(.int 1), (.ref ab)] _
        refine XS.iload X7.here hx rfl (hb hby d15_28) rfl ?_
        show At p e below T7 m 30 #[vR ac, vI 1, vR ab, vI 1, vI 2, vI 1, vI q2] [(.int q2), (.int 1), (.ref ab)] _
        refine XS.i2b X7.here hx rfl (hb hby d15_30) rfl ?_
        exact kt)
      obtain ⟨T17, h17, X17, e17, W17, st17⟩ := stB X7 hx hZ e7 Ar15 (j := (1 : Int32)) hin15 (g := (mkF m 31 #[vR ac, vI 1, vR ab, vI 1, vI 2, vI 1, vI q2] [(.int (q2.toInt8.toInt32)), (.int 1), (.ref ab)])) rfl rfl (hb hby d15_31)
      have V17 := Arv.set Ar15 qk15 Sz15 Nn15 Hh15 Gg15 (fits_nar_byte _) W17 1 rfl (Nat.le_of_ble_eq_true rfl)
      have V17' : Arv Z h17 ab kb .byte (2 : Int32) [(.int (nar .byte (q1.toInt8.toInt32))), (.int (nar .byte (q2.toInt8.toInt32)))] (.int 0) := V17
      have N17 := Fr.snoc X17 N7 gb
      have pre18 := fun t (kt : At p e below T17 m 32 #[vR ac, vI 1, vR ab, vI 1, vI 2, vI 1, vI q2] [] t) => pre16 t (st17 _ kt)
      have k19 : Keep h0 h17 [ab] := ((K0.wr W7 (Or.inl (List.mem_of_getElem? (i := 0) rfl))).wr W17 (Or.inl (List.mem_of_getElem? (i := 0) rfl)))
      have pre20 := fun t (kt : At p e below T17 m 46 #[vR ac, vI 2, vR ab, vI 2, vI 2, vI 2, vI q2] [(.int 2)] t) => pre18 t (by
        show At p e below T17 m 32 #[vR ac, vI 1, vR ab, vI 1, vI 2, vI 1, vI q2] [] _
        refine XS.iinc X17.here hx rfl (hb hby d15_32) rfl (l' := #[vR ac, .val (.int ((1 : Int32) + (1 : Int32))), vR ab, vI 1, vI 2, vI 1, vI q2]) rfl ?_
        show At p e below T17 m 35 #[vR ac, .val (.int ((1 : Int32) + (1 : Int32))), vR ab, vI 1, vI 2, vI 1, vI q2] [] _
        show At p e below T17 m 35 #[vR ac, vI 2, vR ab, vI 1, vI 2, vI 1, vI q2] [] _
        refine XS.iinc X17.here hx rfl (hb hby d15_35) rfl (l' := #[vR ac, vI 2, vR ab, .val (.int ((1 : Int32) + (1 : Int32))), vI 2, vI 1, vI q2]) rfl ?_
        show At p e below T17 m 38 #[vR ac, vI 2, vR ab, .val (.int ((1 : Int32) + (1 : Int32))), vI 2, vI 1, vI q2] [] _
        show At p e below T17 m 38 #[vR ac, vI 2, vR ab, vI 2, vI 2, vI 1, vI q2] [] _
        refine XS.iinc X17.here hx rfl (hb hby d15_38) rfl (l' := #[vR ac, vI 2, vR ab, vI 2, vI 2, .val (.int ((1 : Int32) + (1 : Int32))), vI q2]) rfl ?_
        show At p e below T17 m 41 #[vR ac, vI 2, vR ab, vI 2, vI 2, .val (.int ((1 : Int32) + (1 : Int32))), vI q2] [] _
        show At p e below T17 m 41 #[vR ac, vI 2, vR ab, vI 2, vI 2, vI 2, vI q2] [] _
        refine XS.goto X17.here hx rfl (pc0 := 41) (pc' := 3) rfl (hb hby d15_41) (by decide) (by decide) ?_
        show At p e below T17 m 3 #[vR ac, vI 2, vR ab, vI 2, vI 2, vI 2, vI q2] [] _
        refine XS.iload X17.here hx rfl (hb hby d15_3) rfl ?_
        show At p e below T17 m 5 #[vR ac, vI 2, vR ab, vI 2, vI 2, vI 2, vI q2] [(.int 2)] _
        refine XS.iload X17.here hx rfl (hb hby d15_5) rfl ?_
        show At p e below T17 m 7 #[vR ac, vI 2, vR ab, vI 2, vI 2, vI 2, vI q2] [(.int 2), (.int 2)] _
        refine XS.icmpYes X17.here hx rfl (pc0 := 7) (pc' := 44) rfl (hb hby d15_7) rfl (flt (by decide : ¬ ((2 : Int32) < (2 : Int32)))).2.1 (by decide) (by decide) ?_
        show At p e below T17 m 44 #[vR ac, vI 2, vR ab, vI 2, vI 2, vI 2, vI q2] [] _
        refine XS.iload X17.here hx rfl (hb hby d15_44) rfl ?_
        exact kt)
      obtain ⟨fs, hr, hrun, hended, hW, hsame⟩ := X17.leave (v := (some (.int 2))) (fun h => by rw [Bd.returns] at h; cases h)
      refine ⟨_, _, pre20 _ ?_, hrun, hended, _, _, rfl, ?_, ⟨_, rfl⟩, hW, hsame.mono (by decide) (by decide)⟩
      · show At p e below T17 m 46 #[vR ac, vI 2, vR ab, vI 2, vI 2, vI 2, vI q2] [(.int 2)] _
        exact retI X17 hx Bd.returns (hb hby d15_46) hr
      · show Q15_2 Z ac kc ab kb q1 q2 h0 n0 _ T17.heap _
        rw [e17]
        exact ⟨_, rfl, N17, k19, Or.inl ⟨rfl, ⟨k1, k2, trivial⟩, V17'⟩⟩
theorem own_bad2 {r : Int32} {q1 : Int32} {q2 : Int32} (R1 : own_R q1) (R2 : own_R q2) (h : ((r = (0 : Int32) ∧ (255 : Int32) < q1) ∨ (r = (1 : Int32) ∧ (255 : Int32) < q2))) : ∃ u1 u2 : Int32, (¬ ((r <<< ((1 : Int32) &&& 31)) < 0) ∧ (r <<< ((1 : Int32) &&& 31)) < (4 : Int32)) ∧ (¬ (((r <<< ((1 : Int32) &&& 31)) + (1 : Int32)) < 0) ∧ ((r <<< ((1 : Int32) &&& 31)) + (1 : Int32)) < (4 : Int32)) ∧ ([(.int (nar .byte ((q1 >>> ((0 : Int32) &&& 31)).toInt8.toInt32))), (.int (nar .byte ((q1 >>> ((8 : Int32) &&& 31)).toInt8.toInt32))), (.int (nar .byte ((q2 >>> ((0 : Int32) &&& 31)).toInt8.toInt32))), (.int (nar .byte ((q2 >>> ((8 : Int32) &&& 31)).toInt8.toInt32)))] : List Value).getD ((r <<< ((1 : Int32) &&& 31))).toNatClampNeg (.int 0) = (.int u1) ∧ ([(.int (nar .byte ((q1 >>> ((0 : Int32) &&& 31)).toInt8.toInt32))), (.int (nar .byte ((q1 >>> ((8 : Int32) &&& 31)).toInt8.toInt32))), (.int (nar .byte ((q2 >>> ((0 : Int32) &&& 31)).toInt8.toInt32))), (.int (nar .byte ((q2 >>> ((8 : Int32) &&& 31)).toInt8.toInt32)))] : List Value).getD (((r <<< ((1 : Int32) &&& 31)) + (1 : Int32))).toNatClampNeg (.int 0) = (.int u2) ∧ (255 : Int32) < own_gc u1 u2 ∧ ¬ (r = (2 : Int32)) := by
  rcases h with ⟨rfl, k⟩ | ⟨rfl, k⟩
  · exact ⟨(nar .byte ((q1 >>> ((0 : Int32) &&& 31)).toInt8.toInt32)), (nar .byte ((q1 >>> ((8 : Int32) &&& 31)).toInt8.toInt32)), ⟨by decide, by decide⟩, ⟨by decide, by decide⟩, by rw [show ((0 : Int32) <<< ((1 : Int32) &&& 31)) = (0 : Int32) from by decide]; rfl, by rw [show (((0 : Int32) <<< ((1 : Int32) &&& 31)) + (1 : Int32)) = (1 : Int32) from by decide]; rfl, by rw [own_gcq R1]; exact k, by decide⟩
  · exact ⟨(nar .byte ((q2 >>> ((0 : Int32) &&& 31)).toInt8.toInt32)), (nar .byte ((q2 >>> ((8 : Int32) &&& 31)).toInt8.toInt32)), ⟨by decide, by decide⟩, ⟨by decide, by decide⟩, by rw [show ((1 : Int32) <<< ((1 : Int32) &&& 31)) = (2 : Int32) from by decide]; rfl, by rw [show (((1 : Int32) <<< ((1 : Int32) &&& 31)) + (1 : Int32)) = (3 : Int32) from by decide]; rfl, by rw [own_gcq R2]; exact k, by decide⟩
theorem ef_14_2 (m : MethodId) (ac : Addr) : entryFrame m #[(.ref ac), (.int 0), (.int 2)] 6 = (mkF m 0 #[vR ac, vI 0, vI 2, vU, vU, vU] []) := by first | (simp [entryFrame, mkF, argsToLocals, Value.category]; done) | rfl
def Q14_2 (Z : State) (ac : Addr) (kc : ClassId) (q1 : Int32) (q2 : Int32) (h0 : Heap) (n0 : Nat) (v : Option Value) (h : Heap) (L : List Loc) : Prop := ∃ (x : Addr) (kb : ClassId), v = some (.ref x) ∧ Fr n0 L ∧ Keep h0 h [] ∧ h0.size ≤ x ∧ n0 ≤ x ∧ (((¬ ((255 : Int32) < q1) ∧ ¬ ((255 : Int32) < q2) ∧ True) ∧ Arv Z h x kb .byte (2 : Int32) [(.int (nar .byte (q1.toInt8.toInt32))), (.int (nar .byte (q2.toInt8.toInt32)))] (.int 0)) ∨ Arv Z h x kb .byte (4 : Int32) [(.int (nar .byte ((q1 >>> ((0 : Int32) &&& 31)).toInt8.toInt32))), (.int (nar .byte ((q1 >>> ((8 : Int32) &&& 31)).toInt8.toInt32))), (.int (nar .byte ((q2 >>> ((0 : Int32) &&& 31)).toInt8.toInt32))), (.int (nar .byte ((q2 >>> ((8 : Int32) &&& 31)).toInt8.toInt32)))] (.int 0))
set_option maxRecDepth 65536 in
set_option maxHeartbeats 40000000 in
theorem rm14_2 (l : Launch) (Z : State) (a0 : Array Value) (hw : ∀ d ∈ tables_1, d.before a0 Z = true) (ws : List Jvm.Cond) (ac : Addr) (kc : ClassId) (q1 : Int32) (q2 : Int32) (h0 : Heap) (n0 : Nat) (O0 : Old Z n0 h0) (SA : Sta Z Z.heap "java/lang/StringUTF16" "$assertionsDisabled" "Z" (.int 1)) (SH : Sta Z Z.heap "java/lang/StringUTF16" "HI_BYTE_SHIFT" "I" (.int 0)) (SL : Sta Z Z.heap "java/lang/StringUTF16" "LO_BYTE_SHIFT" "I" (.int 8)) (Vc : Arv Z h0 ac kc .char (2 : Int32) [(.int q1), (.int q2)] (.int 0)) (R1 : own_R q1) (R2 : own_R q2) :
    MetFree l (⟨"java/lang/StringUTF16", "compress", "([CII)[B"⟩ : MethodName) (head1 (Jvm.Cond.code (⟨"java/lang/StringUTF16", "compress", "([CII)[B"⟩ : MethodName) jdk_52_method_16_code 6 (some (.array .byte)) :: ws) ({ frames := 3, cells := 2, slots := 6, locals := 40 } : Room)) (fun a U => a = #[(.ref ac), (.int 0), (.int 2)] ∧ Z.Warmed39 U.vm ∧ U.heap = h0) (fun _ _ _ _ _ => True) (fun _ U o U' => ∃ v L, o = .returned v ∧ Q14_2 Z ac kc q1 q2 h0 n0 v U'.heap L ∧ FrameEnd U o U' L ({ frames := 3, cells := 2, slots := 6, locals := 40 } : Room).cells ({ frames := 3, cells := 2, slots := 6, locals := 40 } : Room).slots) := by
  refine MetFree.of_bodySF (plainFor_of_name pn_3) hisR ?_
  intro p e s m args below meth c s₁ Bd hml0 hP hK
  obtain ⟨rfl, hZ, hh⟩ := hP
  have hx := Bd.exec
  have hby := Bd.bytes
  have hml : c.maxLocals = 6 := hml0
  have hown : s.vm.findClass "java/lang/StringUTF16" = some m.cls := findClass_of_methodNamed Bd.named
  have hnm := (name_of_methodNamed Bd.named Bd.method).1
  have X0 : Stand p l e ({ frames := 3, cells := 2, slots := 6, locals := 40 } : Room) s m #[(.ref ac), (.int 0), (.int 2)] below meth c s₁ [] 0 0 := Stand.of_body Bd
  have e0 : s₁.heap = h0 := by rw [← hh, Bd.state]; rfl
  have N0 := Fr.nil n0
  have Z0 : n0 ≤ h0.size := O0.1 ▸ O0.2.1
  have K0 : Keep h0 h0 [] := Keep.refl _ _
  have pre0 : ∀ t, At p e below s₁ m 0 #[vR ac, vI 0, vI 2, vU, vU, vU] [] t → Steps p.tables e below (s₁.setTop (entryFrame m #[(.ref ac), (.int 0), (.int 2)] 6)) t := fun t k => castTop (ef_14_2 m ac) k
  have pre1 := fun t (kt : At p e below s₁ m 1 #[vR ac, vI 0, vI 2, vU, vU, vU] [(.int 2)] t) => pre0 t (by
    show At p e below s₁ m 0 #[vR ac, vI 0, vI 2, vU, vU, vU] [] _
    refine XS.iloadN X0.here hx rfl (hb hby d14_0) rfl ?_
    exact kt)
  obtain ⟨T2, h2, k2, X2, e2, E2, A2, st2⟩ := newP X0 hx hZ (wd hw 17 rfl) e0 (g := (mkF m 1 #[vR ac, vI 0, vI 2, vU, vU, vU] [(.int 2)])) rfl (hb hby d14_1) rfl (by decide) (cap := 2) (by decide) (by decide) (by decide) (by decide)
  obtain ⟨b2, gq2⟩ : ∃ z, z = h0.size := ⟨_, rfl⟩
  rw [← gq2] at A2 st2
  have gg_b2 : n0 ≤ b2 := Nat.le_trans Z0 (Nat.le_of_eq gq2.symm)
  have sz_b2 : h0.size ≤ b2 := Nat.le_trans K0.1 (Nat.le_of_eq gq2.symm)
  have V2 : Arv Z h2 b2 k2 .byte (2 : Int32) [(.int 0), (.int 0)] (.int 0) := (Arv.new A2 (by decide)).pad (pad_rep [] (.int 0) 2)
  have pre3 := fun t (kt : At p e below T2 m 3 #[vR ac, vI 0, vI 2, vU, vU, vU] [(.ref b2)] t) => pre1 t (st2 _ kt)
  have z4 : n0 ≤ h2.size := (Nat.le_trans Z0 E2.1)
  have f5 := (Vc.ext E2)
  have pre6 := fun t (kt : At p e below T2 m 9 #[vR ac, vI 0, vI 2, vR b2, vU, vU] [(.int 2), (.int 0), (.ref b2), (.int 0), (.ref ac)] t) => pre3 t (by
    show At p e below T2 m 3 #[vR ac, vI 0, vI 2, vU, vU, vU] [(.ref b2)] _
    refine XS.astoreN X2.here hx rfl (hb hby d14_3) rfl rfl (l' := #[vR ac, vI 0, vI 2, vR b2, vU, vU]) rfl ?_
    show At p e below T2 m 4 #[vR ac, vI 0, vI 2, vR b2, vU, vU] [] _
    refine XS.aloadN X2.here hx rfl (hb hby d14_4) rfl rfl ?_
    show At p e below T2 m 5 #[vR ac, vI 0, vI 2, vR b2, vU, vU] [(.ref ac)] _
    refine XS.iloadN X2.here hx rfl (hb hby d14_5) rfl ?_
    show At p e below T2 m 6 #[vR ac, vI 0, vI 2, vR b2, vU, vU] [(.int 0), (.ref ac)] _
    refine XS.aloadN X2.here hx rfl (hb hby d14_6) rfl rfl ?_
    show At p e below T2 m 7 #[vR ac, vI 0, vI 2, vR b2, vU, vU] [(.ref b2), (.int 0), (.ref ac)] _
    refine XS.iconst X2.here hx rfl (hb hby d14_7) ?_
    show At p e below T2 m 8 #[vR ac, vI 0, vI 2, vR b2, vU, vU] [(.int 0), (.ref b2), (.int 0), (.ref ac)] _
    refine XS.iloadN X2.here hx rfl (hb hby d14_8) rfl ?_
    exact kt)
  obtain ⟨_, _, ⟨T7, L7, kc7, nc7⟩, -, X7, ⟨Lc7, hQ7, l7, y7, z7⟩, st7⟩ := Jvm.LawKit.callS X2 hx (y := (⟨"java/lang/StringUTF16", "compress", "([CI[BII)I"⟩ : MethodName)) hown (mvT hZ (wd hw 72 rfl)) (mvT hZ (wd hw 73 rfl)) (mvT hZ (wd hw 70 rfl)) (mvT hZ (wd hw 74 rfl)) (by decide) (backOf (W := 0) (rm15_2 l Z a0 hw [] ac kc b2 k2 q1 q2 h2 n0 z4 f5 V2 (Nat.ne_of_lt (Nat.lt_of_lt_of_le Vc.lt (Nat.le_of_eq gq2.symm))) gg_b2) hZ (wd hw 74 rfl) (wd hw 70 rfl) (by decide) (by decide)) (g := (mkF m 9 #[vR ac, vI 0, vI 2, vR b2, vU, vU] [(.int 2), (.int 0), (.ref b2), (.int 0), (.ref ac)])) rfl (by rw [hml]; rfl) (argsL := [(.ref ac), (.int 0), (.ref b2), (.int 0), (.int 2)]) (rest := []) (lenOf pd_3 rfl) rfl (by show 2 * 0 + _ ≤ _; exact Nat.le_of_eq rfl) (hb hby d14_9) (fun _ _ => ⟨rfl, e2, (by decide : 1 + 0 ≤ _), (by decide : 2 + 0 ≤ _)⟩)
  dsimp only [Pt.U, Pt.locs, Pt.cells, Pt.slots] at X7 l7 y7 z7 st7 hQ7
  subst l7 y7 z7
  obtain ⟨r7, rfl, N7q, K7, hr7⟩ := hQ7
  have N7 := Fr.app N0 N7q
  have pre8 := fun t (kt : At p e below T7 m 12 #[vR ac, vI 0, vI 2, vR b2, vU, vU] [(.int r7)] t) => pre6 t (st7 _ kt)
  rcases hr7 with ⟨er, kall, Va7⟩ | hbad
  · have k9 : Keep h0 T7.heap [] := ((K0.ext E2).trans K7 (allS (Or.inr sz_b2) all0))
    have pre10 := fun t (kt : At p e below T7 m 58 #[vR ac, vI 0, vI 2, vR b2, vI 2, vU] [(.ref b2)] t) => pre8 t (by
      show At p e below T7 m 12 #[vR ac, vI 0, vI 2, vR b2, vU, vU] [(.int r7)] _
      rw [show r7 = (2 : Int32) from er]
      show At p e below T7 m 12 #[vR ac, vI 0, vI 2, vR b2, vU, vU] [(.int 2)] _
      refine XS.istore X7.here hx rfl (hb hby d14_12) rfl (l' := #[vR ac, vI 0, vI 2, vR b2, vI 2, vU]) rfl ?_
      show At p e below T7 m 14 #[vR ac, vI 0, vI 2, vR b2, vI 2, vU] [] _
      refine XS.iload X7.here hx rfl (hb hby d14_14) rfl ?_
      show At p e below T7 m 16 #[vR ac, vI 0, vI 2, vR b2, vI 2, vU] [(.int 2)] _
      refine XS.iloadN X7.here hx rfl (hb hby d14_16) rfl ?_
      show At p e below T7 m 17 #[vR ac, vI 0, vI 2, vR b2, vI 2, vU] [(.int 2), (.int 2)] _
      refine XS.icmpYes X7.here hx rfl (pc0 := 17) (pc' := 57) rfl (hb hby d14_17) rfl (teq (by decide : (2 : Int32) = (2 : Int32))).1 (by decide) (by decide) ?_
      show At p e below T7 m 57 #[vR ac, vI 0, vI 2, vR b2, vI 2, vU] [] _
      refine XS.aloadN X7.here hx rfl (hb hby d14_57) rfl rfl ?_
      exact kt)
    obtain ⟨fs, hr, hrun, hended, hW, hsame⟩ := X7.leave (v := (some (.ref b2))) (fun h => by rw [Bd.returns] at h; cases h)
    refine ⟨_, _, pre10 _ ?_, hrun, hended, _, _, rfl, ?_, ⟨_, rfl⟩, hW, hsame.mono (by decide) (by decide)⟩
    · show At p e below T7 m 58 #[vR ac, vI 0, vI 2, vR b2, vI 2, vU] [(.ref b2)] _
      exact retOut X7 hx (t := (.array .byte)) Bd.returns rfl (Or.inr (Or.inr (Or.inr (Or.inr ⟨rfl, rfl, rfl⟩)))) (hb hby d14_58) hr
    · show Q14_2 Z ac kc q1 q2 h0 n0 _ T7.heap _
      exact ⟨_, _, rfl, N7, k9, sz_b2, gg_b2, Or.inl ⟨kall, Va7⟩⟩
  · obtain ⟨u1, u2, j1, j2, g1, g2, hgt, hne⟩ := own_bad2 R1 R2 hbad
    have o11 : Old Z n0 T7.heap := ((O0.ext E2).keep K7 (allS gg_b2 all0))
    have f12 := (f5.keep K7 (ninS (Nat.ne_of_lt (Nat.lt_of_lt_of_le Vc.lt (Nat.le_of_eq gq2.symm))) nin0))
    have pre13 := fun t (kt : At p e below T7 m 23 #[vR ac, vI 0, vI 2, vR b2, vI r7, vU] [(.int 2), (.int 0), (.ref ac)] t) => pre8 t (by
      show At p e below T7 m 12 #[vR ac, vI 0, vI 2, vR b2, vU, vU] [(.int r7)] _
      refine XS.istore X7.here hx rfl (hb hby d14_12) rfl (l' := #[vR ac, vI 0, vI 2, vR b2, vI r7, vU]) rfl ?_
      show At p e below T7 m 14 #[vR ac, vI 0, vI 2, vR b2, vI r7, vU] [] _
      refine XS.iload X7.here hx rfl (hb hby d14_14) rfl ?_
      show At p e below T7 m 16 #[vR ac, vI 0, vI 2, vR b2, vI r7, vU] [(.int r7)] _
      refine XS.iloadN X7.here hx rfl (hb hby d14_16) rfl ?_
      show At p e below T7 m 17 #[vR ac, vI 0, vI 2, vR b2, vI r7, vU] [(.int 2), (.int r7)] _
      refine XS.icmpNo X7.here hx rfl (hb hby d14_17) rfl (feq (hne : ¬ (r7 = (2 : Int32)))).1 ?_
      show At p e below T7 m 20 #[vR ac, vI 0, vI 2, vR b2, vI r7, vU] [] _
      refine XS.aloadN X7.here hx rfl (hb hby d14_20) rfl rfl ?_
      show At p e below T7 m 21 #[vR ac, vI 0, vI 2, vR b2, vI r7, vU] [(.ref ac)] _
      refine XS.iloadN X7.here hx rfl (hb hby d14_21) rfl ?_
      show At p e below T7 m 22 #[vR ac, vI 0, vI 2, vR b2, vI r7, vU] [(.int 0), (.ref ac)] _
      refine XS.iloadN X7.here hx rfl (hb hby d14_22) rfl ?_
      exact kt)
    have z14 : n0 ≤ T7.heap.size := (Nat.le_trans z4 K7.1)
    obtain ⟨_, _, ⟨T15, L15, kc15, nc15⟩, -, X15, ⟨Lc15, hQ15, l15, y15, z15⟩, st15⟩ := Jvm.LawKit.callS X7 hx (y := (⟨"java/lang/StringUTF16", "toBytes", "([CII)[B"⟩ : MethodName)) hown (mvT hZ (wd hw 85 rfl)) (mvT hZ (wd hw 86 rfl)) (mvT hZ (wd hw 70 rfl)) (mvT hZ (wd hw 87 rfl)) (by decide) (backOf (W := 0) (rm19_2 l Z a0 hw [] ac kc q1 q2 T7.heap n0 o11 SA SH SL f12) hZ (wd hw 87 rfl) (wd hw 70 rfl) (by decide) (by decide)) (g := (mkF m 23 #[vR ac, vI 0, vI 2, vR b2, vI r7, vU] [(.int 2), (.int 0), (.ref ac)])) rfl (by rw [hml]; rfl) (argsL := [(.ref ac), (.int 0), (.int 2)]) (rest := []) (lenOf pd_4 rfl) rfl (by show 2 * 0 + _ ≤ _; exact Nat.le_of_eq rfl) (hb hby d14_23) (fun _ _ => ⟨rfl, rfl, (by decide : 1 + 1 ≤ _), (by decide : 2 + 4 ≤ _)⟩)
    dsimp only [Pt.U, Pt.locs, Pt.cells, Pt.slots] at X15 l15 y15 z15 st15 hQ15
    subst l15 y15 z15
    obtain ⟨rfl, N15q, K15, kk15, Va15⟩ := hQ15
    have N15 := Fr.app N7 N15q
    obtain ⟨b15, gq15⟩ : ∃ z, z = T7.heap.size := ⟨_, rfl⟩
    rw [← gq15] at Va15 st15
    have gg_b15 : n0 ≤ b15 := Nat.le_trans z14 (Nat.le_of_eq gq15.symm)
    have k16 : Keep h0 T7.heap [] := ((K0.ext E2).trans K7 (allS (Or.inr sz_b2) all0))
    have sz_b15 : h0.size ≤ b15 := Nat.le_trans k16.1 (Nat.le_of_eq gq15.symm)
    have pre17 := fun t (kt : At p e below T15 m 26 #[vR ac, vI 0, vI 2, vR b2, vI r7, vU] [(.ref b15)] t) => pre13 t (st15 _ kt)
    have o18 : Old Z n0 T15.heap := (o11.keep K15 all0)
    have pre19 := fun t (kt : At p e below T15 m 32 #[vR ac, vI 0, vI 2, vR b2, vI r7, vR b15] [(.int r7), (.ref b15)] t) => pre17 t (by
      show At p e below T15 m 26 #[vR ac, vI 0, vI 2, vR b2, vI r7, vU] [(.ref b15)] _
      refine XS.astore X15.here hx rfl (hb hby d14_26) rfl rfl (l' := #[vR ac, vI 0, vI 2, vR b2, vI r7, vR b15]) rfl ?_
      show At p e below T15 m 28 #[vR ac, vI 0, vI 2, vR b2, vI r7, vR b15] [] _
      refine XS.aload X15.here hx rfl (hb hby d14_28) rfl rfl ?_
      show At p e below T15 m 30 #[vR ac, vI 0, vI 2, vR b2, vI r7, vR b15] [(.ref b15)] _
      refine XS.iload X15.here hx rfl (hb hby d14_30) rfl ?_
      exact kt)
    obtain ⟨_, _, ⟨T20, L20, kc20, nc20⟩, -, X20, ⟨Lc20, hQ20, l20, y20, z20⟩, st20⟩ := Jvm.LawKit.callS X15 hx (y := (⟨"java/lang/StringUTF16", "getChar", "([BI)C"⟩ : MethodName)) hown (mvT hZ (wd hw 101 rfl)) (mvT hZ (wd hw 102 rfl)) (mvT hZ (wd hw 70 rfl)) (mvT hZ (wd hw 103 rfl)) (by decide) (backOf (W := 0) (rm23 l Z a0 hw [] b15 kk15 (4 : Int32) _ r7 u1 u2 T15.heap n0 o18 SA SH SL Va15 j1 j2 g1 g2) hZ (wd hw 103 rfl) (wd hw 70 rfl) (by decide) (by decide)) (g := (mkF m 32 #[vR ac, vI 0, vI 2, vR b2, vI r7, vR b15] [(.int r7), (.ref b15)])) rfl (by rw [hml]; rfl) (argsL := [(.ref b15), (.int r7)]) (rest := []) (lenOf pd_5 rfl) rfl (by show 2 * 0 + _ ≤ _; exact Nat.le_of_eq rfl) (hb hby d14_32) (fun _ _ => ⟨rfl, rfl, (by decide : 2 + 0 ≤ _), (by decide : 6 + 0 ≤ _)⟩)
    dsimp only [Pt.U, Pt.locs, Pt.cells, Pt.slots] at X20 l20 y20 z20 st20 hQ20
    subst l20 y20 z20
    obtain ⟨rfl, N20q, he20⟩ := hQ20
    have N20 := Fr.app N15 N20q
    have pre21 := fun t (kt : At p e below T20 m 35 #[vR ac, vI 0, vI 2, vR b2, vI r7, vR b15] [(.int (own_gc u1 u2))] t) => pre19 t (st20 _ kt)
    have k22 : Keep h0 T15.heap [] := (k16.trans K15 all0)
    have pre23 := fun t (kt : At p e below T20 m 56 #[vR ac, vI 0, vI 2, vR b2, vI r7, vR b15] [(.ref b15)] t) => pre21 t (by
      show At p e below T20 m 35 #[vR ac, vI 0, vI 2, vR b2, vI r7, vR b15] [(.int (own_gc u1 u2))] _
      refine XS.sipush X20.here hx rfl (hb hby d14_35) ?_
      show At p e below T20 m 38 #[vR ac, vI 0, vI 2, vR b2, vI r7, vR b15] [(.int 255), (.int (own_gc u1 u2))] _
      refine XS.icmpYes X20.here hx rfl (pc0 := 38) (pc' := 54) rfl (hb hby d14_38) rfl (tlt (hgt : (255 : Int32) < (own_gc u1 u2))).2.2.1 (by decide) (by decide) ?_
      show At p e below T20 m 54 #[vR ac, vI 0, vI 2, vR b2, vI r7, vR b15] [] _
      refine XS.aload X20.here hx rfl (hb hby d14_54) rfl rfl ?_
      exact kt)
    obtain ⟨fs, hr, hrun, hended, hW, hsame⟩ := X20.leave (v := (some (.ref b15))) (fun h => by rw [Bd.returns] at h; cases h)
    refine ⟨_, _, pre23 _ ?_, hrun, hended, _, _, rfl, ?_, ⟨_, rfl⟩, hW, hsame.mono (by decide) (by decide)⟩
    · show At p e below T20 m 56 #[vR ac, vI 0, vI 2, vR b2, vI r7, vR b15] [(.ref b15)] _
      exact retOut X20 hx (t := (.array .byte)) Bd.returns rfl (Or.inr (Or.inr (Or.inr (Or.inr ⟨rfl, rfl, rfl⟩)))) (hb hby d14_56) hr
    · show Q14_2 Z ac kc q1 q2 h0 n0 _ T20.heap _
      rw [he20]
      exact ⟨_, _, rfl, N20, k22, sz_b15, gg_b15, Or.inr Va15⟩
theorem ef_15_3 (m : MethodId) (ac : Addr) (ab : Addr) : entryFrame m #[(.ref ac), (.int 0), (.ref ab), (.int 0), (.int 3)] 7 = (mkF m 0 #[vR ac, vI 0, vR ab, vI 0, vI 3, vU, vU] []) := by first | (simp [entryFrame, mkF, argsToLocals, Value.category]; done) | rfl
def Q15_3 (Z : State) (ac : Addr) (kc : ClassId) (ab : Addr) (kb : ClassId) (q1 : Int32) (q2 : Int32) (q3 : Int32) (h0 : Heap) (n0 : Nat) (v : Option Value) (h : Heap) (L : List Loc) : Prop := ∃ r : Int32, v = some (.int r) ∧ Fr n0 L ∧ Keep h0 h [ab] ∧ ((r = (3 : Int32) ∧ (¬ ((255 : Int32) < q1) ∧ ¬ ((255 : Int32) < q2) ∧ ¬ ((255 : Int32) < q3) ∧ True) ∧ Arv Z h ab kb .byte (3 : Int32) [(.int (nar .byte (q1.toInt8.toInt32))), (.int (nar .byte (q2.toInt8.toInt32))), (.int (nar .byte (q3.toInt8.toInt32)))] (.int 0)) ∨ ((r = (0 : Int32) ∧ (255 : Int32) < q1) ∨ (r = (1 : Int32) ∧ (255 : Int32) < q2) ∨ (r = (2 : Int32) ∧ (255 : Int32) < q3)))
set_option maxRecDepth 65536 in
set_option maxHeartbeats 40000000 in
theorem rm15_3 (l : Launch) (Z : State) (a0 : Array Value) (hw : ∀ d ∈ tables_1, d.before a0 Z = true) (ws : List Jvm.Cond) (ac : Addr) (kc : ClassId) (ab : Addr) (kb : ClassId) (q1 : Int32) (q2 : Int32) (q3 : Int32) (h0 : Heap) (n0 : Nat) (Z0 : n0 ≤ h0.size) (Vc : Arv Z h0 ac kc .char (3 : Int32) [(.int q1), (.int q2), (.int q3)] (.int 0)) (Vb : Arv Z h0 ab kb .byte (3 : Int32) [(.int 0), (.int 0), (.int 0)] (.int 0)) (ncb : ac ≠ ab) (gb : n0 ≤ ab) :
    MetFree l (⟨"java/lang/StringUTF16", "compress", "([CI[BII)I"⟩ : MethodName) (head1 (Jvm.Cond.code (⟨"java/lang/StringUTF16", "compress", "([CI[BII)I"⟩ : MethodName) jdk_52_method_21_code 7 (some .int) :: ws) ({ frames := 0, cells := 0, slots := 0, locals := 0 } : Room)) (fun a U => a = #[(.ref ac), (.int 0), (.ref ab), (.int 0), (.int 3)] ∧ Z.Warmed39 U.vm ∧ U.heap = h0) (fun _ _ _ _ _ => True) (fun _ U o U' => ∃ v L, o = .returned v ∧ Q15_3 Z ac kc ab kb q1 q2 q3 h0 n0 v U'.heap L ∧ FrameEnd U o U' L ({ frames := 0, cells := 0, slots := 0, locals := 0 } : Room).cells ({ frames := 0, cells := 0, slots := 0, locals := 0 } : Room).slots) := by
  refine MetFree.of_bodySF (plainFor_of_name pn_3) hisR ?_
  intro p e s m args below meth c s₁ Bd hml0 hP hK
  obtain ⟨rfl, hZ, hh⟩ := hP
  have hx := Bd.exec
  have hby := Bd.bytes
  have hml : c.maxLocals = 7 := hml0
  have hown : s.vm.findClass "java/lang/StringUTF16" = some m.cls := findClass_of_methodNamed Bd.named
  have hnm := (name_of_methodNamed Bd.named Bd.method).1
  have X0 : Stand p l e ({ frames := 0, cells := 0, slots := 0, locals := 0 } : Room) s m #[(.ref ac), (.int 0), (.ref ab), (.int 0), (.int 3)] below meth c s₁ [] 0 0 := Stand.of_body Bd
  have e0 : s₁.heap = h0 := by rw [← hh, Bd.state]; rfl
  have N0 := Fr.nil n0
  have K0 : Keep h0 h0 [ab] := Keep.refl _ _
  have pre0 : ∀ t, At p e below s₁ m 0 #[vR ac, vI 0, vR ab, vI 0, vI 3, vU, vU] [] t → Steps p.tables e below (s₁.setTop (entryFrame m #[(.ref ac), (.int 0), (.ref ab), (.int 0), (.int 3)] 7)) t := fun t k => castTop (ef_15_3 m ac ab) k
  have pre1 := fun t (kt : At p e below s₁ m 12 #[vR ac, vI 0, vR ab, vI 0, vI 3, vI 0, vU] [(.int 0), (.ref ac)] t) => pre0 t (by
    show At p e below s₁ m 0 #[vR ac, vI 0, vR ab, vI 0, vI 3, vU, vU] [] _
    refine XS.iconst X0.here hx rfl (hb hby d15_0) ?_
    show At p e below s₁ m 1 #[vR ac, vI 0, vR ab, vI 0, vI 3, vU, vU] [(.int 0)] _
    refine XS.istore X0.here hx rfl (hb hby d15_1) rfl (l' := #[vR ac, vI 0, vR ab, vI 0, vI 3, vI 0, vU]) rfl ?_
    show At p e below s₁ m 3 #[vR ac, vI 0, vR ab, vI 0, vI 3, vI 0, vU] [] _
    refine XS.iload X0.here hx rfl (hb hby d15_3) rfl ?_
    show At p e below s₁ m 5 #[vR ac, vI 0, vR ab, vI 0, vI 3, vI 0, vU] [(.int 0)] _
    refine XS.iload X0.here hx rfl (hb hby d15_5) rfl ?_
    show At p e below s₁ m 7 #[vR ac, vI 0, vR ab, vI 0, vI 3, vI 0, vU] [(.int 3), (.int 0)] _
    refine XS.icmpNo X0.here hx rfl (hb hby d15_7) rfl (tlt (by decide : (0 : Int32) < (3 : Int32))).2.1 ?_
    show At p e below s₁ m 10 #[vR ac, vI 0, vR ab, vI 0, vI 3, vI 0, vU] [] _
    refine XS.aloadN X0.here hx rfl (hb hby d15_10) rfl rfl ?_
    show At p e below s₁ m 11 #[vR ac, vI 0, vR ab, vI 0, vI 3, vI 0, vU] [(.ref ac)] _
    refine XS.iloadN X0.here hx rfl (hb hby d15_11) rfl ?_
    exact kt)
  obtain ⟨cl2, Ar2, qk2, Sz2, Nn2, Hh2, Gg2⟩ := id Vc
  have hin2 : ¬ ((0 : Int32) < 0 ∨ cl2.slots.size ≤ ((0 : Int32)).toNatClampNeg) := inb_of Sz2 ⟨by decide, by decide⟩
  have hat2 : cl2.slots[((0 : Int32)).toNatClampNeg]? = some (.int q1) := Hh2.at hin2 rfl
  have pre3 := fun t (kt : At p e below s₁ m 20 #[vR ac, vI 0, vR ab, vI 0, vI 3, vI 0, vI q1] [(.int 255), (.int q1)] t) => pre1 t (by
    show At p e below s₁ m 12 #[vR ac, vI 0, vR ab, vI 0, vI 3, vI 0, vU] [(.int 0), (.ref ac)] _
    refine X0.caload hx (j := (0 : Int32)) (v := (.int q1)) (by rw [e0]; exact Ar2.1) (State.isArrayOf_alike hZ.alike Ar2.2.1) Ar2.2.2 hin2 hat2 (g := (mkF m 12 #[vR ac, vI 0, vR ab, vI 0, vI 3, vI 0, vU] [(.int 0), (.ref ac)])) rfl rfl (hb hby d15_12) _ ?_
    show At p e below s₁ m 13 #[vR ac, vI 0, vR ab, vI 0, vI 3, vI 0, vU] [(.int q1)] _
    refine XS.istore X0.here hx rfl (hb hby d15_13) rfl (l' := #[vR ac, vI 0, vR ab, vI 0, vI 3, vI 0, vI q1]) rfl ?_
    show At p e below s₁ m 15 #[vR ac, vI 0, vR ab, vI 0, vI 3, vI 0, vI q1] [] _
    refine XS.iload X0.here hx rfl (hb hby d15_15) rfl ?_
    show At p e below s₁ m 17 #[vR ac, vI 0, vR ab, vI 0, vI 3, vI 0, vI q1] [(.int q1)] _
    refine XS.sipush X0.here hx rfl (hb hby d15_17) ?_
    exact kt)
  by_cases k1 : (255 : Int32) < q1
  · have pre4 := fun t (kt : At p e below s₁ m 25 #[vR ac, vI 0, vR ab, vI 0, vI 3, vI 0, vI q1] [(.int 0)] t) => pre3 t (by
      show At p e below s₁ m 20 #[vR ac, vI 0, vR ab, vI 0, vI 3, vI 0, vI q1] [(.int 255), (.int q1)] _
      refine XS.icmpNo X0.here hx rfl (hb hby d15_20) rfl (tlt (k1 : (255 : Int32) < q1)).2.2.2 ?_
      show At p e below s₁ m 23 #[vR ac, vI 0, vR ab, vI 0, vI 3, vI 0, vI q1] [] _
      refine XS.iload X0.here hx rfl (hb hby d15_23) rfl ?_
      exact kt)
    obtain ⟨fs, hr, hrun, hended, hW, hsame⟩ := X0.leave (v := (some (.int 0))) (fun h => by rw [Bd.returns] at h; cases h)
    refine ⟨_, _, pre4 _ ?_, hrun, hended, _, _, rfl, ?_, ⟨_, rfl⟩, hW, hsame.mono (by decide) (by decide)⟩
    · show At p e below s₁ m 25 #[vR ac, vI 0, vR ab, vI 0, vI 3, vI 0, vI q1] [(.int 0)] _
      exact retI X0 hx Bd.returns (hb hby d15_25) hr
    · show Q15_3 Z ac kc ab kb q1 q2 q3 h0 n0 _ s₁.heap _
      rw [e0]
      exact ⟨_, rfl, N0, K0, Or.inr (Or.inl ⟨rfl, k1⟩)⟩
  · obtain ⟨cl5, Ar5, qk5, Sz5, Nn5, Hh5, Gg5⟩ := id Vb
    have hin5 : ¬ ((0 : Int32) < 0 ∨ cl5.slots.size ≤ ((0 : Int32)).toNatClampNeg) := inb_of Sz5 ⟨by decide, by decide⟩
    have pre6 := fun t (kt : At p e below s₁ m 31 #[vR ac, vI 0, vR ab, vI 0, vI 3, vI 0, vI q1] [(.int (q1.toInt8.toInt32)), (.int 0), (.ref ab)] t) => pre3 t (by
      show At p e below s₁ m 20 #[vR ac, vI 0, vR ab, vI 0, vI 3, vI 0, vI q1] [(.int 255), (.int q1)] _
      refine XS.icmpYes X0.here hx rfl (pc0 := 20) (pc' := 26) rfl (hb hby d15_20) rfl (flt (k1 : ¬ ((255 : Int32) < q1))).2.2.2 (by decide) (by decide) ?_
      show At p e below s₁ m 26 #[vR ac, vI 0, vR ab, vI 0, vI 3, vI 0, vI q1] [] _
      refine XS.aloadN X0.here hx rfl (hb hby d15_26) rfl rfl ?_
      show At p e below s₁ m 27 #[vR ac, vI 0, vR ab, vI 0, vI 3, vI 0, vI q1] [(.ref ab)] _
      refine XS.iloadN X0.here hx rfl (hb hby d15_27) rfl ?_
      show At p e below s₁ m 28 #[vR ac, vI 0, vR ab, vI 0, vI 3, vI 0, vI q1] [(.int 0), (.ref ab)] _
      refine XS.iload X0.here hx rfl (hb hby d15_28) rfl ?_
      show At p e below s₁ m 30 #[vR ac, vI 0, vR ab, vI 0, vI 3, vI 0, vI q1] [(.int q1), (.int 0), (.ref ab)] _
      refine XS.i2b X0.here hx rfl (hb hby d15_30) rfl ?_
      exact kt)
    obtain ⟨T7, h7, X7, e7, W7, st7⟩ := stB X0 hx hZ e0 Ar5 (j := (0 : Int32)) hin5 (g := (mkF m 31 #[vR ac, vI 0, vR ab, vI 0, vI 3, vI 0, vI q1] [(.int (q1.toInt8.toInt32)), (.int 0), (.ref ab)])) rfl rfl (hb hby d15_31)
    have V7 := Arv.set Ar5 qk5 Sz5 Nn5 Hh5 Gg5 (fits_nar_byte _) W7 0 rfl (Nat.le_of_ble_eq_true rfl)
    have V7' : Arv Z h7 ab kb .byte (3 : Int32) [(.int (nar .byte (q1.toInt8.toInt32))), (.int 0), (.int 0)] (.int 0) := V7
    have N7 := Fr.snoc X7 N0 gb
    have pre8 := fun t (kt : At p e below T7 m 32 #[vR ac, vI 0, vR ab, vI 0, vI 3, vI 0, vI q1] [] t) => pre6 t (st7 _ kt)
    have pre9 := fun t (kt : At p e below T7 m 12 #[vR ac, vI 1, vR ab, vI 1, vI 3, vI 1, vI q1] [(.int 1), (.ref ac)] t) => pre8 t (by
      show At p e below T7 m 32 #[vR ac, vI 0, vR ab, vI 0, vI 3, vI 0, vI q1] [] _
      refine XS.iinc X7.here hx rfl (hb hby d15_32) rfl (l' := #[vR ac, .val (.int ((0 : Int32) + (1 : Int32))), vR ab, vI 0, vI 3, vI 0, vI q1]) rfl ?_
      show At p e below T7 m 35 #[vR ac, .val (.int ((0 : Int32) + (1 : Int32))), vR ab, vI 0, vI 3, vI 0, vI q1] [] _
      show At p e below T7 m 35 #[vR ac, vI 1, vR ab, vI 0, vI 3, vI 0, vI q1] [] _
      refine XS.iinc X7.here hx rfl (hb hby d15_35) rfl (l' := #[vR ac, vI 1, vR ab, .val (.int ((0 : Int32) + (1 : Int32))), vI 3, vI 0, vI q1]) rfl ?_
      show At p e below T7 m 38 #[vR ac, vI 1, vR ab, .val (.int ((0 : Int32) + (1 : Int32))), vI 3, vI 0, vI q1] [] _
      show At p e below T7 m 38 #[vR ac, vI 1, vR ab, vI 1, vI 3, vI 0, vI q1] [] _
      refine XS.iinc X7.here hx rfl (hb hby d15_38) rfl (l' := #[vR ac, vI 1, vR ab, vI 1, vI 3, .val (.int ((0 : Int32) + (1 : Int32))), vI q1]) rfl ?_
      show At p e below T7 m 41 #[vR ac, vI 1, vR ab, vI 1, vI 3, .val (.int ((0 : Int32) + (1 : Int32))), vI q1] [] _
      show At p e below T7 m 41 #[vR ac, vI 1, vR ab, vI 1, vI 3, vI 1, vI q1] [] _
      refine XS.goto X7.here hx rfl (pc0 := 41) (pc' := 3) rfl (hb hby d15_41) (by decide) (by decide) ?_
      show At p e below T7 m 3 #[vR ac, vI 1, vR ab, vI 1, vI 3, vI 1, vI q1] [] _
      refine XS.iload X7.here hx rfl (hb hby d15_3) rfl ?_
      show At p e below T7 m 5 #[vR ac, vI 1, vR ab, vI 1, vI 3, vI 1, vI q1] [(.int 1)] _
      refine XS.iload X7.here hx rfl (hb hby d15_5) rfl ?_
      show At p e below T7 m 7 #[vR ac, vI 1, vR ab, vI 1, vI 3, vI 1, vI q1] [(.int 3), (.int 1)] _
      refine XS.icmpNo X7.here hx rfl (hb hby d15_7) rfl (tlt (by decide : (1 : Int32) < (3 : Int32))).2.1 ?_
      show At p e below T7 m 10 #[vR ac, vI 1, vR ab, vI 1, vI 3, vI 1, vI q1] [] _
      refine XS.aloadN X7.here hx rfl (hb hby d15_10) rfl rfl ?_
      show At p e below T7 m 11 #[vR ac, vI 1, vR ab, vI 1, vI 3, vI 1, vI q1] [(.ref ac)] _
      refine XS.iloadN X7.here hx rfl (hb hby d15_11) rfl ?_
      exact kt)
    have f10 := (Vc.other W7 ncb)
    obtain ⟨cl11, Ar11, qk11, Sz11, Nn11, Hh11, Gg11⟩ := id f10
    have hin11 : ¬ ((1 : Int32) < 0 ∨ cl11.slots.size ≤ ((1 : Int32)).toNatClampNeg) := inb_of Sz11 ⟨by decide, by decide⟩
    have hat11 : cl11.slots[((1 : Int32)).toNatClampNeg]? = some (.int q2) := Hh11.at hin11 rfl
    have pre12 := fun t (kt : At p e below T7 m 20 #[vR ac, vI 1, vR ab, vI 1, vI 3, vI 1, vI q2] [(.int 255), (.int q2)] t) => pre9 t (by
      show At p e below T7 m 12 #[vR ac, vI 1, vR ab, vI 1, vI 3, vI 1, vI q1] [(.int 1), (.ref ac)] _
      refine X7.caload hx (j := (1 : Int32)) (v := (.int q2)) (by rw [e7]; exact Ar11.1) (State.isArrayOf_alike hZ.alike Ar11.2.1) Ar11.2.2 hin11 hat11 (g := (mkF m 12 #[vR ac, vI 1, vR ab, vI 1, vI 3, vI 1, vI q1] [(.int 1), (.ref ac)])) rfl rfl (hb hby d15_12) _ ?_
      show At p e below T7 m 13 #[vR ac, vI 1, vR ab, vI 1, vI 3, vI 1, vI q1] [(.int q2)] _
      refine XS.istore X7.here hx rfl (hb hby d15_13) rfl (l' := #[vR ac, vI 1, vR ab, vI 1, vI 3, vI 1, vI q2]) rfl ?_
      show At p e below T7 m 15 #[vR ac, vI 1, vR ab, vI 1, vI 3, vI 1, vI q2] [] _
      refine XS.iload X7.here hx rfl (hb hby d15_15) rfl ?_
      show At p e below T7 m 17 #[vR ac, vI 1, vR ab, vI 1, vI 3, vI 1, vI q2] [(.int q2)] _
      refine XS.sipush X7.here hx rfl (hb hby d15_17) ?_
      exact kt)
    by_cases k2 : (255 : Int32) < q2
    · have k13 : Keep h0 h7 [ab] := (K0.wr W7 (Or.inl (List.mem_of_getElem? (i := 0) rfl)))
      have pre14 := fun t (kt : At p e below T7 m 25 #[vR ac, vI 1, vR ab, vI 1, vI 3, vI 1, vI q2] [(.int 1)] t) => pre12 t (by
        show At p e below T7 m 20 #[vR ac, vI 1, vR ab, vI 1, vI 3, vI 1, vI q2] [(.int 255), (.int q2)] _
        refine XS.icmpNo X7.here hx rfl (hb hby d15_20) rfl (tlt (k2 : (255 : Int32) < q2)).2.2.2 ?_
        show At p e below T7 m 23 #[vR ac, vI 1, vR ab, vI 1, vI 3, vI 1, vI q2] [] _
        refine XS.iload X7.here hx rfl (hb hby d15_23) rfl ?_
        exact kt)
      obtain ⟨fs, hr, hrun, hended, hW, hsame⟩ := X7.leave (v := (some (.int 1))) (fun h => by rw [Bd.returns] at h; cases h)
      refine ⟨_, _, pre14 _ ?_, hrun, hended, _, _, rfl, ?_, ⟨_, rfl⟩, hW, hsame.mono (by decide) (by decide)⟩
      · show At p e below T7 m 25 #[vR ac, vI 1, vR ab, vI 1, vI 3, vI 1, vI q2] [(.int 1)] _
        exact retI X7 hx Bd.returns (hb hby d15_25) hr
      · show Q15_3 Z ac kc ab kb q1 q2 q3 h0 n0 _ T7.heap _
        rw [e7]
        exact ⟨_, rfl, N7, k13, Or.inr (Or.inr (Or.inl ⟨rfl, k2⟩))⟩
    · obtain ⟨cl15, Ar15, qk15, Sz15, Nn15, Hh15, Gg15⟩ := id V7'
      have hin15 : ¬ ((1 : Int32) < 0 ∨ cl15.slots.size ≤ ((1 : Int32)).toNatClampNeg) := inb_of Sz15 ⟨by decide, by decide⟩
      have pre16 := fun t (kt : At p e below T7 m 31 #[vR ac, vI 1, vR ab, vI 1, vI 3, vI 1, vI q2] [(.int (q2.toInt8.toInt32)), (.int 1), (.ref ab)] t) => pre12 t (by
        show At p e below T7 m 20 #[vR ac, vI 1, vR ab, vI 1, vI 3, vI 1, vI q2] [(.int 255), (.int q2)] _
        refine XS.icmpYes X7.here hx rfl (pc0 := 20) (pc' := 26) rfl (hb hby d15_20) rfl (flt (k2 : ¬ ((255 : Int32) < q2))).2.2.2 (by decide) (by decide) ?_
        show At p e below T7 m 26 #[vR ac, vI 1, vR ab, vI 1, vI 3, vI 1, vI q2] [] _
        refine XS.aloadN X7.here hx rfl (hb hby d15_26) rfl rfl ?_
        show At p e below T7 m 27 #[vR ac, vI 1, vR ab, vI 1, vI 3, vI 1, vI q2] [(.ref ab)] _
        refine XS.iloadN X7.here hx rfl (hb hby d15_27) rfl ?_
        show At p e below T7 m 28 #[vR ac, vI 1, vR ab, vI 1, vI 3, vI 1, vI q2] [(.int 1), (.ref ab)] _
        refine XS.iload X7.here hx rfl (hb hby d15_28) rfl ?_
        show At p e below T7 m 30 #[vR ac, vI 1, vR ab, vI 1, vI 3, vI 1, vI q2] [(.int q2), (.int 1), (.ref ab)] _
        refine XS.i2b X7.here hx rfl (hb hby d15_30) rfl ?_
        exact kt)
      obtain ⟨T17, h17, X17, e17, W17, st17⟩ := stB X7 hx hZ e7 Ar15 (j := (1 : Int32)) hin15 (g := (mkF m 31 #[vR ac, vI 1, vR ab, vI 1, vI 3, vI 1, vI q2] [(.int (q2.toInt8.toInt32)), (.int 1), (.ref ab)])) rfl rfl (hb hby d15_31)
      have V17 := Arv.set Ar15 qk15 Sz15 Nn15 Hh15 Gg15 (fits_nar_byte _) W17 1 rfl (Nat.le_of_ble_eq_true rfl)
      have V17' : Arv Z h17 ab kb .byte (3 : Int32) [(.int (nar .byte (q1.toInt8.toInt32))), (.int (nar .byte (q2.toInt8.toInt32))), (.int 0)] (.int 0) := V17
      have N17 := Fr.snoc X17 N7 gb
      have pre18 := fun t (kt : At p e below T17 m 32 #[vR ac, vI 1, vR ab, vI 1, vI 3, vI 1, vI q2] [] t) => pre16 t (st17 _ kt)
      have pre19 := fun t (kt : At p e below T17 m 12 #[vR ac, vI 2, vR ab, vI 2, vI 3, vI 2, vI q2] [(.int 2), (.ref ac)] t) => pre18 t (by
        show At p e below T17 m 32 #[vR ac, vI 1, vR ab, vI 1, vI 3, vI 1, vI q2] [] _
        refine XS.iinc X17.here hx rfl (hb hby d15_32) rfl (l' := #[vR ac, .val (.int ((1 : Int32) + (1 : Int32))), vR ab, vI 1, vI 3, vI 1, vI q2]) rfl ?_
        show At p e below T17 m 35 #[vR ac, .val (.int ((1 : Int32) + (1 : Int32))), vR ab, vI 1, vI 3, vI 1, vI q2] [] _
        show At p e below T17 m 35 #[vR ac, vI 2, vR ab, vI 1, vI 3, vI 1, vI q2] [] _
        refine XS.iinc X17.here hx rfl (hb hby d15_35) rfl (l' := #[vR ac, vI 2, vR ab, .val (.int ((1 : Int32) + (1 : Int32))), vI 3, vI 1, vI q2]) rfl ?_
        show At p e below T17 m 38 #[vR ac, vI 2, vR ab, .val (.int ((1 : Int32) + (1 : Int32))), vI 3, vI 1, vI q2] [] _
        show At p e below T17 m 38 #[vR ac, vI 2, vR ab, vI 2, vI 3, vI 1, vI q2] [] _
        refine XS.iinc X17.here hx rfl (hb hby d15_38) rfl (l' := #[vR ac, vI 2, vR ab, vI 2, vI 3, .val (.int ((1 : Int32) + (1 : Int32))), vI q2]) rfl ?_
        show At p e below T17 m 41 #[vR ac, vI 2, vR ab, vI 2, vI 3, .val (.int ((1 : Int32) + (1 : Int32))), vI q2] [] _
        show At p e below T17 m 41 #[vR ac, vI 2, vR ab, vI 2, vI 3, vI 2, vI q2] [] _
        refine XS.goto X17.here hx rfl (pc0 := 41) (pc' := 3) rfl (hb hby d15_41) (by decide) (by decide) ?_
        show At p e below T17 m 3 #[vR ac, vI 2, vR ab, vI 2, vI 3, vI 2, vI q2] [] _
        refine XS.iload X17.here hx rfl (hb hby d15_3) rfl ?_
        show At p e below T17 m 5 #[vR ac, vI 2, vR ab, vI 2, vI 3, vI 2, vI q2] [(.int 2)] _
        refine XS.iload X17.here hx rfl (hb hby d15_5) rfl ?_
        show At p e below T17 m 7 #[vR ac, vI 2, vR ab, vI 2, vI 3, vI 2, vI q2] [(.int 3), (.int 2)] _
        refine XS.icmpNo X17.here hx rfl (hb hby d15_7) rfl (tlt (by decide : (2 : Int32) < (3 : Int32))).2.1 ?_
        show At p e below T17 m 10 #[vR ac, vI 2, vR ab, vI 2, vI 3, vI 2, vI q2] [] _
        refine XS.aloadN X17.here hx rfl (hb hby d15_10) rfl rfl ?_
        show At p e below T17 m 11 #[vR ac, vI 2, vR ab, vI 2, vI 3, vI 2, vI q2] [(.ref ac)] _
        refine XS.iloadN X17.here hx rfl (hb hby d15_11) rfl ?_
        exact kt)
      have f20 := (f10.other W17 ncb)
      obtain ⟨cl21, Ar21, qk21, Sz21, Nn21, Hh21, Gg21⟩ := id f20
      have hin21 : ¬ ((2 : Int32) < 0 ∨ cl21.slots.size ≤ ((2 : Int32)).toNatClampNeg) := inb_of Sz21 ⟨by decide, by decide⟩
      have hat21 : cl21.slots[((2 : Int32)).toNatClampNeg]? = some (.int q3) := Hh21.at hin21 rfl
      have pre22 := fun t (kt : At p e below T17 m 20 #[vR ac, vI 2, vR ab, vI 2, vI 3, vI 2, vI q3] [(.int 255), (.int q3)] t) => pre19 t (by
        show At p e below T17 m 12 #[vR ac, vI 2, vR ab, vI 2, vI 3, vI 2, vI q2] [(.int 2), (.ref ac)] _
        refine X17.caload hx (j := (2 : Int32)) (v := (.int q3)) (by rw [e17]; exact Ar21.1) (State.isArrayOf_alike hZ.alike Ar21.2.1) Ar21.2.2 hin21 hat21 (g := (mkF m 12 #[vR ac, vI 2, vR ab, vI 2, vI 3, vI 2, vI q2] [(.int 2), (.ref ac)])) rfl rfl (hb hby d15_12) _ ?_
        show At p e below T17 m 13 #[vR ac, vI 2, vR ab, vI 2, vI 3, vI 2, vI q2] [(.int q3)] _
        refine XS.istore X17.here hx rfl (hb hby d15_13) rfl (l' := #[vR ac, vI 2, vR ab, vI 2, vI 3, vI 2, vI q3]) rfl ?_
        show At p e below T17 m 15 #[vR ac, vI 2, vR ab, vI 2, vI 3, vI 2, vI q3] [] _
        refine XS.iload X17.here hx rfl (hb hby d15_15) rfl ?_
        show At p e below T17 m 17 #[vR ac, vI 2, vR ab, vI 2, vI 3, vI 2, vI q3] [(.int q3)] _
        refine XS.sipush X17.here hx rfl (hb hby d15_17) ?_
        exact kt)
      by_cases k3 : (255 : Int32) < q3
      · have k23 : Keep h0 h17 [ab] := ((K0.wr W7 (Or.inl (List.mem_of_getElem? (i := 0) rfl))).wr W17 (Or.inl (List.mem_of_getElem? (i := 0) rfl)))
        have pre24 := fun t (kt : At p e below T17 m 25 #[vR ac, vI 2, vR ab, vI 2, vI 3, vI 2, vI q3] [(.int 2)] t) => pre22 t (by
          show At p e below T17 m 20 #[vR ac, vI 2, vR ab, vI 2, vI 3, vI 2, vI q3] [(.int 255), (.int q3)] _
          refine XS.icmpNo X17.here hx rfl (hb hby d15_20) rfl (tlt (k3 : (255 : Int32) < q3)).2.2.2 ?_
          show At p e below T17 m 23 #[vR ac, vI 2, vR ab, vI 2, vI 3, vI 2, vI q3] [] _
          refine XS.iload X17.here hx rfl (hb hby d15_23) rfl ?_
          exact kt)
        obtain ⟨fs, hr, hrun, hended, hW, hsame⟩ := X17.leave (v := (some (.int 2))) (fun h => by rw [Bd.returns] at h; cases h)
        refine ⟨_, _, pre24 _ ?_, hrun, hended, _, _, rfl, ?_, ⟨_, rfl⟩, hW, hsame.mono (by decide) (by decide)⟩
        · show At p e below T17 m 25 #[vR ac, vI 2, vR ab, vI 2, vI 3, vI 2, vI q3] [(.int 2)] _
          exact retI X17 hx Bd.returns (hb hby d15_25) hr
        · show Q15_3 Z ac kc ab kb q1 q2 q3 h0 n0 _ T17.heap _
          rw [e17]
          exact ⟨_, rfl, N17, k23, Or.inr (Or.inr (Or.inr (⟨rfl, k3⟩)))⟩
      · obtain ⟨cl25, Ar25, qk25, Sz25, Nn25, Hh25, Gg25⟩ := id V17'
        have hin25 : ¬ ((2 : Int32) < 0 ∨ cl25.slots.size ≤ ((2 : Int32)).toNatClampNeg) := inb_of Sz25 ⟨by decide, by decide⟩
        have pre26 := fun t (kt : At p e below T17 m 31 #[vR ac, vI 2, vR ab, vI 2, vI 3, vI 2, vI q3] [(.int (q3.toInt8.toInt32)), (.int 2), (.ref ab)] t) => pre22 t (by
          show At p e below T17 m 20 #[vR ac, vI 2, vR ab, vI 2, vI 3, vI 2, vI q3] [(.int 255), (.int q3)] _
          refine XS.icmpYes X17.here hx rfl (pc0 := 20) (pc' := 26) rfl (hb hby d15_20) rfl (flt (k3 : ¬ ((255 : Int32) < q3))).2.2.2 (by decide) (by decide) ?_
          show At p e below T17 m 26 #[vR ac, vI 2, vR ab, vI 2, vI 3, vI 2, vI q3] [] _
          refine XS.aloadN X17.here hx rfl (hb hby d15_26) rfl rfl ?_
          show At p e below T17 m 27 #[vR ac, vI 2, vR ab, vI 2, vI 3, vI 2, vI q3] [(.ref ab)] _
          refine XS.iloadN X17.here hx rfl (hb hby d15_27) rfl ?_
          show At p e below T17 m 28 #[vR ac, vI 2, vR ab, vI 2, vI 3, vI 2, vI q3] [(.int 2), (.ref ab)] _
          refine XS.iload X17.here hx rfl (hb hby d15_28) rfl ?_
          show At p e below T17 m 30 #[vR ac, vI 2, vR ab, vI 2, vI 3, vI 2, vI q3] [(.int q3), (.int 2), (.ref ab)] _
          refine XS.i2b X17.here hx rfl (hb hby d15_30) rfl ?_
          exact kt)
        obtain ⟨T27, h27, X27, e27, W27, st27⟩ := stB X17 hx hZ e17 Ar25 (j := (2 : Int32)) hin25 (g := (mkF m 31 #[vR ac, vI 2, vR ab, vI 2, vI 3, vI 2, vI q3] [(.int (q3.toInt8.toInt32)), (.int 2), (.ref ab)])) rfl rfl (hb hby d15_31)
        have V27 := Arv.set Ar25 qk25 Sz25 Nn25 Hh25 Gg25 (fits_nar_byte _) W27 2 rfl (Nat.le_of_ble_eq_true rfl)
        have V27' : Arv Z h27 ab kb .byte (3 : Int32) [(.int (nar .byte (q1.toInt8.toInt32))), (.int (nar .byte (q2.toInt8.toInt32))), (.int (nar .byte (q3.toInt8.toInt32)))] (.int 0) := V27
        have N27 := Fr.snoc X27 N17 gb
        have pre28 := fun t (kt : At p e below T27 m 32 #[vR ac, vI 2, vR ab, vI 2, vI 3, vI 2, vI q3] [] t) => pre26 t (st27 _ kt)
        have k29 : Keep h0 h27 [ab] := (((K0.wr W7 (Or.inl (List.mem_of_getElem? (i := 0) rfl))).wr W17 (Or.inl (List.mem_of_getElem? (i := 0) rfl))).wr W27 (Or.inl (List.mem_of_getElem? (i := 0) rfl)))
        have pre30 := fun t (kt : At p e below T27 m 46 #[vR ac, vI 3, vR ab, vI 3, vI 3, vI 3, vI q3] [(.int 3)] t) => pre28 t (by
          show At p e below T27 m 32 #[vR ac, vI 2, vR ab, vI 2, vI 3, vI 2, vI q3] [] _
          refine XS.iinc X27.here hx rfl (hb hby d15_32) rfl (l' := #[vR ac, .val (.int ((2 : Int32) + (1 : Int32))), vR ab, vI 2, vI 3, vI 2, vI q3]) rfl ?_
          show At p e below T27 m 35 #[vR ac, .val (.int ((2 : Int32) + (1 : Int32))), vR ab, vI 2, vI 3, vI 2, vI q3] [] _
          show At p e below T27 m 35 #[vR ac, vI 3, vR ab, vI 2, vI 3, vI 2, vI q3] [] _
          refine XS.iinc X27.here hx rfl (hb hby d15_35) rfl (l' := #[vR ac, vI 3, vR ab, .val (.int ((2 : Int32) + (1 : Int32))), vI 3, vI 2, vI q3]) rfl ?_
          show At p e below T27 m 38 #[vR ac, vI 3, vR ab, .val (.int ((2 : Int32) + (1 : Int32))), vI 3, vI 2, vI q3] [] _
          show At p e below T27 m 38 #[vR ac, vI 3, vR ab, vI 3, vI 3, vI 2, vI q3] [] _
          refine XS.iinc X27.here hx rfl (hb hby d15_38) rfl (l' := #[vR ac, vI 3, vR ab, vI 3, vI 3, .val (.int ((2 : Int32) + (1 : Int32))), vI q3]) rfl ?_
          show At p e below T27 m 41 #[vR ac, vI 3, vR ab, vI 3, vI 3, .val (.int ((2 : Int32) + (1 : Int32))), vI q3] [] _
          show At p e below T27 m 41 #[vR ac, vI 3, vR ab, vI 3, vI 3, vI 3, vI q3] [] _
          refine XS.goto X27.here hx rfl (pc0 := 41) (pc' := 3) rfl (hb hby d15_41) (by decide) (by decide) ?_
          show At p e below T27 m 3 #[vR ac, vI 3, vR ab, vI 3, vI 3, vI 3, vI q3] [] _
          refine XS.iload X27.here hx rfl (hb hby d15_3) rfl ?_
          show At p e below T27 m 5 #[vR ac, vI 3, vR ab, vI 3, vI 3, vI 3, vI q3] [(.int 3)] _
          refine XS.iload X27.here hx rfl (hb hby d15_5) rfl ?_
          show At p e below T27 m 7 #[vR ac, vI 3, vR ab, vI 3, vI 3, vI 3, vI q3] [(.int 3), (.int 3)] _
          refine XS.icmpYes X27.here hx rfl (pc0 := 7) (pc' := 44) rfl (hb hby d15_7) rfl (flt (by decide : ¬ ((3 : Int32) < (3 : Int32)))).2.1 (by decide) (by decide) ?_
          show At p e below T27 m 44 #[vR ac, vI 3, vR ab, vI 3, vI 3, vI 3, vI q3] [] _
          refine XS.iload X27.here hx rfl (hb hby d15_44) rfl ?_
          exact kt)
        obtain ⟨fs, hr, hrun, hended, hW, hsame⟩ := X27.leave (v := (some (.int 3))) (fun h => by rw [Bd.returns] at h; cases h)
        refine ⟨_, _, pre30 _ ?_, hrun, hended, _, _, rfl, ?_, ⟨_, rfl⟩, hW, hsame.mono (by decide) (by decide)⟩
        · show At p e below T27 m 46 #[vR ac, vI 3, vR ab, vI 3, vI 3, vI 3, vI q3] [(.int 3)] _
          exact retI X27 hx Bd.returns (hb hby d15_46) hr
        · show Q15_3 Z ac kc ab kb q1 q2 q3 h0 n0 _ T27.heap _
          rw [e27]
          exact ⟨_, rfl, N27, k29, Or.inl ⟨rfl, ⟨k1, k2, k3, trivial⟩, V27'⟩⟩
theorem own_bad3 {r : Int32} {q1 : Int32} {q2 : Int32} {q3 : Int32} (R1 : own_R q1) (R2 : own_R q2) (R3 : own_R q3) (h : ((r = (0 : Int32) ∧ (255 : Int32) < q1) ∨ (r = (1 : Int32) ∧ (255 : Int32) < q2) ∨ (r = (2 : Int32) ∧ (255 : Int32) < q3))) : ∃ u1 u2 : Int32, (¬ ((r <<< ((1 : Int32) &&& 31)) < 0) ∧ (r <<< ((1 : Int32) &&& 31)) < (6 : Int32)) ∧ (¬ (((r <<< ((1 : Int32) &&& 31)) + (1 : Int32)) < 0) ∧ ((r <<< ((1 : Int32) &&& 31)) + (1 : Int32)) < (6 : Int32)) ∧ ([(.int (nar .byte ((q1 >>> ((0 : Int32) &&& 31)).toInt8.toInt32))), (.int (nar .byte ((q1 >>> ((8 : Int32) &&& 31)).toInt8.toInt32))), (.int (nar .byte ((q2 >>> ((0 : Int32) &&& 31)).toInt8.toInt32))), (.int (nar .byte ((q2 >>> ((8 : Int32) &&& 31)).toInt8.toInt32))), (.int (nar .byte ((q3 >>> ((0 : Int32) &&& 31)).toInt8.toInt32))), (.int (nar .byte ((q3 >>> ((8 : Int32) &&& 31)).toInt8.toInt32)))] : List Value).getD ((r <<< ((1 : Int32) &&& 31))).toNatClampNeg (.int 0) = (.int u1) ∧ ([(.int (nar .byte ((q1 >>> ((0 : Int32) &&& 31)).toInt8.toInt32))), (.int (nar .byte ((q1 >>> ((8 : Int32) &&& 31)).toInt8.toInt32))), (.int (nar .byte ((q2 >>> ((0 : Int32) &&& 31)).toInt8.toInt32))), (.int (nar .byte ((q2 >>> ((8 : Int32) &&& 31)).toInt8.toInt32))), (.int (nar .byte ((q3 >>> ((0 : Int32) &&& 31)).toInt8.toInt32))), (.int (nar .byte ((q3 >>> ((8 : Int32) &&& 31)).toInt8.toInt32)))] : List Value).getD (((r <<< ((1 : Int32) &&& 31)) + (1 : Int32))).toNatClampNeg (.int 0) = (.int u2) ∧ (255 : Int32) < own_gc u1 u2 ∧ ¬ (r = (3 : Int32)) := by
  rcases h with ⟨rfl, k⟩ | ⟨rfl, k⟩ | ⟨rfl, k⟩
  · exact ⟨(nar .byte ((q1 >>> ((0 : Int32) &&& 31)).toInt8.toInt32)), (nar .byte ((q1 >>> ((8 : Int32) &&& 31)).toInt8.toInt32)), ⟨by decide, by decide⟩, ⟨by decide, by decide⟩, by rw [show ((0 : Int32) <<< ((1 : Int32) &&& 31)) = (0 : Int32) from by decide]; rfl, by rw [show (((0 : Int32) <<< ((1 : Int32) &&& 31)) + (1 : Int32)) = (1 : Int32) from by decide]; rfl, by rw [own_gcq R1]; exact k, by decide⟩
  · exact ⟨(nar .byte ((q2 >>> ((0 : Int32) &&& 31)).toInt8.toInt32)), (nar .byte ((q2 >>> ((8 : Int32) &&& 31)).toInt8.toInt32)), ⟨by decide, by decide⟩, ⟨by decide, by decide⟩, by rw [show ((1 : Int32) <<< ((1 : Int32) &&& 31)) = (2 : Int32) from by decide]; rfl, by rw [show (((1 : Int32) <<< ((1 : Int32) &&& 31)) + (1 : Int32)) = (3 : Int32) from by decide]; rfl, by rw [own_gcq R2]; exact k, by decide⟩
  · exact ⟨(nar .byte ((q3 >>> ((0 : Int32) &&& 31)).toInt8.toInt32)), (nar .byte ((q3 >>> ((8 : Int32) &&& 31)).toInt8.toInt32)), ⟨by decide, by decide⟩, ⟨by decide, by decide⟩, by rw [show ((2 : Int32) <<< ((1 : Int32) &&& 31)) = (4 : Int32) from by decide]; rfl, by rw [show (((2 : Int32) <<< ((1 : Int32) &&& 31)) + (1 : Int32)) = (5 : Int32) from by decide]; rfl, by rw [own_gcq R3]; exact k, by decide⟩
theorem ef_14_3 (m : MethodId) (ac : Addr) : entryFrame m #[(.ref ac), (.int 0), (.int 3)] 6 = (mkF m 0 #[vR ac, vI 0, vI 3, vU, vU, vU] []) := by first | (simp [entryFrame, mkF, argsToLocals, Value.category]; done) | rfl
def Q14_3 (Z : State) (ac : Addr) (kc : ClassId) (q1 : Int32) (q2 : Int32) (q3 : Int32) (h0 : Heap) (n0 : Nat) (v : Option Value) (h : Heap) (L : List Loc) : Prop := ∃ (x : Addr) (kb : ClassId), v = some (.ref x) ∧ Fr n0 L ∧ Keep h0 h [] ∧ h0.size ≤ x ∧ n0 ≤ x ∧ (((¬ ((255 : Int32) < q1) ∧ ¬ ((255 : Int32) < q2) ∧ ¬ ((255 : Int32) < q3) ∧ True) ∧ Arv Z h x kb .byte (3 : Int32) [(.int (nar .byte (q1.toInt8.toInt32))), (.int (nar .byte (q2.toInt8.toInt32))), (.int (nar .byte (q3.toInt8.toInt32)))] (.int 0)) ∨ Arv Z h x kb .byte (6 : Int32) [(.int (nar .byte ((q1 >>> ((0 : Int32) &&& 31)).toInt8.toInt32))), (.int (nar .byte ((q1 >>> ((8 : Int32) &&& 31)).toInt8.toInt32))), (.int (nar .byte ((q2 >>> ((0 : Int32) &&& 31)).toInt8.toInt32))), (.int (nar .byte ((q2 >>> ((8 : Int32) &&& 31)).toInt8.toInt32))), (.int (nar .byte ((q3 >>> ((0 : Int32) &&& 31)).toInt8.toInt32))), (.int (nar .byte ((q3 >>> ((8 : Int32) &&& 31)).toInt8.toInt32)))] (.int 0))
set_option maxRecDepth 65536 in
set_option maxHeartbeats 40000000 in
theorem rm14_3 (l : Launch) (Z : State) (a0 : Array Value) (hw : ∀ d ∈ tables_1, d.before a0 Z = true) (ws : List Jvm.Cond) (ac : Addr) (kc : ClassId) (q1 : Int32) (q2 : Int32) (q3 : Int32) (h0 : Heap) (n0 : Nat) (O0 : Old Z n0 h0) (SA : Sta Z Z.heap "java/lang/StringUTF16" "$assertionsDisabled" "Z" (.int 1)) (SH : Sta Z Z.heap "java/lang/StringUTF16" "HI_BYTE_SHIFT" "I" (.int 0)) (SL : Sta Z Z.heap "java/lang/StringUTF16" "LO_BYTE_SHIFT" "I" (.int 8)) (Vc : Arv Z h0 ac kc .char (3 : Int32) [(.int q1), (.int q2), (.int q3)] (.int 0)) (R1 : own_R q1) (R2 : own_R q2) (R3 : own_R q3) :
    MetFree l (⟨"java/lang/StringUTF16", "compress", "([CII)[B"⟩ : MethodName) (head1 (Jvm.Cond.code (⟨"java/lang/StringUTF16", "compress", "([CII)[B"⟩ : MethodName) jdk_52_method_16_code 6 (some (.array .byte)) :: ws) ({ frames := 3, cells := 2, slots := 9, locals := 40 } : Room)) (fun a U => a = #[(.ref ac), (.int 0), (.int 3)] ∧ Z.Warmed39 U.vm ∧ U.heap = h0) (fun _ _ _ _ _ => True) (fun _ U o U' => ∃ v L, o = .returned v ∧ Q14_3 Z ac kc q1 q2 q3 h0 n0 v U'.heap L ∧ FrameEnd U o U' L ({ frames := 3, cells := 2, slots := 9, locals := 40 } : Room).cells ({ frames := 3, cells := 2, slots := 9, locals := 40 } : Room).slots) := by
  refine MetFree.of_bodySF (plainFor_of_name pn_3) hisR ?_
  intro p e s m args below meth c s₁ Bd hml0 hP hK
  obtain ⟨rfl, hZ, hh⟩ := hP
  have hx := Bd.exec
  have hby := Bd.bytes
  have hml : c.maxLocals = 6 := hml0
  have hown : s.vm.findClass "java/lang/StringUTF16" = some m.cls := findClass_of_methodNamed Bd.named
  have hnm := (name_of_methodNamed Bd.named Bd.method).1
  have X0 : Stand p l e ({ frames := 3, cells := 2, slots := 9, locals := 40 } : Room) s m #[(.ref ac), (.int 0), (.int 3)] below meth c s₁ [] 0 0 := Stand.of_body Bd
  have e0 : s₁.heap = h0 := by rw [← hh, Bd.state]; rfl
  have N0 := Fr.nil n0
  have Z0 : n0 ≤ h0.size := O0.1 ▸ O0.2.1
  have K0 : Keep h0 h0 [] := Keep.refl _ _
  have pre0 : ∀ t, At p e below s₁ m 0 #[vR ac, vI 0, vI 3, vU, vU, vU] [] t → Steps p.tables e below (s₁.setTop (entryFrame m #[(.ref ac), (.int 0), (.int 3)] 6)) t := fun t k => castTop (ef_14_3 m ac) k
  have pre1 := fun t (kt : At p e below s₁ m 1 #[vR ac, vI 0, vI 3, vU, vU, vU] [(.int 3)] t) => pre0 t (by
    show At p e below s₁ m 0 #[vR ac, vI 0, vI 3, vU, vU, vU] [] _
    refine XS.iloadN X0.here hx rfl (hb hby d14_0) rfl ?_
    exact kt)
  obtain ⟨T2, h2, k2, X2, e2, E2, A2, st2⟩ := newP X0 hx hZ (wd hw 17 rfl) e0 (g := (mkF m 1 #[vR ac, vI 0, vI 3, vU, vU, vU] [(.int 3)])) rfl (hb hby d14_1) rfl (by decide) (cap := 3) (by decide) (by decide) (by decide) (by decide)
  obtain ⟨b2, gq2⟩ : ∃ z, z = h0.size := ⟨_, rfl⟩
  rw [← gq2] at A2 st2
  have gg_b2 : n0 ≤ b2 := Nat.le_trans Z0 (Nat.le_of_eq gq2.symm)
  have sz_b2 : h0.size ≤ b2 := Nat.le_trans K0.1 (Nat.le_of_eq gq2.symm)
  have V2 : Arv Z h2 b2 k2 .byte (3 : Int32) [(.int 0), (.int 0), (.int 0)] (.int 0) := (Arv.new A2 (by decide)).pad (pad_rep [] (.int 0) 3)
  have pre3 := fun t (kt : At p e below T2 m 3 #[vR ac, vI 0, vI 3, vU, vU, vU] [(.ref b2)] t) => pre1 t (st2 _ kt)
  have z4 : n0 ≤ h2.size := (Nat.le_trans Z0 E2.1)
  have f5 := (Vc.ext E2)
  have pre6 := fun t (kt : At p e below T2 m 9 #[vR ac, vI 0, vI 3, vR b2, vU, vU] [(.int 3), (.int 0), (.ref b2), (.int 0), (.ref ac)] t) => pre3 t (by
    show At p e below T2 m 3 #[vR ac, vI 0, vI 3, vU, vU, vU] [(.ref b2)] _
    refine XS.astoreN X2.here hx rfl (hb hby d14_3) rfl rfl (l' := #[vR ac, vI 0, vI 3, vR b2, vU, vU]) rfl ?_
    show At p e below T2 m 4 #[vR ac, vI 0, vI 3, vR b2, vU, vU] [] _
    refine XS.aloadN X2.here hx rfl (hb hby d14_4) rfl rfl ?_
    show At p e below T2 m 5 #[vR ac, vI 0, vI 3, vR b2, vU, vU] [(.ref ac)] _
    refine XS.iloadN X2.here hx rfl (hb hby d14_5) rfl ?_
    show At p e below T2 m 6 #[vR ac, vI 0, vI 3, vR b2, vU, vU] [(.int 0), (.ref ac)] _
    refine XS.aloadN X2.here hx rfl (hb hby d14_6) rfl rfl ?_
    show At p e below T2 m 7 #[vR ac, vI 0, vI 3, vR b2, vU, vU] [(.ref b2), (.int 0), (.ref ac)] _
    refine XS.iconst X2.here hx rfl (hb hby d14_7) ?_
    show At p e below T2 m 8 #[vR ac, vI 0, vI 3, vR b2, vU, vU] [(.int 0), (.ref b2), (.int 0), (.ref ac)] _
    refine XS.iloadN X2.here hx rfl (hb hby d14_8) rfl ?_
    exact kt)
  obtain ⟨_, _, ⟨T7, L7, kc7, nc7⟩, -, X7, ⟨Lc7, hQ7, l7, y7, z7⟩, st7⟩ := Jvm.LawKit.callS X2 hx (y := (⟨"java/lang/StringUTF16", "compress", "([CI[BII)I"⟩ : MethodName)) hown (mvT hZ (wd hw 72 rfl)) (mvT hZ (wd hw 73 rfl)) (mvT hZ (wd hw 70 rfl)) (mvT hZ (wd hw 74 rfl)) (by decide) (backOf (W := 0) (rm15_3 l Z a0 hw [] ac kc b2 k2 q1 q2 q3 h2 n0 z4 f5 V2 (Nat.ne_of_lt (Nat.lt_of_lt_of_le Vc.lt (Nat.le_of_eq gq2.symm))) gg_b2) hZ (wd hw 74 rfl) (wd hw 70 rfl) (by decide) (by decide)) (g := (mkF m 9 #[vR ac, vI 0, vI 3, vR b2, vU, vU] [(.int 3), (.int 0), (.ref b2), (.int 0), (.ref ac)])) rfl (by rw [hml]; rfl) (argsL := [(.ref ac), (.int 0), (.ref b2), (.int 0), (.int 3)]) (rest := []) (lenOf pd_3 rfl) rfl (by show 2 * 0 + _ ≤ _; exact Nat.le_of_eq rfl) (hb hby d14_9) (fun _ _ => ⟨rfl, e2, (by decide : 1 + 0 ≤ _), (by decide : 3 + 0 ≤ _)⟩)
  dsimp only [Pt.U, Pt.locs, Pt.cells, Pt.slots] at X7 l7 y7 z7 st7 hQ7
  subst l7 y7 z7
  obtain ⟨r7, rfl, N7q, K7, hr7⟩ := hQ7
  have N7 := Fr.app N0 N7q
  have pre8 := fun t (kt : At p e below T7 m 12 #[vR ac, vI 0, vI 3, vR b2, vU, vU] [(.int r7)] t) => pre6 t (st7 _ kt)
  rcases hr7 with ⟨er, kall, Va7⟩ | hbad
  · have k9 : Keep h0 T7.heap [] := ((K0.ext E2).trans K7 (allS (Or.inr sz_b2) all0))
    have pre10 := fun t (kt : At p e below T7 m 58 #[vR ac, vI 0, vI 3, vR b2, vI 3, vU] [(.ref b2)] t) => pre8 t (by
      show At p e below T7 m 12 #[vR ac, vI 0, vI 3, vR b2, vU, vU] [(.int r7)] _
      rw [show r7 = (3 : Int32) from er]
      show At p e below T7 m 12 #[vR ac, vI 0, vI 3, vR b2, vU, vU] [(.int 3)] _
      refine XS.istore X7.here hx rfl (hb hby d14_12) rfl (l' := #[vR ac, vI 0, vI 3, vR b2, vI 3, vU]) rfl ?_
      show At p e below T7 m 14 #[vR ac, vI 0, vI 3, vR b2, vI 3, vU] [] _
      refine XS.iload X7.here hx rfl (hb hby d14_14) rfl ?_
      show At p e below T7 m 16 #[vR ac, vI 0, vI 3, vR b2, vI 3, vU] [(.int 3)] _
      refine XS.iloadN X7.here hx rfl (hb hby d14_16) rfl ?_
      show At p e below T7 m 17 #[vR ac, vI 0, vI 3, vR b2, vI 3, vU] [(.int 3), (.int 3)] _
      refine XS.icmpYes X7.here hx rfl (pc0 := 17) (pc' := 57) rfl (hb hby d14_17) rfl (teq (by decide : (3 : Int32) = (3 : Int32))).1 (by decide) (by decide) ?_
      show At p e below T7 m 57 #[vR ac, vI 0, vI 3, vR b2, vI 3, vU] [] _
      refine XS.aloadN X7.here hx rfl (hb hby d14_57) rfl rfl ?_
      exact kt)
    obtain ⟨fs, hr, hrun, hended, hW, hsame⟩ := X7.leave (v := (some (.ref b2))) (fun h => by rw [Bd.returns] at h; cases h)
    refine ⟨_, _, pre10 _ ?_, hrun, hended, _, _, rfl, ?_, ⟨_, rfl⟩, hW, hsame.mono (by decide) (by decide)⟩
    · show At p e below T7 m 58 #[vR ac, vI 0, vI 3, vR b2, vI 3, vU] [(.ref b2)] _
      exact retOut X7 hx (t := (.array .byte)) Bd.returns rfl (Or.inr (Or.inr (Or.inr (Or.inr ⟨rfl, rfl, rfl⟩)))) (hb hby d14_58) hr
    · show Q14_3 Z ac kc q1 q2 q3 h0 n0 _ T7.heap _
      exact ⟨_, _, rfl, N7, k9, sz_b2, gg_b2, Or.inl ⟨kall, Va7⟩⟩
  · obtain ⟨u1, u2, j1, j2, g1, g2, hgt, hne⟩ := own_bad3 R1 R2 R3 hbad
    have o11 : Old Z n0 T7.heap := ((O0.ext E2).keep K7 (allS gg_b2 all0))
    have f12 := (f5.keep K7 (ninS (Nat.ne_of_lt (Nat.lt_of_lt_of_le Vc.lt (Nat.le_of_eq gq2.symm))) nin0))
    have pre13 := fun t (kt : At p e below T7 m 23 #[vR ac, vI 0, vI 3, vR b2, vI r7, vU] [(.int 3), (.int 0), (.ref ac)] t) => pre8 t (by
      show At p e below T7 m 12 #[vR ac, vI 0, vI 3, vR b2, vU, vU] [(.int r7)] _
      refine XS.istore X7.here hx rfl (hb hby d14_12) rfl (l' := #[vR ac, vI 0, vI 3, vR b2, vI r7, vU]) rfl ?_
      show At p e below T7 m 14 #[vR ac, vI 0, vI 3, vR b2, vI r7, vU] [] _
      refine XS.iload X7.here hx rfl (hb hby d14_14) rfl ?_
      show At p e below T7 m 16 #[vR ac, vI 0, vI 3, vR b2, vI r7, vU] [(.int r7)] _
      refine XS.iloadN X7.here hx rfl (hb hby d14_16) rfl ?_
      show At p e below T7 m 17 #[vR ac, vI 0, vI 3, vR b2, vI r7, vU] [(.int 3), (.int r7)] _
      refine XS.icmpNo X7.here hx rfl (hb hby d14_17) rfl (feq (hne : ¬ (r7 = (3 : Int32)))).1 ?_
      show At p e below T7 m 20 #[vR ac, vI 0, vI 3, vR b2, vI r7, vU] [] _
      refine XS.aloadN X7.here hx rfl (hb hby d14_20) rfl rfl ?_
      show At p e below T7 m 21 #[vR ac, vI 0, vI 3, vR b2, vI r7, vU] [(.ref ac)] _
      refine XS.iloadN X7.here hx rfl (hb hby d14_21) rfl ?_
      show At p e below T7 m 22 #[vR ac, vI 0, vI 3, vR b2, vI r7, vU] [(.int 0), (.ref ac)] _
      refine XS.iloadN X7.here hx rfl (hb hby d14_22) rfl ?_
      exact kt)
    have z14 : n0 ≤ T7.heap.size := (Nat.le_trans z4 K7.1)
    obtain ⟨_, _, ⟨T15, L15, kc15, nc15⟩, -, X15, ⟨Lc15, hQ15, l15, y15, z15⟩, st15⟩ := Jvm.LawKit.callS X7 hx (y := (⟨"java/lang/StringUTF16", "toBytes", "([CII)[B"⟩ : MethodName)) hown (mvT hZ (wd hw 85 rfl)) (mvT hZ (wd hw 86 rfl)) (mvT hZ (wd hw 70 rfl)) (mvT hZ (wd hw 87 rfl)) (by decide) (backOf (W := 0) (rm19_3 l Z a0 hw [] ac kc q1 q2 q3 T7.heap n0 o11 SA SH SL f12) hZ (wd hw 87 rfl) (wd hw 70 rfl) (by decide) (by decide)) (g := (mkF m 23 #[vR ac, vI 0, vI 3, vR b2, vI r7, vU] [(.int 3), (.int 0), (.ref ac)])) rfl (by rw [hml]; rfl) (argsL := [(.ref ac), (.int 0), (.int 3)]) (rest := []) (lenOf pd_4 rfl) rfl (by show 2 * 0 + _ ≤ _; exact Nat.le_of_eq rfl) (hb hby d14_23) (fun _ _ => ⟨rfl, rfl, (by decide : 1 + 1 ≤ _), (by decide : 3 + 6 ≤ _)⟩)
    dsimp only [Pt.U, Pt.locs, Pt.cells, Pt.slots] at X15 l15 y15 z15 st15 hQ15
    subst l15 y15 z15
    obtain ⟨rfl, N15q, K15, kk15, Va15⟩ := hQ15
    have N15 := Fr.app N7 N15q
    obtain ⟨b15, gq15⟩ : ∃ z, z = T7.heap.size := ⟨_, rfl⟩
    rw [← gq15] at Va15 st15
    have gg_b15 : n0 ≤ b15 := Nat.le_trans z14 (Nat.le_of_eq gq15.symm)
    have k16 : Keep h0 T7.heap [] := ((K0.ext E2).trans K7 (allS (Or.inr sz_b2) all0))
    have sz_b15 : h0.size ≤ b15 := Nat.le_trans k16.1 (Nat.le_of_eq gq15.symm)
    have pre17 := fun t (kt : At p e below T15 m 26 #[vR ac, vI 0, vI 3, vR b2, vI r7, vU] [(.ref b15)] t) => pre13 t (st15 _ kt)
    have o18 : Old Z n0 T15.heap := (o11.keep K15 all0)
    have pre19 := fun t (kt : At p e below T15 m 32 #[vR ac, vI 0, vI 3, vR b2, vI r7, vR b15] [(.int r7), (.ref b15)] t) => pre17 t (by
      show At p e below T15 m 26 #[vR ac, vI 0, vI 3, vR b2, vI r7, vU] [(.ref b15)] _
      refine XS.astore X15.here hx rfl (hb hby d14_26) rfl rfl (l' := #[vR ac, vI 0, vI 3, vR b2, vI r7, vR b15]) rfl ?_
      show At p e below T15 m 28 #[vR ac, vI 0, vI 3, vR b2, vI r7, vR b15] [] _
      refine XS.aload X15.here hx rfl (hb hby d14_28) rfl rfl ?_
      show At p e below T15 m 30 #[vR ac, vI 0, vI 3, vR b2, vI r7, vR b15] [(.ref b15)] _
      refine XS.iload X15.here hx rfl (hb hby d14_30) rfl ?_
      exact kt)
    obtain ⟨_, _, ⟨T20, L20, kc20, nc20⟩, -, X20, ⟨Lc20, hQ20, l20, y20, z20⟩, st20⟩ := Jvm.LawKit.callS X15 hx (y := (⟨"java/lang/StringUTF16", "getChar", "([BI)C"⟩ : MethodName)) hown (mvT hZ (wd hw 101 rfl)) (mvT hZ (wd hw 102 rfl)) (mvT hZ (wd hw 70 rfl)) (mvT hZ (wd hw 103 rfl)) (by decide) (backOf (W := 0) (rm23 l Z a0 hw [] b15 kk15 (6 : Int32) _ r7 u1 u2 T15.heap n0 o18 SA SH SL Va15 j1 j2 g1 g2) hZ (wd hw 103 rfl) (wd hw 70 rfl) (by decide) (by decide)) (g := (mkF m 32 #[vR ac, vI 0, vI 3, vR b2, vI r7, vR b15] [(.int r7), (.ref b15)])) rfl (by rw [hml]; rfl) (argsL := [(.ref b15), (.int r7)]) (rest := []) (lenOf pd_5 rfl) rfl (by show 2 * 0 + _ ≤ _; exact Nat.le_of_eq rfl) (hb hby d14_32) (fun _ _ => ⟨rfl, rfl, (by decide : 2 + 0 ≤ _), (by decide : 9 + 0 ≤ _)⟩)
    dsimp only [Pt.U, Pt.locs, Pt.cells, Pt.slots] at X20 l20 y20 z20 st20 hQ20
    subst l20 y20 z20
    obtain ⟨rfl, N20q, he20⟩ := hQ20
    have N20 := Fr.app N15 N20q
    have pre21 := fun t (kt : At p e below T20 m 35 #[vR ac, vI 0, vI 3, vR b2, vI r7, vR b15] [(.int (own_gc u1 u2))] t) => pre19 t (st20 _ kt)
    have k22 : Keep h0 T15.heap [] := (k16.trans K15 all0)
    have pre23 := fun t (kt : At p e below T20 m 56 #[vR ac, vI 0, vI 3, vR b2, vI r7, vR b15] [(.ref b15)] t) => pre21 t (by
      show At p e below T20 m 35 #[vR ac, vI 0, vI 3, vR b2, vI r7, vR b15] [(.int (own_gc u1 u2))] _
      refine XS.sipush X20.here hx rfl (hb hby d14_35) ?_
      show At p e below T20 m 38 #[vR ac, vI 0, vI 3, vR b2, vI r7, vR b15] [(.int 255), (.int (own_gc u1 u2))] _
      refine XS.icmpYes X20.here hx rfl (pc0 := 38) (pc' := 54) rfl (hb hby d14_38) rfl (tlt (hgt : (255 : Int32) < (own_gc u1 u2))).2.2.1 (by decide) (by decide) ?_
      show At p e below T20 m 54 #[vR ac, vI 0, vI 3, vR b2, vI r7, vR b15] [] _
      refine XS.aload X20.here hx rfl (hb hby d14_54) rfl rfl ?_
      exact kt)
    obtain ⟨fs, hr, hrun, hended, hW, hsame⟩ := X20.leave (v := (some (.ref b15))) (fun h => by rw [Bd.returns] at h; cases h)
    refine ⟨_, _, pre23 _ ?_, hrun, hended, _, _, rfl, ?_, ⟨_, rfl⟩, hW, hsame.mono (by decide) (by decide)⟩
    · show At p e below T20 m 56 #[vR ac, vI 0, vI 3, vR b2, vI r7, vR b15] [(.ref b15)] _
      exact retOut X20 hx (t := (.array .byte)) Bd.returns rfl (Or.inr (Or.inr (Or.inr (Or.inr ⟨rfl, rfl, rfl⟩)))) (hb hby d14_56) hr
    · show Q14_3 Z ac kc q1 q2 q3 h0 n0 _ T20.heap _
      rw [he20]
      exact ⟨_, _, rfl, N20, k22, sz_b15, gg_b15, Or.inr Va15⟩
theorem ef_15_4 (m : MethodId) (ac : Addr) (ab : Addr) : entryFrame m #[(.ref ac), (.int 0), (.ref ab), (.int 0), (.int 4)] 7 = (mkF m 0 #[vR ac, vI 0, vR ab, vI 0, vI 4, vU, vU] []) := by first | (simp [entryFrame, mkF, argsToLocals, Value.category]; done) | rfl
def Q15_4 (Z : State) (ac : Addr) (kc : ClassId) (ab : Addr) (kb : ClassId) (q1 : Int32) (q2 : Int32) (q3 : Int32) (q4 : Int32) (h0 : Heap) (n0 : Nat) (v : Option Value) (h : Heap) (L : List Loc) : Prop := ∃ r : Int32, v = some (.int r) ∧ Fr n0 L ∧ Keep h0 h [ab] ∧ ((r = (4 : Int32) ∧ (¬ ((255 : Int32) < q1) ∧ ¬ ((255 : Int32) < q2) ∧ ¬ ((255 : Int32) < q3) ∧ ¬ ((255 : Int32) < q4) ∧ True) ∧ Arv Z h ab kb .byte (4 : Int32) [(.int (nar .byte (q1.toInt8.toInt32))), (.int (nar .byte (q2.toInt8.toInt32))), (.int (nar .byte (q3.toInt8.toInt32))), (.int (nar .byte (q4.toInt8.toInt32)))] (.int 0)) ∨ ((r = (0 : Int32) ∧ (255 : Int32) < q1) ∨ (r = (1 : Int32) ∧ (255 : Int32) < q2) ∨ (r = (2 : Int32) ∧ (255 : Int32) < q3) ∨ (r = (3 : Int32) ∧ (255 : Int32) < q4)))
set_option maxRecDepth 65536 in
set_option maxHeartbeats 40000000 in
theorem rm15_4 (l : Launch) (Z : State) (a0 : Array Value) (hw : ∀ d ∈ tables_1, d.before a0 Z = true) (ws : List Jvm.Cond) (ac : Addr) (kc : ClassId) (ab : Addr) (kb : ClassId) (q1 : Int32) (q2 : Int32) (q3 : Int32) (q4 : Int32) (h0 : Heap) (n0 : Nat) (Z0 : n0 ≤ h0.size) (Vc : Arv Z h0 ac kc .char (4 : Int32) [(.int q1), (.int q2), (.int q3), (.int q4)] (.int 0)) (Vb : Arv Z h0 ab kb .byte (4 : Int32) [(.int 0), (.int 0), (.int 0), (.int 0)] (.int 0)) (ncb : ac ≠ ab) (gb : n0 ≤ ab) :
    MetFree l (⟨"java/lang/StringUTF16", "compress", "([CI[BII)I"⟩ : MethodName) (head1 (Jvm.Cond.code (⟨"java/lang/StringUTF16", "compress", "([CI[BII)I"⟩ : MethodName) jdk_52_method_21_code 7 (some .int) :: ws) ({ frames := 0, cells := 0, slots := 0, locals := 0 } : Room)) (fun a U => a = #[(.ref ac), (.int 0), (.ref ab), (.int 0), (.int 4)] ∧ Z.Warmed39 U.vm ∧ U.heap = h0) (fun _ _ _ _ _ => True) (fun _ U o U' => ∃ v L, o = .returned v ∧ Q15_4 Z ac kc ab kb q1 q2 q3 q4 h0 n0 v U'.heap L ∧ FrameEnd U o U' L ({ frames := 0, cells := 0, slots := 0, locals := 0 } : Room).cells ({ frames := 0, cells := 0, slots := 0, locals := 0 } : Room).slots) := by
  refine MetFree.of_bodySF (plainFor_of_name pn_3) hisR ?_
  intro p e s m args below meth c s₁ Bd hml0 hP hK
  obtain ⟨rfl, hZ, hh⟩ := hP
  have hx := Bd.exec
  have hby := Bd.bytes
  have hml : c.maxLocals = 7 := hml0
  have hown : s.vm.findClass "java/lang/StringUTF16" = some m.cls := findClass_of_methodNamed Bd.named
  have hnm := (name_of_methodNamed Bd.named Bd.method).1
  have X0 : Stand p l e ({ frames := 0, cells := 0, slots := 0, locals := 0 } : Room) s m #[(.ref ac), (.int 0), (.ref ab), (.int 0), (.int 4)] below meth c s₁ [] 0 0 := Stand.of_body Bd
  have e0 : s₁.heap = h0 := by rw [← hh, Bd.state]; rfl
  have N0 := Fr.nil n0
  have K0 : Keep h0 h0 [ab] := Keep.refl _ _
  have pre0 : ∀ t, At p e below s₁ m 0 #[vR ac, vI 0, vR ab, vI 0, vI 4, vU, vU] [] t → Steps p.tables e below (s₁.setTop (entryFrame m #[(.ref ac), (.int 0), (.ref ab), (.int 0), (.int 4)] 7)) t := fun t k => castTop (ef_15_4 m ac ab) k
  have pre1 := fun t (kt : At p e below s₁ m 12 #[vR ac, vI 0, vR ab, vI 0, vI 4, vI 0, vU] [(.int 0), (.ref ac)] t) => pre0 t (by
    show At p e below s₁ m 0 #[vR ac, vI 0, vR ab, vI 0, vI 4, vU, vU] [] _
    refine XS.iconst X0.here hx rfl (hb hby d15_0) ?_
    show At p e below s₁ m 1 #[vR ac, vI 0, vR ab, vI 0, vI 4, vU, vU] [(.int 0)] _
    refine XS.istore X0.here hx rfl (hb hby d15_1) rfl (l' := #[vR ac, vI 0, vR ab, vI 0, vI 4, vI 0, vU]) rfl ?_
    show At p e below s₁ m 3 #[vR ac, vI 0, vR ab, vI 0, vI 4, vI 0, vU] [] _
    refine XS.iload X0.here hx rfl (hb hby d15_3) rfl ?_
    show At p e below s₁ m 5 #[vR ac, vI 0, vR ab, vI 0, vI 4, vI 0, vU] [(.int 0)] _
    refine XS.iload X0.here hx rfl (hb hby d15_5) rfl ?_
    show At p e below s₁ m 7 #[vR ac, vI 0, vR ab, vI 0, vI 4, vI 0, vU] [(.int 4), (.int 0)] _
    refine XS.icmpNo X0.here hx rfl (hb hby d15_7) rfl (tlt (by decide : (0 : Int32) < (4 : Int32))).2.1 ?_
    show At p e below s₁ m 10 #[vR ac, vI 0, vR ab, vI 0, vI 4, vI 0, vU] [] _
    refine XS.aloadN X0.here hx rfl (hb hby d15_10) rfl rfl ?_
    show At p e below s₁ m 11 #[vR ac, vI 0, vR ab, vI 0, vI 4, vI 0, vU] [(.ref ac)] _
    refine XS.iloadN X0.here hx rfl (hb hby d15_11) rfl ?_
    exact kt)
  obtain ⟨cl2, Ar2, qk2, Sz2, Nn2, Hh2, Gg2⟩ := id Vc
  have hin2 : ¬ ((0 : Int32) < 0 ∨ cl2.slots.size ≤ ((0 : Int32)).toNatClampNeg) := inb_of Sz2 ⟨by decide, by decide⟩
  have hat2 : cl2.slots[((0 : Int32)).toNatClampNeg]? = some (.int q1) := Hh2.at hin2 rfl
  have pre3 := fun t (kt : At p e below s₁ m 20 #[vR ac, vI 0, vR ab, vI 0, vI 4, vI 0, vI q1] [(.int 255), (.int q1)] t) => pre1 t (by
    show At p e below s₁ m 12 #[vR ac, vI 0, vR ab, vI 0, vI 4, vI 0, vU] [(.int 0), (.ref ac)] _
    refine X0.caload hx (j := (0 : Int32)) (v := (.int q1)) (by rw [e0]; exact Ar2.1) (State.isArrayOf_alike hZ.alike Ar2.2.1) Ar2.2.2 hin2 hat2 (g := (mkF m 12 #[vR ac, vI 0, vR ab, vI 0, vI 4, vI 0, vU] [(.int 0), (.ref ac)])) rfl rfl (hb hby d15_12) _ ?_
    show At p e below s₁ m 13 #[vR ac, vI 0, vR ab, vI 0, vI 4, vI 0, vU] [(.int q1)] _
    refine XS.istore X0.here hx rfl (hb hby d15_13) rfl (l' := #[vR ac, vI 0, vR ab, vI 0, vI 4, vI 0, vI q1]) rfl ?_
    show At p e below s₁ m 15 #[vR ac, vI 0, vR ab, vI 0, vI 4, vI 0, vI q1] [] _
    refine XS.iload X0.here hx rfl (hb hby d15_15) rfl ?_
    show At p e below s₁ m 17 #[vR ac, vI 0, vR ab, vI 0, vI 4, vI 0, vI q1] [(.int q1)] _
    refine XS.sipush X0.here hx rfl (hb hby d15_17) ?_
    exact kt)
  by_cases k1 : (255 : Int32) < q1
  · have pre4 := fun t (kt : At p e below s₁ m 25 #[vR ac, vI 0, vR ab, vI 0, vI 4, vI 0, vI q1] [(.int 0)] t) => pre3 t (by
      show At p e below s₁ m 20 #[vR ac, vI 0, vR ab, vI 0, vI 4, vI 0, vI q1] [(.int 255), (.int q1)] _
      refine XS.icmpNo X0.here hx rfl (hb hby d15_20) rfl (tlt (k1 : (255 : Int32) < q1)).2.2.2 ?_
      show At p e below s₁ m 23 #[vR ac, vI 0, vR ab, vI 0, vI 4, vI 0, vI q1] [] _
      refine XS.iload X0.here hx rfl (hb hby d15_23) rfl ?_
      exact kt)
    obtain ⟨fs, hr, hrun, hended, hW, hsame⟩ := X0.leave (v := (some (.int 0))) (fun h => by rw [Bd.returns] at h; cases h)
    refine ⟨_, _, pre4 _ ?_, hrun, hended, _, _, rfl, ?_, ⟨_, rfl⟩, hW, hsame.mono (by decide) (by decide)⟩
    · show At p e below s₁ m 25 #[vR ac, vI 0, vR ab, vI 0, vI 4, vI 0, vI q1] [(.int 0)] _
      exact retI X0 hx Bd.returns (hb hby d15_25) hr
    · show Q15_4 Z ac kc ab kb q1 q2 q3 q4 h0 n0 _ s₁.heap _
      rw [e0]
      exact ⟨_, rfl, N0, K0, Or.inr (Or.inl ⟨rfl, k1⟩)⟩
  · obtain ⟨cl5, Ar5, qk5, Sz5, Nn5, Hh5, Gg5⟩ := id Vb
    have hin5 : ¬ ((0 : Int32) < 0 ∨ cl5.slots.size ≤ ((0 : Int32)).toNatClampNeg) := inb_of Sz5 ⟨by decide, by decide⟩
    have pre6 := fun t (kt : At p e below s₁ m 31 #[vR ac, vI 0, vR ab, vI 0, vI 4, vI 0, vI q1] [(.int (q1.toInt8.toInt32)), (.int 0), (.ref ab)] t) => pre3 t (by
      show At p e below s₁ m 20 #[vR ac, vI 0, vR ab, vI 0, vI 4, vI 0, vI q1] [(.int 255), (.int q1)] _
      refine XS.icmpYes X0.here hx rfl (pc0 := 20) (pc' := 26) rfl (hb hby d15_20) rfl (flt (k1 : ¬ ((255 : Int32) < q1))).2.2.2 (by decide) (by decide) ?_
      show At p e below s₁ m 26 #[vR ac, vI 0, vR ab, vI 0, vI 4, vI 0, vI q1] [] _
      refine XS.aloadN X0.here hx rfl (hb hby d15_26) rfl rfl ?_
      show At p e below s₁ m 27 #[vR ac, vI 0, vR ab, vI 0, vI 4, vI 0, vI q1] [(.ref ab)] _
      refine XS.iloadN X0.here hx rfl (hb hby d15_27) rfl ?_
      show At p e below s₁ m 28 #[vR ac, vI 0, vR ab, vI 0, vI 4, vI 0, vI q1] [(.int 0), (.ref ab)] _
      refine XS.iload X0.here hx rfl (hb hby d15_28) rfl ?_
      show At p e below s₁ m 30 #[vR ac, vI 0, vR ab, vI 0, vI 4, vI 0, vI q1] [(.int q1), (.int 0), (.ref ab)] _
      refine XS.i2b X0.here hx rfl (hb hby d15_30) rfl ?_
      exact kt)
    obtain ⟨T7, h7, X7, e7, W7, st7⟩ := stB X0 hx hZ e0 Ar5 (j := (0 : Int32)) hin5 (g := (mkF m 31 #[vR ac, vI 0, vR ab, vI 0, vI 4, vI 0, vI q1] [(.int (q1.toInt8.toInt32)), (.int 0), (.ref ab)])) rfl rfl (hb hby d15_31)
    have V7 := Arv.set Ar5 qk5 Sz5 Nn5 Hh5 Gg5 (fits_nar_byte _) W7 0 rfl (Nat.le_of_ble_eq_true rfl)
    have V7' : Arv Z h7 ab kb .byte (4 : Int32) [(.int (nar .byte (q1.toInt8.toInt32))), (.int 0), (.int 0), (.int 0)] (.int 0) := V7
    have N7 := Fr.snoc X7 N0 gb
    have pre8 := fun t (kt : At p e below T7 m 32 #[vR ac, vI 0, vR ab, vI 0, vI 4, vI 0, vI q1] [] t) => pre6 t (st7 _ kt)
    have pre9 := fun t (kt : At p e below T7 m 12 #[vR ac, vI 1, vR ab, vI 1, vI 4, vI 1, vI q1] [(.int 1), (.ref ac)] t) => pre8 t (by
      show At p e below T7 m 32 #[vR ac, vI 0, vR ab, vI 0, vI 4, vI 0, vI q1] [] _
      refine XS.iinc X7.here hx rfl (hb hby d15_32) rfl (l' := #[vR ac, .val (.int ((0 : Int32) + (1 : Int32))), vR ab, vI 0, vI 4, vI 0, vI q1]) rfl ?_
      show At p e below T7 m 35 #[vR ac, .val (.int ((0 : Int32) + (1 : Int32))), vR ab, vI 0, vI 4, vI 0, vI q1] [] _
      show At p e below T7 m 35 #[vR ac, vI 1, vR ab, vI 0, vI 4, vI 0, vI q1] [] _
      refine XS.iinc X7.here hx rfl (hb hby d15_35) rfl (l' := #[vR ac, vI 1, vR ab, .val (.int ((0 : Int32) + (1 : Int32))), vI 4, vI 0, vI q1]) rfl ?_
      show At p e below T7 m 38 #[vR ac, vI 1, vR ab, .val (.int ((0 : Int32) + (1 : Int32))), vI 4, vI 0, vI q1] [] _
      show At p e below T7 m 38 #[vR ac, vI 1, vR ab, vI 1, vI 4, vI 0, vI q1] [] _
      refine XS.iinc X7.here hx rfl (hb hby d15_38) rfl (l' := #[vR ac, vI 1, vR ab, vI 1, vI 4, .val (.int ((0 : Int32) + (1 : Int32))), vI q1]) rfl ?_
      show At p e below T7 m 41 #[vR ac, vI 1, vR ab, vI 1, vI 4, .val (.int ((0 : Int32) + (1 : Int32))), vI q1] [] _
      show At p e below T7 m 41 #[vR ac, vI 1, vR ab, vI 1, vI 4, vI 1, vI q1] [] _
      refine XS.goto X7.here hx rfl (pc0 := 41) (pc' := 3) rfl (hb hby d15_41) (by decide) (by decide) ?_
      show At p e below T7 m 3 #[vR ac, vI 1, vR ab, vI 1, vI 4, vI 1, vI q1] [] _
      refine XS.iload X7.here hx rfl (hb hby d15_3) rfl ?_
      show At p e below T7 m 5 #[vR ac, vI 1, vR ab, vI 1, vI 4, vI 1, vI q1] [(.int 1)] _
      refine XS.iload X7.here hx rfl (hb hby d15_5) rfl ?_
      show At p e below T7 m 7 #[vR ac, vI 1, vR ab, vI 1, vI 4, vI 1, vI q1] [(.int 4), (.int 1)] _
      refine XS.icmpNo X7.here hx rfl (hb hby d15_7) rfl (tlt (by decide : (1 : Int32) < (4 : Int32))).2.1 ?_
      show At p e below T7 m 10 #[vR ac, vI 1, vR ab, vI 1, vI 4, vI 1, vI q1] [] _
      refine XS.aloadN X7.here hx rfl (hb hby d15_10) rfl rfl ?_
      show At p e below T7 m 11 #[vR ac, vI 1, vR ab, vI 1, vI 4, vI 1, vI q1] [(.ref ac)] _
      refine XS.iloadN X7.here hx rfl (hb hby d15_11) rfl ?_
      exact kt)
    have f10 := (Vc.other W7 ncb)
    obtain ⟨cl11, Ar11, qk11, Sz11, Nn11, Hh11, Gg11⟩ := id f10
    have hin11 : ¬ ((1 : Int32) < 0 ∨ cl11.slots.size ≤ ((1 : Int32)).toNatClampNeg) := inb_of Sz11 ⟨by decide, by decide⟩
    have hat11 : cl11.slots[((1 : Int32)).toNatClampNeg]? = some (.int q2) := Hh11.at hin11 rfl
    have pre12 := fun t (kt : At p e below T7 m 20 #[vR ac, vI 1, vR ab, vI 1, vI 4, vI 1, vI q2] [(.int 255), (.int q2)] t) => pre9 t (by
      show At p e below T7 m 12 #[vR ac, vI 1, vR ab, vI 1, vI 4, vI 1, vI q1] [(.int 1), (.ref ac)] _
      refine X7.caload hx (j := (1 : Int32)) (v := (.int q2)) (by rw [e7]; exact Ar11.1) (State.isArrayOf_alike hZ.alike Ar11.2.1) Ar11.2.2 hin11 hat11 (g := (mkF m 12 #[vR ac, vI 1, vR ab, vI 1, vI 4, vI 1, vI q1] [(.int 1), (.ref ac)])) rfl rfl (hb hby d15_12) _ ?_
      show At p e below T7 m 13 #[vR ac, vI 1, vR ab, vI 1, vI 4, vI 1, vI q1] [(.int q2)] _
      refine XS.istore X7.here hx rfl (hb hby d15_13) rfl (l' := #[vR ac, vI 1, vR ab, vI 1, vI 4, vI 1, vI q2]) rfl ?_
      show At p e below T7 m 15 #[vR ac, vI 1, vR ab, vI 1, vI 4, vI 1, vI q2] [] _
      refine XS.iload X7.here hx rfl (hb hby d15_15) rfl ?_
      show At p e below T7 m 17 #[vR ac, vI 1, vR ab, vI 1, vI 4, vI 1, vI q2] [(.int q2)] _
      refine XS.sipush X7.here hx rfl (hb hby d15_17) ?_
      exact kt)
    by_cases k2 : (255 : Int32) < q2
    · have k13 : Keep h0 h7 [ab] := (K0.wr W7 (Or.inl (List.mem_of_getElem? (i := 0) rfl)))
      have pre14 := fun t (kt : At p e below T7 m 25 #[vR ac, vI 1, vR ab, vI 1, vI 4, vI 1, vI q2] [(.int 1)] t) => pre12 t (by
        show At p e below T7 m 20 #[vR ac, vI 1, vR ab, vI 1, vI 4, vI 1, vI q2] [(.int 255), (.int q2)] _
        refine XS.icmpNo X7.here hx rfl (hb hby d15_20) rfl (tlt (k2 : (255 : Int32) < q2)).2.2.2 ?_
        show At p e below T7 m 23 #[vR ac, vI 1, vR ab, vI 1, vI 4, vI 1, vI q2] [] _
        refine XS.iload X7.here hx rfl (hb hby d15_23) rfl ?_
        exact kt)
      obtain ⟨fs, hr, hrun, hended, hW, hsame⟩ := X7.leave (v := (some (.int 1))) (fun h => by rw [Bd.returns] at h; cases h)
      refine ⟨_, _, pre14 _ ?_, hrun, hended, _, _, rfl, ?_, ⟨_, rfl⟩, hW, hsame.mono (by decide) (by decide)⟩
      · show At p e below T7 m 25 #[vR ac, vI 1, vR ab, vI 1, vI 4, vI 1, vI q2] [(.int 1)] _
        exact retI X7 hx Bd.returns (hb hby d15_25) hr
      · show Q15_4 Z ac kc ab kb q1 q2 q3 q4 h0 n0 _ T7.heap _
        rw [e7]
        exact ⟨_, rfl, N7, k13, Or.inr (Or.inr (Or.inl ⟨rfl, k2⟩))⟩
    · obtain ⟨cl15, Ar15, qk15, Sz15, Nn15, Hh15, Gg15⟩ := id V7'
      have hin15 : ¬ ((1 : Int32) < 0 ∨ cl15.slots.size ≤ ((1 : Int32)).toNatClampNeg) := inb_of Sz15 ⟨by decide, by decide⟩
      have pre16 := fun t (kt : At p e below T7 m 31 #[vR ac, vI 1, vR ab, vI 1, vI 4, vI 1, vI q2] [(.int (q2.toInt8.toInt32)), (.int 1), (.ref ab)] t) => pre12 t (by
        show At p e below T7 m 20 #[vR ac, vI 1, vR ab, vI 1, vI 4, vI 1, vI q2] [(.int 255), (.int q2)] _
        refine XS.icmpYes X7.here hx rfl (pc0 := 20) (pc' := 26) rfl (hb hby d15_20) rfl (flt (k2 : ¬ ((255 : Int32) < q2))).2.2.2 (by decide) (by decide) ?_
        show At p e below T7 m 26 #[vR ac, vI 1, vR ab, vI 1, vI 4, vI 1, vI q2] [] _
        refine XS.aloadN X7.here hx rfl (hb hby d15_26) rfl rfl ?_
        show At p e below T7 m 27 #[vR ac, vI 1, vR ab, vI 1, vI 4, vI 1, vI q2] [(.ref ab)] _
        refine XS.iloadN X7.here hx rfl (hb hby d15_27) rfl ?_
        show At p e below T7 m 28 #[vR ac, vI 1, vR ab, vI 1, vI 4, vI 1, vI q2] [(.int 1), (.ref ab)] _
        refine XS.iload X7.here hx rfl (hb hby d15_28) rfl ?_
        show At p e below T7 m 30 #[vR ac, vI 1, vR ab, vI 1, vI 4, vI 1, vI q2] [(.int q2), (.int 1), (.ref ab)] _
        refine XS.i2b X7.here hx rfl (hb hby d15_30) rfl ?_
        exact kt)
      obtain ⟨T17, h17, X17, e17, W17, st17⟩ := stB X7 hx hZ e7 Ar15 (j := (1 : Int32)) hin15 (g := (mkF m 31 #[vR ac, vI 1, vR ab, vI 1, vI 4, vI 1, vI q2] [(.int (q2.toInt8.toInt32)), (.int 1), (.ref ab)])) rfl rfl (hb hby d15_31)
      have V17 := Arv.set Ar15 qk15 Sz15 Nn15 Hh15 Gg15 (fits_nar_byte _) W17 1 rfl (Nat.le_of_ble_eq_true rfl)
      have V17' : Arv Z h17 ab kb .byte (4 : Int32) [(.int (nar .byte (q1.toInt8.toInt32))), (.int (nar .byte (q2.toInt8.toInt32))), (.int 0), (.int 0)] (.int 0) := V17
      have N17 := Fr.snoc X17 N7 gb
      have pre18 := fun t (kt : At p e below T17 m 32 #[vR ac, vI 1, vR ab, vI 1, vI 4, vI 1, vI q2] [] t) => pre16 t (st17 _ kt)
      have pre19 := fun t (kt : At p e below T17 m 12 #[vR ac, vI 2, vR ab, vI 2, vI 4, vI 2, vI q2] [(.int 2), (.ref ac)] t) => pre18 t (by
        show At p e below T17 m 32 #[vR ac, vI 1, vR ab, vI 1, vI 4, vI 1, vI q2] [] _
        refine XS.iinc X17.here hx rfl (hb hby d15_32) rfl (l' := #[vR ac, .val (.int ((1 : Int32) + (1 : Int32))), vR ab, vI 1, vI 4, vI 1, vI q2]) rfl ?_
        show At p e below T17 m 35 #[vR ac, .val (.int ((1 : Int32) + (1 : Int32))), vR ab, vI 1, vI 4, vI 1, vI q2] [] _
        show At p e below T17 m 35 #[vR ac, vI 2, vR ab, vI 1, vI 4, vI 1, vI q2] [] _
        refine XS.iinc X17.here hx rfl (hb hby d15_35) rfl (l' := #[vR ac, vI 2, vR ab, .val (.int ((1 : Int32) + (1 : Int32))), vI 4, vI 1, vI q2]) rfl ?_
        show At p e below T17 m 38 #[vR ac, vI 2, vR ab, .val (.int ((1 : Int32) + (1 : Int32))), vI 4, vI 1, vI q2] [] _
        show At p e below T17 m 38 #[vR ac, vI 2, vR ab, vI 2, vI 4, vI 1, vI q2] [] _
        refine XS.iinc X17.here hx rfl (hb hby d15_38) rfl (l' := #[vR ac, vI 2, vR ab, vI 2, vI 4, .val (.int ((1 : Int32) + (1 : Int32))), vI q2]) rfl ?_
        show At p e below T17 m 41 #[vR ac, vI 2, vR ab, vI 2, vI 4, .val (.int ((1 : Int32) + (1 : Int32))), vI q2] [] _
        show At p e below T17 m 41 #[vR ac, vI 2, vR ab, vI 2, vI 4, vI 2, vI q2] [] _
        refine XS.goto X17.here hx rfl (pc0 := 41) (pc' := 3) rfl (hb hby d15_41) (by decide) (by decide) ?_
        show At p e below T17 m 3 #[vR ac, vI 2, vR ab, vI 2, vI 4, vI 2, vI q2] [] _
        refine XS.iload X17.here hx rfl (hb hby d15_3) rfl ?_
        show At p e below T17 m 5 #[vR ac, vI 2, vR ab, vI 2, vI 4, vI 2, vI q2] [(.int 2)] _
        refine XS.iload X17.here hx rfl (hb hby d15_5) rfl ?_
        show At p e below T17 m 7 #[vR ac, vI 2, vR ab, vI 2, vI 4, vI 2, vI q2] [(.int 4), (.int 2)] _
        refine XS.icmpNo X17.here hx rfl (hb hby d15_7) rfl (tlt (by decide : (2 : Int32) < (4 : Int32))).2.1 ?_
        show At p e below T17 m 10 #[vR ac, vI 2, vR ab, vI 2, vI 4, vI 2, vI q2] [] _
        refine XS.aloadN X17.here hx rfl (hb hby d15_10) rfl rfl ?_
        show At p e below T17 m 11 #[vR ac, vI 2, vR ab, vI 2, vI 4, vI 2, vI q2] [(.ref ac)] _
        refine XS.iloadN X17.here hx rfl (hb hby d15_11) rfl ?_
        exact kt)
      have f20 := (f10.other W17 ncb)
      obtain ⟨cl21, Ar21, qk21, Sz21, Nn21, Hh21, Gg21⟩ := id f20
      have hin21 : ¬ ((2 : Int32) < 0 ∨ cl21.slots.size ≤ ((2 : Int32)).toNatClampNeg) := inb_of Sz21 ⟨by decide, by decide⟩
      have hat21 : cl21.slots[((2 : Int32)).toNatClampNeg]? = some (.int q3) := Hh21.at hin21 rfl
      have pre22 := fun t (kt : At p e below T17 m 20 #[vR ac, vI 2, vR ab, vI 2, vI 4, vI 2, vI q3] [(.int 255), (.int q3)] t) => pre19 t (by
        show At p e below T17 m 12 #[vR ac, vI 2, vR ab, vI 2, vI 4, vI 2, vI q2] [(.int 2), (.ref ac)] _
        refine X17.caload hx (j := (2 : Int32)) (v := (.int q3)) (by rw [e17]; exact Ar21.1) (State.isArrayOf_alike hZ.alike Ar21.2.1) Ar21.2.2 hin21 hat21 (g := (mkF m 12 #[vR ac, vI 2, vR ab, vI 2, vI 4, vI 2, vI q2] [(.int 2), (.ref ac)])) rfl rfl (hb hby d15_12) _ ?_
        show At p e below T17 m 13 #[vR ac, vI 2, vR ab, vI 2, vI 4, vI 2, vI q2] [(.int q3)] _
        refine XS.istore X17.here hx rfl (hb hby d15_13) rfl (l' := #[vR ac, vI 2, vR ab, vI 2, vI 4, vI 2, vI q3]) rfl ?_
        show At p e below T17 m 15 #[vR ac, vI 2, vR ab, vI 2, vI 4, vI 2, vI q3] [] _
        refine XS.iload X17.here hx rfl (hb hby d15_15) rfl ?_
        show At p e below T17 m 17 #[vR ac, vI 2, vR ab, vI 2, vI 4, vI 2, vI q3] [(.int q3)] _
        refine XS.sipush X17.here hx rfl (hb hby d15_17) ?_
        exact kt)
      by_cases k3 : (255 : Int32) < q3
      · have k23 : Keep h0 h17 [ab] := ((K0.wr W7 (Or.inl (List.mem_of_getElem? (i := 0) rfl))).wr W17 (Or.inl (List.mem_of_getElem? (i := 0) rfl)))
        have pre24 := fun t (kt : At p e below T17 m 25 #[vR ac, vI 2, vR ab, vI 2, vI 4, vI 2, vI q3] [(.int 2)] t) => pre22 t (by
          show At p e below T17 m 20 #[vR ac, vI 2, vR ab, vI 2, vI 4, vI 2, vI q3] [(.int 255), (.int q3)] _
          refine XS.icmpNo X17.here hx rfl (hb hby d15_20) rfl (tlt (k3 : (255 : Int32) < q3)).2.2.2 ?_
          show At p e below T17 m 23 #[vR ac, vI 2, vR ab, vI 2, vI 4, vI 2, vI q3] [] _
          refine XS.iload X17.here hx rfl (hb hby d15_23) rfl ?_
          exact kt)
        obtain ⟨fs, hr, hrun, hended, hW, hsame⟩ := X17.leave (v := (some (.int 2))) (fun h => by rw [Bd.returns] at h; cases h)
        refine ⟨_, _, pre24 _ ?_, hrun, hended, _, _, rfl, ?_, ⟨_, rfl⟩, hW, hsame.mono (by decide) (by decide)⟩
        · show At p e below T17 m 25 #[vR ac, vI 2, vR ab, vI 2, vI 4, vI 2, vI q3] [(.int 2)] _
          exact retI X17 hx Bd.returns (hb hby d15_25) hr
        · show Q15_4 Z ac kc ab kb q1 q2 q3 q4 h0 n0 _ T17.heap _
          rw [e17]
          exact ⟨_, rfl, N17, k23, Or.inr (Or.inr (Or.inr (Or.inl ⟨rfl, k3⟩)))⟩
      · obtain ⟨cl25, Ar25, qk25, Sz25, Nn25, Hh25, Gg25⟩ := id V17'
        have hin25 : ¬ ((2 : Int32) < 0 ∨ cl25.slots.size ≤ ((2 : Int32)).toNatClampNeg) := inb_of Sz25 ⟨by decide, by decide⟩
        have pre26 := fun t (kt : At p e below T17 m 31 #[vR ac, vI 2, vR ab, vI 2, vI 4, vI 2, vI q3] [(.int (q3.toInt8.toInt32)), (.int 2), (.ref ab)] t) => pre22 t (by
          show At p e below T17 m 20 #[vR ac, vI 2, vR ab, vI 2, vI 4, vI 2, vI q3] [(.int 255), (.int q3)] _
          refine XS.icmpYes X17.here hx rfl (pc0 := 20) (pc' := 26) rfl (hb hby d15_20) rfl (flt (k3 : ¬ ((255 : Int32) < q3))).2.2.2 (by decide) (by decide) ?_
          show At p e below T17 m 26 #[vR ac, vI 2, vR ab, vI 2, vI 4, vI 2, vI q3] [] _
          refine XS.aloadN X17.here hx rfl (hb hby d15_26) rfl rfl ?_
          show At p e below T17 m 27 #[vR ac, vI 2, vR ab, vI 2, vI 4, vI 2, vI q3] [(.ref ab)] _
          refine XS.iloadN X17.here hx rfl (hb hby d15_27) rfl ?_
          show At p e below T17 m 28 #[vR ac, vI 2, vR ab, vI 2, vI 4, vI 2, vI q3] [(.int 2), (.ref ab)] _
          refine XS.iload X17.here hx rfl (hb hby d15_28) rfl ?_
          show At p e below T17 m 30 #[vR ac, vI 2, vR ab, vI 2, vI 4, vI 2, vI q3] [(.int q3), (.int 2), (.ref ab)] _
          refine XS.i2b X17.here hx rfl (hb hby d15_30) rfl ?_
          exact kt)
        obtain ⟨T27, h27, X27, e27, W27, st27⟩ := stB X17 hx hZ e17 Ar25 (j := (2 : Int32)) hin25 (g := (mkF m 31 #[vR ac, vI 2, vR ab, vI 2, vI 4, vI 2, vI q3] [(.int (q3.toInt8.toInt32)), (.int 2), (.ref ab)])) rfl rfl (hb hby d15_31)
        have V27 := Arv.set Ar25 qk25 Sz25 Nn25 Hh25 Gg25 (fits_nar_byte _) W27 2 rfl (Nat.le_of_ble_eq_true rfl)
        have V27' : Arv Z h27 ab kb .byte (4 : Int32) [(.int (nar .byte (q1.toInt8.toInt32))), (.int (nar .byte (q2.toInt8.toInt32))), (.int (nar .byte (q3.toInt8.toInt32))), (.int 0)] (.int 0) := V27
        have N27 := Fr.snoc X27 N17 gb
        have pre28 := fun t (kt : At p e below T27 m 32 #[vR ac, vI 2, vR ab, vI 2, vI 4, vI 2, vI q3] [] t) => pre26 t (st27 _ kt)
        have pre29 := fun t (kt : At p e below T27 m 12 #[vR ac, vI 3, vR ab, vI 3, vI 4, vI 3, vI q3] [(.int 3), (.ref ac)] t) => pre28 t (by
          show At p e below T27 m 32 #[vR ac, vI 2, vR ab, vI 2, vI 4, vI 2, vI q3] [] _
          refine XS.iinc X27.here hx rfl (hb hby d15_32) rfl (l' := #[vR ac, .val (.int ((2 : Int32) + (1 : Int32))), vR ab, vI 2, vI 4, vI 2, vI q3]) rfl ?_
          show At p e below T27 m 35 #[vR ac, .val (.int ((2 : Int32) + (1 : Int32))), vR ab, vI 2, vI 4, vI 2, vI q3] [] _
          show At p e below T27 m 35 #[vR ac, vI 3, vR ab, vI 2, vI 4, vI 2, vI q3] [] _
          refine XS.iinc X27.here hx rfl (hb hby d15_35) rfl (l' := #[vR ac, vI 3, vR ab, .val (.int ((2 : Int32) + (1 : Int32))), vI 4, vI 2, vI q3]) rfl ?_
          show At p e below T27 m 38 #[vR ac, vI 3, vR ab, .val (.int ((2 : Int32) + (1 : Int32))), vI 4, vI 2, vI q3] [] _
          show At p e below T27 m 38 #[vR ac, vI 3, vR ab, vI 3, vI 4, vI 2, vI q3] [] _
          refine XS.iinc X27.here hx rfl (hb hby d15_38) rfl (l' := #[vR ac, vI 3, vR ab, vI 3, vI 4, .val (.int ((2 : Int32) + (1 : Int32))), vI q3]) rfl ?_
          show At p e below T27 m 41 #[vR ac, vI 3, vR ab, vI 3, vI 4, .val (.int ((2 : Int32) + (1 : Int32))), vI q3] [] _
          show At p e below T27 m 41 #[vR ac, vI 3, vR ab, vI 3, vI 4, vI 3, vI q3] [] _
          refine XS.goto X27.here hx rfl (pc0 := 41) (pc' := 3) rfl (hb hby d15_41) (by decide) (by decide) ?_
          show At p e below T27 m 3 #[vR ac, vI 3, vR ab, vI 3, vI 4, vI 3, vI q3] [] _
          refine XS.iload X27.here hx rfl (hb hby d15_3) rfl ?_
          show At p e below T27 m 5 #[vR ac, vI 3, vR ab, vI 3, vI 4, vI 3, vI q3] [(.int 3)] _
          refine XS.iload X27.here hx rfl (hb hby d15_5) rfl ?_
          show At p e below T27 m 7 #[vR ac, vI 3, vR ab, vI 3, vI 4, vI 3, vI q3] [(.int 4), (.int 3)] _
          refine XS.icmpNo X27.here hx rfl (hb hby d15_7) rfl (tlt (by decide : (3 : Int32) < (4 : Int32))).2.1 ?_
          show At p e below T27 m 10 #[vR ac, vI 3, vR ab, vI 3, vI 4, vI 3, vI q3] [] _
          refine XS.aloadN X27.here hx rfl (hb hby d15_10) rfl rfl ?_
          show At p e below T27 m 11 #[vR ac, vI 3, vR ab, vI 3, vI 4, vI 3, vI q3] [(.ref ac)] _
          refine XS.iloadN X27.here hx rfl (hb hby d15_11) rfl ?_
          exact kt)
        have f30 := (f20.other W27 ncb)
        obtain ⟨cl31, Ar31, qk31, Sz31, Nn31, Hh31, Gg31⟩ := id f30
        have hin31 : ¬ ((3 : Int32) < 0 ∨ cl31.slots.size ≤ ((3 : Int32)).toNatClampNeg) := inb_of Sz31 ⟨by decide, by decide⟩
        have hat31 : cl31.slots[((3 : Int32)).toNatClampNeg]? = some (.int q4) := Hh31.at hin31 rfl
        have pre32 := fun t (kt : At p e below T27 m 20 #[vR ac, vI 3, vR ab, vI 3, vI 4, vI 3, vI q4] [(.int 255), (.int q4)] t) => pre29 t (by
          show At p e below T27 m 12 #[vR ac, vI 3, vR ab, vI 3, vI 4, vI 3, vI q3] [(.int 3), (.ref ac)] _
          refine X27.caload hx (j := (3 : Int32)) (v := (.int q4)) (by rw [e27]; exact Ar31.1) (State.isArrayOf_alike hZ.alike Ar31.2.1) Ar31.2.2 hin31 hat31 (g := (mkF m 12 #[vR ac, vI 3, vR ab, vI 3, vI 4, vI 3, vI q3] [(.int 3), (.ref ac)])) rfl rfl (hb hby d15_12) _ ?_
          show At p e below T27 m 13 #[vR ac, vI 3, vR ab, vI 3, vI 4, vI 3, vI q3] [(.int q4)] _
          refine XS.istore X27.here hx rfl (hb hby d15_13) rfl (l' := #[vR ac, vI 3, vR ab, vI 3, vI 4, vI 3, vI q4]) rfl ?_
          show At p e below T27 m 15 #[vR ac, vI 3, vR ab, vI 3, vI 4, vI 3, vI q4] [] _
          refine XS.iload X27.here hx rfl (hb hby d15_15) rfl ?_
          show At p e below T27 m 17 #[vR ac, vI 3, vR ab, vI 3, vI 4, vI 3, vI q4] [(.int q4)] _
          refine XS.sipush X27.here hx rfl (hb hby d15_17) ?_
          exact kt)
        by_cases k4 : (255 : Int32) < q4
        · have k33 : Keep h0 h27 [ab] := (((K0.wr W7 (Or.inl (List.mem_of_getElem? (i := 0) rfl))).wr W17 (Or.inl (List.mem_of_getElem? (i := 0) rfl))).wr W27 (Or.inl (List.mem_of_getElem? (i := 0) rfl)))
          have pre34 := fun t (kt : At p e below T27 m 25 #[vR ac, vI 3, vR ab, vI 3, vI 4, vI 3, vI q4] [(.int 3)] t) => pre32 t (by
            show At p e below T27 m 20 #[vR ac, vI 3, vR ab, vI 3, vI 4, vI 3, vI q4] [(.int 255), (.int q4)] _
            refine XS.icmpNo X27.here hx rfl (hb hby d15_20) rfl (tlt (k4 : (255 : Int32) < q4)).2.2.2 ?_
            show At p e below T27 m 23 #[vR ac, vI 3, vR ab, vI 3, vI 4, vI 3, vI q4] [] _
            refine XS.iload X27.here hx rfl (hb hby d15_23) rfl ?_
            exact kt)
          obtain ⟨fs, hr, hrun, hended, hW, hsame⟩ := X27.leave (v := (some (.int 3))) (fun h => by rw [Bd.returns] at h; cases h)
          refine ⟨_, _, pre34 _ ?_, hrun, hended, _, _, rfl, ?_, ⟨_, rfl⟩, hW, hsame.mono (by decide) (by decide)⟩
          · show At p e below T27 m 25 #[vR ac, vI 3, vR ab, vI 3, vI 4, vI 3, vI q4] [(.int 3)] _
            exact retI X27 hx Bd.returns (hb hby d15_25) hr
          · show Q15_4 Z ac kc ab kb q1 q2 q3 q4 h0 n0 _ T27.heap _
            rw [e27]
            exact ⟨_, rfl, N27, k33, Or.inr (Or.inr (Or.inr (Or.inr (⟨rfl, k4⟩))))⟩
        · obtain ⟨cl35, Ar35, qk35, Sz35, Nn35, Hh35, Gg35⟩ := id V27'
          have hin35 : ¬ ((3 : Int32) < 0 ∨ cl35.slots.size ≤ ((3 : Int32)).toNatClampNeg) := inb_of Sz35 ⟨by decide, by decide⟩
          have pre36 := fun t (kt : At p e below T27 m 31 #[vR ac, vI 3, vR ab, vI 3, vI 4, vI 3, vI q4] [(.int (q4.toInt8.toInt32)), (.int 3), (.ref ab)] t) => pre32 t (by
            show At p e below T27 m 20 #[vR ac, vI 3, vR ab, vI 3, vI 4, vI 3, vI q4] [(.int 255), (.int q4)] _
            refine XS.icmpYes X27.here hx rfl (pc0 := 20) (pc' := 26) rfl (hb hby d15_20) rfl (flt (k4 : ¬ ((255 : Int32) < q4))).2.2.2 (by decide) (by decide) ?_
            show At p e below T27 m 26 #[vR ac, vI 3, vR ab, vI 3, vI 4, vI 3, vI q4] [] _
            refine XS.aloadN X27.here hx rfl (hb hby d15_26) rfl rfl ?_
            show At p e below T27 m 27 #[vR ac, vI 3, vR ab, vI 3, vI 4, vI 3, vI q4] [(.ref ab)] _
            refine XS.iloadN X27.here hx rfl (hb hby d15_27) rfl ?_
            show At p e below T27 m 28 #[vR ac, vI 3, vR ab, vI 3, vI 4, vI 3, vI q4] [(.int 3), (.ref ab)] _
            refine XS.iload X27.here hx rfl (hb hby d15_28) rfl ?_
            show At p e below T27 m 30 #[vR ac, vI 3, vR ab, vI 3, vI 4, vI 3, vI q4] [(.int q4), (.int 3), (.ref ab)] _
            refine XS.i2b X27.here hx rfl (hb hby d15_30) rfl ?_
            exact kt)
          obtain ⟨T37, h37, X37, e37, W37, st37⟩ := stB X27 hx hZ e27 Ar35 (j := (3 : Int32)) hin35 (g := (mkF m 31 #[vR ac, vI 3, vR ab, vI 3, vI 4, vI 3, vI q4] [(.int (q4.toInt8.toInt32)), (.int 3), (.ref ab)])) rfl rfl (hb hby d15_31)
          have V37 := Arv.set Ar35 qk35 Sz35 Nn35 Hh35 Gg35 (fits_nar_byte _) W37 3 rfl (Nat.le_of_ble_eq_true rfl)
          have V37' : Arv Z h37 ab kb .byte (4 : Int32) [(.int (nar .byte (q1.toInt8.toInt32))), (.int (nar .byte (q2.toInt8.toInt32))), (.int (nar .byte (q3.toInt8.toInt32))), (.int (nar .byte (q4.toInt8.toInt32)))] (.int 0) := V37
          have N37 := Fr.snoc X37 N27 gb
          have pre38 := fun t (kt : At p e below T37 m 32 #[vR ac, vI 3, vR ab, vI 3, vI 4, vI 3, vI q4] [] t) => pre36 t (st37 _ kt)
          have k39 : Keep h0 h37 [ab] := ((((K0.wr W7 (Or.inl (List.mem_of_getElem? (i := 0) rfl))).wr W17 (Or.inl (List.mem_of_getElem? (i := 0) rfl))).wr W27 (Or.inl (List.mem_of_getElem? (i := 0) rfl))).wr W37 (Or.inl (List.mem_of_getElem? (i := 0) rfl)))
          have pre40 := fun t (kt : At p e below T37 m 46 #[vR ac, vI 4, vR ab, vI 4, vI 4, vI 4, vI q4] [(.int 4)] t) => pre38 t (by
            show At p e below T37 m 32 #[vR ac, vI 3, vR ab, vI 3, vI 4, vI 3, vI q4] [] _
            refine XS.iinc X37.here hx rfl (hb hby d15_32) rfl (l' := #[vR ac, .val (.int ((3 : Int32) + (1 : Int32))), vR ab, vI 3, vI 4, vI 3, vI q4]) rfl ?_
            show At p e below T37 m 35 #[vR ac, .val (.int ((3 : Int32) + (1 : Int32))), vR ab, vI 3, vI 4, vI 3, vI q4] [] _
            show At p e below T37 m 35 #[vR ac, vI 4, vR ab, vI 3, vI 4, vI 3, vI q4] [] _
            refine XS.iinc X37.here hx rfl (hb hby d15_35) rfl (l' := #[vR ac, vI 4, vR ab, .val (.int ((3 : Int32) + (1 : Int32))), vI 4, vI 3, vI q4]) rfl ?_
            show At p e below T37 m 38 #[vR ac, vI 4, vR ab, .val (.int ((3 : Int32) + (1 : Int32))), vI 4, vI 3, vI q4] [] _
            show At p e below T37 m 38 #[vR ac, vI 4, vR ab, vI 4, vI 4, vI 3, vI q4] [] _
            refine XS.iinc X37.here hx rfl (hb hby d15_38) rfl (l' := #[vR ac, vI 4, vR ab, vI 4, vI 4, .val (.int ((3 : Int32) + (1 : Int32))), vI q4]) rfl ?_
            show At p e below T37 m 41 #[vR ac, vI 4, vR ab, vI 4, vI 4, .val (.int ((3 : Int32) + (1 : Int32))), vI q4] [] _
            show At p e below T37 m 41 #[vR ac, vI 4, vR ab, vI 4, vI 4, vI 4, vI q4] [] _
            refine XS.goto X37.here hx rfl (pc0 := 41) (pc' := 3) rfl (hb hby d15_41) (by decide) (by decide) ?_
            show At p e below T37 m 3 #[vR ac, vI 4, vR ab, vI 4, vI 4, vI 4, vI q4] [] _
            refine XS.iload X37.here hx rfl (hb hby d15_3) rfl ?_
            show At p e below T37 m 5 #[vR ac, vI 4, vR ab, vI 4, vI 4, vI 4, vI q4] [(.int 4)] _
            refine XS.iload X37.here hx rfl (hb hby d15_5) rfl ?_
            show At p e below T37 m 7 #[vR ac, vI 4, vR ab, vI 4, vI 4, vI 4, vI q4] [(.int 4), (.int 4)] _
            refine XS.icmpYes X37.here hx rfl (pc0 := 7) (pc' := 44) rfl (hb hby d15_7) rfl (flt (by decide : ¬ ((4 : Int32) < (4 : Int32)))).2.1 (by decide) (by decide) ?_
            show At p e below T37 m 44 #[vR ac, vI 4, vR ab, vI 4, vI 4, vI 4, vI q4] [] _
            refine XS.iload X37.here hx rfl (hb hby d15_44) rfl ?_
            exact kt)
          obtain ⟨fs, hr, hrun, hended, hW, hsame⟩ := X37.leave (v := (some (.int 4))) (fun h => by rw [Bd.returns] at h; cases h)
          refine ⟨_, _, pre40 _ ?_, hrun, hended, _, _, rfl, ?_, ⟨_, rfl⟩, hW, hsame.mono (by decide) (by decide)⟩
          · show At p e below T37 m 46 #[vR ac, vI 4, vR ab, vI 4, vI 4, vI 4, vI q4] [(.int 4)] _
            exact retI X37 hx Bd.returns (hb hby d15_46) hr
          · show Q15_4 Z ac kc ab kb q1 q2 q3 q4 h0 n0 _ T37.heap _
            rw [e37]
            exact ⟨_, rfl, N37, k39, Or.inl ⟨rfl, ⟨k1, k2, k3, k4, trivial⟩, V37'⟩⟩
theorem own_bad4 {r : Int32} {q1 : Int32} {q2 : Int32} {q3 : Int32} {q4 : Int32} (R1 : own_R q1) (R2 : own_R q2) (R3 : own_R q3) (R4 : own_R q4) (h : ((r = (0 : Int32) ∧ (255 : Int32) < q1) ∨ (r = (1 : Int32) ∧ (255 : Int32) < q2) ∨ (r = (2 : Int32) ∧ (255 : Int32) < q3) ∨ (r = (3 : Int32) ∧ (255 : Int32) < q4))) : ∃ u1 u2 : Int32, (¬ ((r <<< ((1 : Int32) &&& 31)) < 0) ∧ (r <<< ((1 : Int32) &&& 31)) < (8 : Int32)) ∧ (¬ (((r <<< ((1 : Int32) &&& 31)) + (1 : Int32)) < 0) ∧ ((r <<< ((1 : Int32) &&& 31)) + (1 : Int32)) < (8 : Int32)) ∧ ([(.int (nar .byte ((q1 >>> ((0 : Int32) &&& 31)).toInt8.toInt32))), (.int (nar .byte ((q1 >>> ((8 : Int32) &&& 31)).toInt8.toInt32))), (.int (nar .byte ((q2 >>> ((0 : Int32) &&& 31)).toInt8.toInt32))), (.int (nar .byte ((q2 >>> ((8 : Int32) &&& 31)).toInt8.toInt32))), (.int (nar .byte ((q3 >>> ((0 : Int32) &&& 31)).toInt8.toInt32))), (.int (nar .byte ((q3 >>> ((8 : Int32) &&& 31)).toInt8.toInt32))), (.int (nar .byte ((q4 >>> ((0 : Int32) &&& 31)).toInt8.toInt32))), (.int (nar .byte ((q4 >>> ((8 : Int32) &&& 31)).toInt8.toInt32)))] : List Value).getD ((r <<< ((1 : Int32) &&& 31))).toNatClampNeg (.int 0) = (.int u1) ∧ ([(.int (nar .byte ((q1 >>> ((0 : Int32) &&& 31)).toInt8.toInt32))), (.int (nar .byte ((q1 >>> ((8 : Int32) &&& 31)).toInt8.toInt32))), (.int (nar .byte ((q2 >>> ((0 : Int32) &&& 31)).toInt8.toInt32))), (.int (nar .byte ((q2 >>> ((8 : Int32) &&& 31)).toInt8.toInt32))), (.int (nar .byte ((q3 >>> ((0 : Int32) &&& 31)).toInt8.toInt32))), (.int (nar .byte ((q3 >>> ((8 : Int32) &&& 31)).toInt8.toInt32))), (.int (nar .byte ((q4 >>> ((0 : Int32) &&& 31)).toInt8.toInt32))), (.int (nar .byte ((q4 >>> ((8 : Int32) &&& 31)).toInt8.toInt32)))] : List Value).getD (((r <<< ((1 : Int32) &&& 31)) + (1 : Int32))).toNatClampNeg (.int 0) = (.int u2) ∧ (255 : Int32) < own_gc u1 u2 ∧ ¬ (r = (4 : Int32)) := by
  rcases h with ⟨rfl, k⟩ | ⟨rfl, k⟩ | ⟨rfl, k⟩ | ⟨rfl, k⟩
  · exact ⟨(nar .byte ((q1 >>> ((0 : Int32) &&& 31)).toInt8.toInt32)), (nar .byte ((q1 >>> ((8 : Int32) &&& 31)).toInt8.toInt32)), ⟨by decide, by decide⟩, ⟨by decide, by decide⟩, by rw [show ((0 : Int32) <<< ((1 : Int32) &&& 31)) = (0 : Int32) from by decide]; rfl, by rw [show (((0 : Int32) <<< ((1 : Int32) &&& 31)) + (1 : Int32)) = (1 : Int32) from by decide]; rfl, by rw [own_gcq R1]; exact k, by decide⟩
  · exact ⟨(nar .byte ((q2 >>> ((0 : Int32) &&& 31)).toInt8.toInt32)), (nar .byte ((q2 >>> ((8 : Int32) &&& 31)).toInt8.toInt32)), ⟨by decide, by decide⟩, ⟨by decide, by decide⟩, by rw [show ((1 : Int32) <<< ((1 : Int32) &&& 31)) = (2 : Int32) from by decide]; rfl, by rw [show (((1 : Int32) <<< ((1 : Int32) &&& 31)) + (1 : Int32)) = (3 : Int32) from by decide]; rfl, by rw [own_gcq R2]; exact k, by decide⟩
  · exact ⟨(nar .byte ((q3 >>> ((0 : Int32) &&& 31)).toInt8.toInt32)), (nar .byte ((q3 >>> ((8 : Int32) &&& 31)).toInt8.toInt32)), ⟨by decide, by decide⟩, ⟨by decide, by decide⟩, by rw [show ((2 : Int32) <<< ((1 : Int32) &&& 31)) = (4 : Int32) from by decide]; rfl, by rw [show (((2 : Int32) <<< ((1 : Int32) &&& 31)) + (1 : Int32)) = (5 : Int32) from by decide]; rfl, by rw [own_gcq R3]; exact k, by decide⟩
  · exact ⟨(nar .byte ((q4 >>> ((0 : Int32) &&& 31)).toInt8.toInt32)), (nar .byte ((q4 >>> ((8 : Int32) &&& 31)).toInt8.toInt32)), ⟨by decide, by decide⟩, ⟨by decide, by decide⟩, by rw [show ((3 : Int32) <<< ((1 : Int32) &&& 31)) = (6 : Int32) from by decide]; rfl, by rw [show (((3 : Int32) <<< ((1 : Int32) &&& 31)) + (1 : Int32)) = (7 : Int32) from by decide]; rfl, by rw [own_gcq R4]; exact k, by decide⟩
theorem ef_14_4 (m : MethodId) (ac : Addr) : entryFrame m #[(.ref ac), (.int 0), (.int 4)] 6 = (mkF m 0 #[vR ac, vI 0, vI 4, vU, vU, vU] []) := by first | (simp [entryFrame, mkF, argsToLocals, Value.category]; done) | rfl
def Q14_4 (Z : State) (ac : Addr) (kc : ClassId) (q1 : Int32) (q2 : Int32) (q3 : Int32) (q4 : Int32) (h0 : Heap) (n0 : Nat) (v : Option Value) (h : Heap) (L : List Loc) : Prop := ∃ (x : Addr) (kb : ClassId), v = some (.ref x) ∧ Fr n0 L ∧ Keep h0 h [] ∧ h0.size ≤ x ∧ n0 ≤ x ∧ (((¬ ((255 : Int32) < q1) ∧ ¬ ((255 : Int32) < q2) ∧ ¬ ((255 : Int32) < q3) ∧ ¬ ((255 : Int32) < q4) ∧ True) ∧ Arv Z h x kb .byte (4 : Int32) [(.int (nar .byte (q1.toInt8.toInt32))), (.int (nar .byte (q2.toInt8.toInt32))), (.int (nar .byte (q3.toInt8.toInt32))), (.int (nar .byte (q4.toInt8.toInt32)))] (.int 0)) ∨ Arv Z h x kb .byte (8 : Int32) [(.int (nar .byte ((q1 >>> ((0 : Int32) &&& 31)).toInt8.toInt32))), (.int (nar .byte ((q1 >>> ((8 : Int32) &&& 31)).toInt8.toInt32))), (.int (nar .byte ((q2 >>> ((0 : Int32) &&& 31)).toInt8.toInt32))), (.int (nar .byte ((q2 >>> ((8 : Int32) &&& 31)).toInt8.toInt32))), (.int (nar .byte ((q3 >>> ((0 : Int32) &&& 31)).toInt8.toInt32))), (.int (nar .byte ((q3 >>> ((8 : Int32) &&& 31)).toInt8.toInt32))), (.int (nar .byte ((q4 >>> ((0 : Int32) &&& 31)).toInt8.toInt32))), (.int (nar .byte ((q4 >>> ((8 : Int32) &&& 31)).toInt8.toInt32)))] (.int 0))
set_option maxRecDepth 65536 in
set_option maxHeartbeats 40000000 in
theorem rm14_4 (l : Launch) (Z : State) (a0 : Array Value) (hw : ∀ d ∈ tables_1, d.before a0 Z = true) (ws : List Jvm.Cond) (ac : Addr) (kc : ClassId) (q1 : Int32) (q2 : Int32) (q3 : Int32) (q4 : Int32) (h0 : Heap) (n0 : Nat) (O0 : Old Z n0 h0) (SA : Sta Z Z.heap "java/lang/StringUTF16" "$assertionsDisabled" "Z" (.int 1)) (SH : Sta Z Z.heap "java/lang/StringUTF16" "HI_BYTE_SHIFT" "I" (.int 0)) (SL : Sta Z Z.heap "java/lang/StringUTF16" "LO_BYTE_SHIFT" "I" (.int 8)) (Vc : Arv Z h0 ac kc .char (4 : Int32) [(.int q1), (.int q2), (.int q3), (.int q4)] (.int 0)) (R1 : own_R q1) (R2 : own_R q2) (R3 : own_R q3) (R4 : own_R q4) :
    MetFree l (⟨"java/lang/StringUTF16", "compress", "([CII)[B"⟩ : MethodName) (head1 (Jvm.Cond.code (⟨"java/lang/StringUTF16", "compress", "([CII)[B"⟩ : MethodName) jdk_52_method_16_code 6 (some (.array .byte)) :: ws) ({ frames := 3, cells := 2, slots := 12, locals := 40 } : Room)) (fun a U => a = #[(.ref ac), (.int 0), (.int 4)] ∧ Z.Warmed39 U.vm ∧ U.heap = h0) (fun _ _ _ _ _ => True) (fun _ U o U' => ∃ v L, o = .returned v ∧ Q14_4 Z ac kc q1 q2 q3 q4 h0 n0 v U'.heap L ∧ FrameEnd U o U' L ({ frames := 3, cells := 2, slots := 12, locals := 40 } : Room).cells ({ frames := 3, cells := 2, slots := 12, locals := 40 } : Room).slots) := by
  refine MetFree.of_bodySF (plainFor_of_name pn_3) hisR ?_
  intro p e s m args below meth c s₁ Bd hml0 hP hK
  obtain ⟨rfl, hZ, hh⟩ := hP
  have hx := Bd.exec
  have hby := Bd.bytes
  have hml : c.maxLocals = 6 := hml0
  have hown : s.vm.findClass "java/lang/StringUTF16" = some m.cls := findClass_of_methodNamed Bd.named
  have hnm := (name_of_methodNamed Bd.named Bd.method).1
  have X0 : Stand p l e ({ frames := 3, cells := 2, slots := 12, locals := 40 } : Room) s m #[(.ref ac), (.int 0), (.int 4)] below meth c s₁ [] 0 0 := Stand.of_body Bd
  have e0 : s₁.heap = h0 := by rw [← hh, Bd.state]; rfl
  have N0 := Fr.nil n0
  have Z0 : n0 ≤ h0.size := O0.1 ▸ O0.2.1
  have K0 : Keep h0 h0 [] := Keep.refl _ _
  have pre0 : ∀ t, At p e below s₁ m 0 #[vR ac, vI 0, vI 4, vU, vU, vU] [] t → Steps p.tables e below (s₁.setTop (entryFrame m #[(.ref ac), (.int 0), (.int 4)] 6)) t := fun t k => castTop (ef_14_4 m ac) k
  have pre1 := fun t (kt : At p e below s₁ m 1 #[vR ac, vI 0, vI 4, vU, vU, vU] [(.int 4)] t) => pre0 t (by
    show At p e below s₁ m 0 #[vR ac, vI 0, vI 4, vU, vU, vU] [] _
    refine XS.iloadN X0.here hx rfl (hb hby d14_0) rfl ?_
    exact kt)
  obtain ⟨T2, h2, k2, X2, e2, E2, A2, st2⟩ := newP X0 hx hZ (wd hw 17 rfl) e0 (g := (mkF m 1 #[vR ac, vI 0, vI 4, vU, vU, vU] [(.int 4)])) rfl (hb hby d14_1) rfl (by decide) (cap := 4) (by decide) (by decide) (by decide) (by decide)
  obtain ⟨b2, gq2⟩ : ∃ z, z = h0.size := ⟨_, rfl⟩
  rw [← gq2] at A2 st2
  have gg_b2 : n0 ≤ b2 := Nat.le_trans Z0 (Nat.le_of_eq gq2.symm)
  have sz_b2 : h0.size ≤ b2 := Nat.le_trans K0.1 (Nat.le_of_eq gq2.symm)
  have V2 : Arv Z h2 b2 k2 .byte (4 : Int32) [(.int 0), (.int 0), (.int 0), (.int 0)] (.int 0) := (Arv.new A2 (by decide)).pad (pad_rep [] (.int 0) 4)
  have pre3 := fun t (kt : At p e below T2 m 3 #[vR ac, vI 0, vI 4, vU, vU, vU] [(.ref b2)] t) => pre1 t (st2 _ kt)
  have z4 : n0 ≤ h2.size := (Nat.le_trans Z0 E2.1)
  have f5 := (Vc.ext E2)
  have pre6 := fun t (kt : At p e below T2 m 9 #[vR ac, vI 0, vI 4, vR b2, vU, vU] [(.int 4), (.int 0), (.ref b2), (.int 0), (.ref ac)] t) => pre3 t (by
    show At p e below T2 m 3 #[vR ac, vI 0, vI 4, vU, vU, vU] [(.ref b2)] _
    refine XS.astoreN X2.here hx rfl (hb hby d14_3) rfl rfl (l' := #[vR ac, vI 0, vI 4, vR b2, vU, vU]) rfl ?_
    show At p e below T2 m 4 #[vR ac, vI 0, vI 4, vR b2, vU, vU] [] _
    refine XS.aloadN X2.here hx rfl (hb hby d14_4) rfl rfl ?_
    show At p e below T2 m 5 #[vR ac, vI 0, vI 4, vR b2, vU, vU] [(.ref ac)] _
    refine XS.iloadN X2.here hx rfl (hb hby d14_5) rfl ?_
    show At p e below T2 m 6 #[vR ac, vI 0, vI 4, vR b2, vU, vU] [(.int 0), (.ref ac)] _
    refine XS.aloadN X2.here hx rfl (hb hby d14_6) rfl rfl ?_
    show At p e below T2 m 7 #[vR ac, vI 0, vI 4, vR b2, vU, vU] [(.ref b2), (.int 0), (.ref ac)] _
    refine XS.iconst X2.here hx rfl (hb hby d14_7) ?_
    show At p e below T2 m 8 #[vR ac, vI 0, vI 4, vR b2, vU, vU] [(.int 0), (.ref b2), (.int 0), (.ref ac)] _
    refine XS.iloadN X2.here hx rfl (hb hby d14_8) rfl ?_
    exact kt)
  obtain ⟨_, _, ⟨T7, L7, kc7, nc7⟩, -, X7, ⟨Lc7, hQ7, l7, y7, z7⟩, st7⟩ := Jvm.LawKit.callS X2 hx (y := (⟨"java/lang/StringUTF16", "compress", "([CI[BII)I"⟩ : MethodName)) hown (mvT hZ (wd hw 72 rfl)) (mvT hZ (wd hw 73 rfl)) (mvT hZ (wd hw 70 rfl)) (mvT hZ (wd hw 74 rfl)) (by decide) (backOf (W := 0) (rm15_4 l Z a0 hw [] ac kc b2 k2 q1 q2 q3 q4 h2 n0 z4 f5 V2 (Nat.ne_of_lt (Nat.lt_of_lt_of_le Vc.lt (Nat.le_of_eq gq2.symm))) gg_b2) hZ (wd hw 74 rfl) (wd hw 70 rfl) (by decide) (by decide)) (g := (mkF m 9 #[vR ac, vI 0, vI 4, vR b2, vU, vU] [(.int 4), (.int 0), (.ref b2), (.int 0), (.ref ac)])) rfl (by rw [hml]; rfl) (argsL := [(.ref ac), (.int 0), (.ref b2), (.int 0), (.int 4)]) (rest := []) (lenOf pd_3 rfl) rfl (by show 2 * 0 + _ ≤ _; exact Nat.le_of_eq rfl) (hb hby d14_9) (fun _ _ => ⟨rfl, e2, (by decide : 1 + 0 ≤ _), (by decide : 4 + 0 ≤ _)⟩)
  dsimp only [Pt.U, Pt.locs, Pt.cells, Pt.slots] at X7 l7 y7 z7 st7 hQ7
  subst l7 y7 z7
  obtain ⟨r7, rfl, N7q, K7, hr7⟩ := hQ7
  have N7 := Fr.app N0 N7q
  have pre8 := fun t (kt : At p e below T7 m 12 #[vR ac, vI 0, vI 4, vR b2, vU, vU] [(.int r7)] t) => pre6 t (st7 _ kt)
  rcases hr7 with ⟨er, kall, Va7⟩ | hbad
  · have k9 : Keep h0 T7.heap [] := ((K0.ext E2).trans K7 (allS (Or.inr sz_b2) all0))
    have pre10 := fun t (kt : At p e below T7 m 58 #[vR ac, vI 0, vI 4, vR b2, vI 4, vU] [(.ref b2)] t) => pre8 t (by
      show At p e below T7 m 12 #[vR ac, vI 0, vI 4, vR b2, vU, vU] [(.int r7)] _
      rw [show r7 = (4 : Int32) from er]
      show At p e below T7 m 12 #[vR ac, vI 0, vI 4, vR b2, vU, vU] [(.int 4)] _
      refine XS.istore X7.here hx rfl (hb hby d14_12) rfl (l' := #[vR ac, vI 0, vI 4, vR b2, vI 4, vU]) rfl ?_
      show At p e below T7 m 14 #[vR ac, vI 0, vI 4, vR b2, vI 4, vU] [] _
      refine XS.iload X7.here hx rfl (hb hby d14_14) rfl ?_
      show At p e below T7 m 16 #[vR ac, vI 0, vI 4, vR b2, vI 4, vU] [(.int 4)] _
      refine XS.iloadN X7.here hx rfl (hb hby d14_16) rfl ?_
      show At p e below T7 m 17 #[vR ac, vI 0, vI 4, vR b2, vI 4, vU] [(.int 4), (.int 4)] _
      refine XS.icmpYes X7.here hx rfl (pc0 := 17) (pc' := 57) rfl (hb hby d14_17) rfl (teq (by decide : (4 : Int32) = (4 : Int32))).1 (by decide) (by decide) ?_
      show At p e below T7 m 57 #[vR ac, vI 0, vI 4, vR b2, vI 4, vU] [] _
      refine XS.aloadN X7.here hx rfl (hb hby d14_57) rfl rfl ?_
      exact kt)
    obtain ⟨fs, hr, hrun, hended, hW, hsame⟩ := X7.leave (v := (some (.ref b2))) (fun h => by rw [Bd.returns] at h; cases h)
    refine ⟨_, _, pre10 _ ?_, hrun, hended, _, _, rfl, ?_, ⟨_, rfl⟩, hW, hsame.mono (by decide) (by decide)⟩
    · show At p e below T7 m 58 #[vR ac, vI 0, vI 4, vR b2, vI 4, vU] [(.ref b2)] _
      exact retOut X7 hx (t := (.array .byte)) Bd.returns rfl (Or.inr (Or.inr (Or.inr (Or.inr ⟨rfl, rfl, rfl⟩)))) (hb hby d14_58) hr
    · show Q14_4 Z ac kc q1 q2 q3 q4 h0 n0 _ T7.heap _
      exact ⟨_, _, rfl, N7, k9, sz_b2, gg_b2, Or.inl ⟨kall, Va7⟩⟩
  · obtain ⟨u1, u2, j1, j2, g1, g2, hgt, hne⟩ := own_bad4 R1 R2 R3 R4 hbad
    have o11 : Old Z n0 T7.heap := ((O0.ext E2).keep K7 (allS gg_b2 all0))
    have f12 := (f5.keep K7 (ninS (Nat.ne_of_lt (Nat.lt_of_lt_of_le Vc.lt (Nat.le_of_eq gq2.symm))) nin0))
    have pre13 := fun t (kt : At p e below T7 m 23 #[vR ac, vI 0, vI 4, vR b2, vI r7, vU] [(.int 4), (.int 0), (.ref ac)] t) => pre8 t (by
      show At p e below T7 m 12 #[vR ac, vI 0, vI 4, vR b2, vU, vU] [(.int r7)] _
      refine XS.istore X7.here hx rfl (hb hby d14_12) rfl (l' := #[vR ac, vI 0, vI 4, vR b2, vI r7, vU]) rfl ?_
      show At p e below T7 m 14 #[vR ac, vI 0, vI 4, vR b2, vI r7, vU] [] _
      refine XS.iload X7.here hx rfl (hb hby d14_14) rfl ?_
      show At p e below T7 m 16 #[vR ac, vI 0, vI 4, vR b2, vI r7, vU] [(.int r7)] _
      refine XS.iloadN X7.here hx rfl (hb hby d14_16) rfl ?_
      show At p e below T7 m 17 #[vR ac, vI 0, vI 4, vR b2, vI r7, vU] [(.int 4), (.int r7)] _
      refine XS.icmpNo X7.here hx rfl (hb hby d14_17) rfl (feq (hne : ¬ (r7 = (4 : Int32)))).1 ?_
      show At p e below T7 m 20 #[vR ac, vI 0, vI 4, vR b2, vI r7, vU] [] _
      refine XS.aloadN X7.here hx rfl (hb hby d14_20) rfl rfl ?_
      show At p e below T7 m 21 #[vR ac, vI 0, vI 4, vR b2, vI r7, vU] [(.ref ac)] _
      refine XS.iloadN X7.here hx rfl (hb hby d14_21) rfl ?_
      show At p e below T7 m 22 #[vR ac, vI 0, vI 4, vR b2, vI r7, vU] [(.int 0), (.ref ac)] _
      refine XS.iloadN X7.here hx rfl (hb hby d14_22) rfl ?_
      exact kt)
    have z14 : n0 ≤ T7.heap.size := (Nat.le_trans z4 K7.1)
    obtain ⟨_, _, ⟨T15, L15, kc15, nc15⟩, -, X15, ⟨Lc15, hQ15, l15, y15, z15⟩, st15⟩ := Jvm.LawKit.callS X7 hx (y := (⟨"java/lang/StringUTF16", "toBytes", "([CII)[B"⟩ : MethodName)) hown (mvT hZ (wd hw 85 rfl)) (mvT hZ (wd hw 86 rfl)) (mvT hZ (wd hw 70 rfl)) (mvT hZ (wd hw 87 rfl)) (by decide) (backOf (W := 0) (rm19_4 l Z a0 hw [] ac kc q1 q2 q3 q4 T7.heap n0 o11 SA SH SL f12) hZ (wd hw 87 rfl) (wd hw 70 rfl) (by decide) (by decide)) (g := (mkF m 23 #[vR ac, vI 0, vI 4, vR b2, vI r7, vU] [(.int 4), (.int 0), (.ref ac)])) rfl (by rw [hml]; rfl) (argsL := [(.ref ac), (.int 0), (.int 4)]) (rest := []) (lenOf pd_4 rfl) rfl (by show 2 * 0 + _ ≤ _; exact Nat.le_of_eq rfl) (hb hby d14_23) (fun _ _ => ⟨rfl, rfl, (by decide : 1 + 1 ≤ _), (by decide : 4 + 8 ≤ _)⟩)
    dsimp only [Pt.U, Pt.locs, Pt.cells, Pt.slots] at X15 l15 y15 z15 st15 hQ15
    subst l15 y15 z15
    obtain ⟨rfl, N15q, K15, kk15, Va15⟩ := hQ15
    have N15 := Fr.app N7 N15q
    obtain ⟨b15, gq15⟩ : ∃ z, z = T7.heap.size := ⟨_, rfl⟩
    rw [← gq15] at Va15 st15
    have gg_b15 : n0 ≤ b15 := Nat.le_trans z14 (Nat.le_of_eq gq15.symm)
    have k16 : Keep h0 T7.heap [] := ((K0.ext E2).trans K7 (allS (Or.inr sz_b2) all0))
    have sz_b15 : h0.size ≤ b15 := Nat.le_trans k16.1 (Nat.le_of_eq gq15.symm)
    have pre17 := fun t (kt : At p e below T15 m 26 #[vR ac, vI 0, vI 4, vR b2, vI r7, vU] [(.ref b15)] t) => pre13 t (st15 _ kt)
    have o18 : Old Z n0 T15.heap := (o11.keep K15 all0)
    have pre19 := fun t (kt : At p e below T15 m 32 #[vR ac, vI 0, vI 4, vR b2, vI r7, vR b15] [(.int r7), (.ref b15)] t) => pre17 t (by
      show At p e below T15 m 26 #[vR ac, vI 0, vI 4, vR b2, vI r7, vU] [(.ref b15)] _
      refine XS.astore X15.here hx rfl (hb hby d14_26) rfl rfl (l' := #[vR ac, vI 0, vI 4, vR b2, vI r7, vR b15]) rfl ?_
      show At p e below T15 m 28 #[vR ac, vI 0, vI 4, vR b2, vI r7, vR b15] [] _
      refine XS.aload X15.here hx rfl (hb hby d14_28) rfl rfl ?_
      show At p e below T15 m 30 #[vR ac, vI 0, vI 4, vR b2, vI r7, vR b15] [(.ref b15)] _
      refine XS.iload X15.here hx rfl (hb hby d14_30) rfl ?_
      exact kt)
    obtain ⟨_, _, ⟨T20, L20, kc20, nc20⟩, -, X20, ⟨Lc20, hQ20, l20, y20, z20⟩, st20⟩ := Jvm.LawKit.callS X15 hx (y := (⟨"java/lang/StringUTF16", "getChar", "([BI)C"⟩ : MethodName)) hown (mvT hZ (wd hw 101 rfl)) (mvT hZ (wd hw 102 rfl)) (mvT hZ (wd hw 70 rfl)) (mvT hZ (wd hw 103 rfl)) (by decide) (backOf (W := 0) (rm23 l Z a0 hw [] b15 kk15 (8 : Int32) _ r7 u1 u2 T15.heap n0 o18 SA SH SL Va15 j1 j2 g1 g2) hZ (wd hw 103 rfl) (wd hw 70 rfl) (by decide) (by decide)) (g := (mkF m 32 #[vR ac, vI 0, vI 4, vR b2, vI r7, vR b15] [(.int r7), (.ref b15)])) rfl (by rw [hml]; rfl) (argsL := [(.ref b15), (.int r7)]) (rest := []) (lenOf pd_5 rfl) rfl (by show 2 * 0 + _ ≤ _; exact Nat.le_of_eq rfl) (hb hby d14_32) (fun _ _ => ⟨rfl, rfl, (by decide : 2 + 0 ≤ _), (by decide : 12 + 0 ≤ _)⟩)
    dsimp only [Pt.U, Pt.locs, Pt.cells, Pt.slots] at X20 l20 y20 z20 st20 hQ20
    subst l20 y20 z20
    obtain ⟨rfl, N20q, he20⟩ := hQ20
    have N20 := Fr.app N15 N20q
    have pre21 := fun t (kt : At p e below T20 m 35 #[vR ac, vI 0, vI 4, vR b2, vI r7, vR b15] [(.int (own_gc u1 u2))] t) => pre19 t (st20 _ kt)
    have k22 : Keep h0 T15.heap [] := (k16.trans K15 all0)
    have pre23 := fun t (kt : At p e below T20 m 56 #[vR ac, vI 0, vI 4, vR b2, vI r7, vR b15] [(.ref b15)] t) => pre21 t (by
      show At p e below T20 m 35 #[vR ac, vI 0, vI 4, vR b2, vI r7, vR b15] [(.int (own_gc u1 u2))] _
      refine XS.sipush X20.here hx rfl (hb hby d14_35) ?_
      show At p e below T20 m 38 #[vR ac, vI 0, vI 4, vR b2, vI r7, vR b15] [(.int 255), (.int (own_gc u1 u2))] _
      refine XS.icmpYes X20.here hx rfl (pc0 := 38) (pc' := 54) rfl (hb hby d14_38) rfl (tlt (hgt : (255 : Int32) < (own_gc u1 u2))).2.2.1 (by decide) (by decide) ?_
      show At p e below T20 m 54 #[vR ac, vI 0, vI 4, vR b2, vI r7, vR b15] [] _
      refine XS.aload X20.here hx rfl (hb hby d14_54) rfl rfl ?_
      exact kt)
    obtain ⟨fs, hr, hrun, hended, hW, hsame⟩ := X20.leave (v := (some (.ref b15))) (fun h => by rw [Bd.returns] at h; cases h)
    refine ⟨_, _, pre23 _ ?_, hrun, hended, _, _, rfl, ?_, ⟨_, rfl⟩, hW, hsame.mono (by decide) (by decide)⟩
    · show At p e below T20 m 56 #[vR ac, vI 0, vI 4, vR b2, vI r7, vR b15] [(.ref b15)] _
      exact retOut X20 hx (t := (.array .byte)) Bd.returns rfl (Or.inr (Or.inr (Or.inr (Or.inr ⟨rfl, rfl, rfl⟩)))) (hb hby d14_56) hr
    · show Q14_4 Z ac kc q1 q2 q3 q4 h0 n0 _ T20.heap _
      rw [he20]
      exact ⟨_, _, rfl, N20, k22, sz_b15, gg_b15, Or.inr Va15⟩
theorem ef_16 (m : MethodId) (ab : Addr) (p1 : Int32) : entryFrame m #[(.ref ab), (.int p1)] 2 = (mkF m 0 #[vR ab, vI p1] []) := by first | (simp [entryFrame, mkF, argsToLocals, Value.category]; done) | rfl
theorem d16_0 : decode jdk_52_method_15_code 0 = .ok (.iload_n 1, 1) := by decide +kernel
theorem d16_1 : decode jdk_52_method_15_code 1 = .ok (.aload_n 0, 1) := by decide +kernel
theorem d16_2 : decode jdk_52_method_15_code 2 = .ok (.arraylength, 1) := by decide +kernel
theorem d16_3 : decode jdk_52_method_15_code 3 = .ok (.isub, 1) := by decide +kernel
theorem d16_4 : decode jdk_52_method_15_code 4 = .ok (.bipush 31, 2) := by decide +kernel
theorem d16_6 : decode jdk_52_method_15_code 6 = .ok (.iushr, 1) := by decide +kernel
theorem d16_7 : decode jdk_52_method_15_code 7 = .ok (.i2b, 1) := by decide +kernel
theorem d16_8 : decode jdk_52_method_15_code 8 = .ok (.ireturn, 1) := by decide +kernel
def Q16 (Z : State) (ab : Addr) (kb : ClassId) (vs : List Value) (p1 : Int32) (z : Int32) (r : Int32) (h0 : Heap) (n0 : Nat) (v : Option Value) (h : Heap) (L : List Loc) : Prop := v = some (.int r) ∧ Fr n0 L ∧ h = h0
set_option maxRecDepth 65536 in
set_option maxHeartbeats 40000000 in
theorem rm16 (l : Launch) (Z : State) (a0 : Array Value) (hw : ∀ d ∈ tables_1, d.before a0 Z = true) (ws : List Jvm.Cond) (ab : Addr) (kb : ClassId) (vs : List Value) (p1 : Int32) (z : Int32) (r : Int32) (h0 : Heap) (n0 : Nat) (Z0 : n0 ≤ h0.size) (Vb : Arv Z h0 ab kb .byte z vs (.int 0)) (hrr : nar .byte ((((p1 - z).toUInt32 >>> ((31 : Int32) &&& 31).toUInt32).toInt32).toInt8.toInt32) = r) :
    MetFree l (⟨"java/lang/StringUTF16", "coderFromArrayLen", "([BI)B"⟩ : MethodName) (head1 (Jvm.Cond.code (⟨"java/lang/StringUTF16", "coderFromArrayLen", "([BI)B"⟩ : MethodName) jdk_52_method_15_code 2 (some .byte) :: ws) ({ frames := 0, cells := 0, slots := 0, locals := 0 } : Room)) (fun a U => a = #[(.ref ab), (.int p1)] ∧ Z.Warmed39 U.vm ∧ U.heap = h0) (fun _ _ _ _ _ => True) (fun _ U o U' => ∃ v L, o = .returned v ∧ Q16 Z ab kb vs p1 z r h0 n0 v U'.heap L ∧ FrameEnd U o U' L ({ frames := 0, cells := 0, slots := 0, locals := 0 } : Room).cells ({ frames := 0, cells := 0, slots := 0, locals := 0 } : Room).slots) := by
  refine MetFree.of_bodySF (plainFor_of_name pn_3) hisR ?_
  intro p e s m args below meth c s₁ Bd hml0 hP hK
  obtain ⟨rfl, hZ, hh⟩ := hP
  have hx := Bd.exec
  have hby := Bd.bytes
  have hml : c.maxLocals = 2 := hml0
  have hown : s.vm.findClass "java/lang/StringUTF16" = some m.cls := findClass_of_methodNamed Bd.named
  have hnm := (name_of_methodNamed Bd.named Bd.method).1
  have X0 : Stand p l e ({ frames := 0, cells := 0, slots := 0, locals := 0 } : Room) s m #[(.ref ab), (.int p1)] below meth c s₁ [] 0 0 := Stand.of_body Bd
  have e0 : s₁.heap = h0 := by rw [← hh, Bd.state]; rfl
  have N0 := Fr.nil n0
  have pre0 : ∀ t, At p e below s₁ m 0 #[vR ab, vI p1] [] t → Steps p.tables e below (s₁.setTop (entryFrame m #[(.ref ab), (.int p1)] 2)) t := fun t k => castTop (ef_16 m ab p1) k
  have pre1 := fun t (kt : At p e below s₁ m 2 #[vR ab, vI p1] [(.ref ab), (.int p1)] t) => pre0 t (by
    show At p e below s₁ m 0 #[vR ab, vI p1] [] _
    refine XS.iloadN X0.here hx rfl (hb hby d16_0) rfl ?_
    show At p e below s₁ m 1 #[vR ab, vI p1] [(.int p1)] _
    refine XS.aloadN X0.here hx rfl (hb hby d16_1) rfl rfl ?_
    exact kt)
  obtain ⟨cl2, Ar2, qk2, Sz2, Nn2, Hh2, Gg2⟩ := id Vb
  have pre3 := fun t (kt : At p e below s₁ m 8 #[vR ab, vI p1] [(.int ((((p1 - z).toUInt32 >>> ((31 : Int32) &&& 31).toUInt32).toInt32).toInt8.toInt32))] t) => pre1 t (by
    show At p e below s₁ m 2 #[vR ab, vI p1] [(.ref ab), (.int p1)] _
    refine X0.arraylength hx (by rw [e0]; exact Ar2.1) (State.isArrayOf_alike hZ.alike Ar2.2.1) (g := (mkF m 2 #[vR ab, vI p1] [(.ref ab), (.int p1)])) rfl rfl (hb hby d16_2) _ ?_
    rw [len_of Sz2 Nn2]
    show At p e below s₁ m 3 #[vR ab, vI p1] [(.int z), (.int p1)] _
    refine XS.isub X0.here hx rfl (hb hby d16_3) rfl ?_
    show At p e below s₁ m 4 #[vR ab, vI p1] [(.int (p1 - z))] _
    refine XS.bipush X0.here hx rfl (hb hby d16_4) ?_
    show At p e below s₁ m 6 #[vR ab, vI p1] [(.int 31), (.int (p1 - z))] _
    refine XS.iushr X0.here hx rfl (hb hby d16_6) rfl ?_
    show At p e below s₁ m 7 #[vR ab, vI p1] [(.int (((p1 - z).toUInt32 >>> ((31 : Int32) &&& 31).toUInt32).toInt32))] _
    refine XS.i2b X0.here hx rfl (hb hby d16_7) rfl ?_
    exact kt)
  obtain ⟨fs, hr, hrun, hended, hW, hsame⟩ := X0.leave (v := (some (.int (nar .byte ((((p1 - z).toUInt32 >>> ((31 : Int32) &&& 31).toUInt32).toInt32).toInt8.toInt32))))) (fun h => by rw [Bd.returns] at h; cases h)
  refine ⟨_, _, pre3 _ ?_, hrun, hended, _, _, rfl, ?_, ⟨_, rfl⟩, hW, hsame.mono (by decide) (by decide)⟩
  · show At p e below s₁ m 8 #[vR ab, vI p1] [(.int ((((p1 - z).toUInt32 >>> ((31 : Int32) &&& 31).toUInt32).toInt32).toInt8.toInt32))] _
    exact retN X0 hx (t := .byte) Bd.returns (by simp) (hb hby d16_8) hr
  · show Q16 Z ab kb vs p1 z r h0 n0 _ s₁.heap _
    rw [e0]
    exact ⟨by rw [← hrr], N0, rfl⟩
theorem pn_4 : plainName "java/lang/String" = true := by first | (simp [plainName, overriddenIn]; done) | decide +kernel
theorem ef_2_0 (m : MethodId) (a1 : Addr) (ac : Addr) : entryFrame m #[(.ref a1), (.ref ac), (.int 0), (.int 0), .null] 6 = (mkF m 0 #[vR a1, vR ac, vI 0, vI 0, .val .null, vU] []) := by first | (simp [entryFrame, mkF, argsToLocals, Value.category]; done) | rfl
theorem d2_0 : decode jdk_42_method_149_code 0 = .ok (.aload_n 0, 1) := by decide +kernel
theorem d2_1 : decode jdk_42_method_149_code 1 = .ok (.invokespecial 1, 3) := by decide +kernel
theorem d2_4 : decode jdk_42_method_149_code 4 = .ok (.iload_n 3, 1) := by decide +kernel
theorem d2_5 : decode jdk_42_method_149_code 5 = .ok (.ifCond .ne 22, 3) := by decide +kernel
theorem d2_8 : decode jdk_42_method_149_code 8 = .ok (.aload_n 0, 1) := by decide +kernel
theorem d2_9 : decode jdk_42_method_149_code 9 = .ok (.ldc 7, 2) := by decide +kernel
theorem d2_11 : decode jdk_42_method_149_code 11 = .ok (.getfield 9, 3) := by decide +kernel
theorem d2_14 : decode jdk_42_method_149_code 14 = .ok (.putfield 9, 3) := by decide +kernel
theorem d2_17 : decode jdk_42_method_149_code 17 = .ok (.aload_n 0, 1) := by decide +kernel
theorem d2_18 : decode jdk_42_method_149_code 18 = .ok (.ldc 7, 2) := by decide +kernel
theorem d2_20 : decode jdk_42_method_149_code 20 = .ok (.getfield 15, 3) := by decide +kernel
theorem d2_23 : decode jdk_42_method_149_code 23 = .ok (.putfield 15, 3) := by decide +kernel
theorem d2_26 : decode jdk_42_method_149_code 26 = .ok (.return_, 1) := by decide +kernel
def Q2_0 (Z : State) (a1 : Addr) (ac : Addr) (h0 : Heap) (n0 : Nat) (v : Option Value) (h : Heap) (L : List Loc) : Prop := v = none ∧ Fr n0 L ∧ Keep h0 h [a1] ∧ own_str Z h a1 (0 : Int32) (0 : Int32) [] [] (True) False
set_option maxRecDepth 65536 in
set_option maxHeartbeats 40000000 in
theorem rm2_0 (l : Launch) (Z : State) (a0 : Array Value) (hw : ∀ d ∈ tables_1, d.before a0 Z = true) (ws : List Jvm.Cond) (a1 : Addr) (ac : Addr) (h0 : Heap) (n0 : Nat) (Z0 : n0 ≤ h0.size) (E1 : Exa Z h0 a1 "java/lang/String") (Fv : Fld Z h0 a1 "java/lang/String" "value" "[B" .null) (Fc : Fld Z h0 a1 "java/lang/String" "coder" "B" (.int 0)) (g1 : n0 ≤ a1) :
    MetFree l (⟨"java/lang/String", "<init>", "([CIILjava/lang/Void;)V"⟩ : MethodName) (head1 (Jvm.Cond.code (⟨"java/lang/String", "<init>", "([CIILjava/lang/Void;)V"⟩ : MethodName) jdk_42_method_149_code 6 none :: ws) ({ frames := 1, cells := 4, slots := 8, locals := 12 } : Room)) (fun a U => a = #[(.ref a1), (.ref ac), (.int 0), (.int 0), .null] ∧ Z.Warmed39 U.vm ∧ U.heap = h0 ∧ CHv Z [("java/lang/String", (7 : Nat))] U.vm h0) (fun _ _ _ _ _ => True) (fun _ U o U' => ∃ v L, o = .returned v ∧ Q2_0 Z a1 ac h0 n0 v U'.heap L ∧ CHr Z [("java/lang/String", (7 : Nat))] U.vm U.heap U'.vm U'.heap ∧ ReturnedEndW U o U' L ({ frames := 1, cells := 4, slots := 8, locals := 12 } : Room).cells ({ frames := 1, cells := 4, slots := 8, locals := 12 } : Room).slots) := by
  refine MetFree.of_bodySF (plainFor_of_name pn_4) hisR ?_
  intro p e s m args below meth c s₁ Bd hml0 hP hK
  obtain ⟨rfl, hZ, hh, hC0⟩ := hP
  have hx := Bd.exec
  have hby := Bd.bytes
  have hml : c.maxLocals = 6 := hml0
  have hown : s.vm.findClass "java/lang/String" = some m.cls := findClass_of_methodNamed Bd.named
  have hnm := (name_of_methodNamed Bd.named Bd.method).1
  have X0 : Stand p l e ({ frames := 1, cells := 4, slots := 8, locals := 12 } : Room) (s.setVm s.vm) m #[(.ref a1), (.ref ac), (.int 0), (.int 0), .null] below meth c s₁ [] 0 0 := Stand.of_body Bd
  have e0 : s₁.heap = h0 := by rw [← hh, Bd.state]; rfl
  have N0 := Fr.nil n0
  have hS := (State.WarmedH.refl s).since s₁.heap.size
  have hk : s₁.heap.size ≤ h0.size := Nat.le_of_eq (congrArg Array.size e0)
  have wS : ∀ a ∈ Bundle.stringAtoms, a.before a0 Z = true := own_wS hw
  have hEL : EW Z a0 [("java/lang/String", (7 : Nat))] := own_EL hw
  have CR0 := CHr.refl hC0
  have K0 : Keep h0 h0 [a1] := Keep.refl _ _
  have pre0 : ∀ t, At p e below s₁ m 0 #[vR a1, vR ac, vI 0, vI 0, .val .null, vU] [] t → Steps p.tables e below (s₁.setTop (entryFrame m #[(.ref a1), (.ref ac), (.int 0), (.int 0), .null] 6)) t := fun t k => castTop (ef_2_0 m a1 ac) k
  have Sa1 : Safe Z [("java/lang/String", (7 : Nat))] s.vm h0 a1 := own_safe hZ.alike E1 Fv
  have pre1 := fun t (kt : At p e below s₁ m 1 #[vR a1, vR ac, vI 0, vI 0, .val .null, vU] [(.ref a1)] t) => pre0 t (by
    show At p e below s₁ m 0 #[vR a1, vR ac, vI 0, vI 0, .val .null, vU] [] _
    refine XS.aloadN X0.here hx rfl (hb hby d2_0) rfl rfl ?_
    exact kt)
  obtain ⟨T2, X2, e2, st2⟩ := initO X0 hx hZ hown (wd hw 13 rfl) (wd hw 14 rfl) (wd hw 15 rfl) e0 (g := (mkF m 1 #[vR a1, vR ac, vI 0, vI 0, .val .null, vU] [(.ref a1)])) rfl (by rw [hml]; rfl) rfl (hb hby d2_1) (by decide) (W := 0) (by show 2 * 0 + _ ≤ _; exact Nat.le_of_eq rfl) (by decide)
  have pre3 := fun t (kt : At p e below T2 m 4 #[vR a1, vR ac, vI 0, vI 0, .val .null, vU] [] t) => pre1 t (st2 _ kt)
  have pre4 := fun t (kt : At p e below T2 m 9 #[vR a1, vR ac, vI 0, vI 0, .val .null, vU] [(.ref a1)] t) => pre3 t (by
    show At p e below T2 m 4 #[vR a1, vR ac, vI 0, vI 0, .val .null, vU] [] _
    refine XS.iloadN X2.here hx rfl (hb hby d2_4) rfl ?_
    show At p e below T2 m 5 #[vR a1, vR ac, vI 0, vI 0, .val .null, vU] [(.int 0)] _
    refine XS.ifNo X2.here hx rfl (hb hby d2_5) rfl ((if0 _ _).trans (teq (by decide : (0 : Int32) = (0 : Int32))).2) ?_
    show At p e below T2 m 8 #[vR a1, vR ac, vI 0, vI 0, .val .null, vU] [] _
    refine XS.aloadN X2.here hx rfl (hb hby d2_8) rfl rfl ?_
    exact kt)
  obtain ⟨sa5, T5, h5, k5, vb5, kb5, X5, e5, E5, hS5, hk5, hZ5, hown5, Ex5, Fc5, Fv5, Va5, la5, lb5, C5, Li5, Sf5, st5⟩ := ldcCH X2 hx hZ hown (wd hw 16 rfl) wS e2 hS hk hEL (by simp) CR0.1 (vs := []) (z := (0 : Int32)) ⟨(by first | decide | simp | decide +kernel), (by first | rfl | decide | simp | decide +kernel)⟩ (by decide) (by decide) (g := (mkF m 9 #[vR a1, vR ac, vI 0, vI 0, .val .null, vU] [(.ref a1)])) rfl (hb hby d2_9) (n := 0) (by decide) (by decide) (by decide) (by decide)
  have hZ := hZ5
  have hown := hown5
  have hS := hS5
  have CR6 := CR0.trans C5
  have sf7 := CHr.safe C5 E1.lt Sa1
  have pre8 := fun t (kt : At p e below T5 m 11 #[vR a1, vR ac, vI 0, vI 0, .val .null, vU] [(.ref sa5), (.ref a1)] t) => pre4 t (st5 _ kt)
  obtain ⟨T9, X9, e9, st9⟩ := getF X5 hx hZ hown (host := "") (Or.inl (wd hw 22 rfl)) Via.refl e5 Fv5 (g := (mkF m 11 #[vR a1, vR ac, vI 0, vI 0, .val .null, vU] [(.ref sa5), (.ref a1)])) rfl rfl (hb hby d2_11)
  have pre10 := fun t (kt : At p e below T9 m 14 #[vR a1, vR ac, vI 0, vI 0, .val .null, vU] [(.ref vb5), (.ref a1)] t) => pre8 t (st9 _ kt)
  have f11 := (Fv.ext E5)
  have f12 := (E1.ext E5)
  obtain ⟨T13, h13, X13, e13, W13, st13⟩ := putF X9 hx hZ hown (host := "") (Or.inl (wd hw 22 rfl)) Via.refl e9 f11 f12 (Or.inr ⟨(wd hw 18 rfl), rfl, hnm⟩) (wd hw 4 rfl) (ty := (.array .byte)) (by decide) rfl rfl (g := (mkF m 14 #[vR a1, vR ac, vI 0, vI 0, .val .null, vU] [(.ref vb5), (.ref a1)])) rfl rfl (hb hby d2_14)
  have Fw13 := f11.same W13
  have N13 := Fr.snoc X13 N0 g1
  have pre14 := fun t (kt : At p e below T13 m 17 #[vR a1, vR ac, vI 0, vI 0, .val .null, vU] [] t) => pre10 t (st13 _ kt)
  have pre15 := fun t (kt : At p e below T13 m 18 #[vR a1, vR ac, vI 0, vI 0, .val .null, vU] [(.ref a1)] t) => pre14 t (by
    show At p e below T13 m 17 #[vR a1, vR ac, vI 0, vI 0, .val .null, vU] [] _
    refine XS.aloadN X13.here hx rfl (hb hby d2_17) rfl rfl ?_
    exact kt)
  have CR16 := CR6.trans (CHr.wr W13 sf7 CR6.1)
  have sf17 := Safe.wr W13 sf7 CR6.1 sf7
  have hk18 := (Nat.le_trans hk5 (Keep.of_wr W13).1)
  obtain ⟨sa19, T19, h19, k19, vb19, kb19, X19, e19, E19, hS19, hk19, hZ19, hown19, Ex19, Fc19, Fv19, Va19, la19, lb19, C19, Li19, Sf19, st19⟩ := ldcCH X13 hx hZ hown (wd hw 16 rfl) wS e13 hS hk18 hEL (by simp) CR16.1 (vs := []) (z := (0 : Int32)) ⟨(by first | decide | simp | decide +kernel), (by first | rfl | decide | simp | decide +kernel)⟩ (by decide) (by decide) (g := (mkF m 18 #[vR a1, vR ac, vI 0, vI 0, .val .null, vU] [(.ref a1)])) rfl (hb hby d2_18) (n := 0) (by decide) (by decide) (by decide) (by decide)
  have hZ := hZ19
  have hown := hown19
  have hS := hS19
  have CR20 := CR16.trans C19
  have sf21 := CHr.safe C19 (f12.wr W13).lt sf17
  have pre22 := fun t (kt : At p e below T19 m 20 #[vR a1, vR ac, vI 0, vI 0, .val .null, vU] [(.ref sa19), (.ref a1)] t) => pre15 t (st19 _ kt)
  obtain ⟨T23, X23, e23, st23⟩ := getF X19 hx hZ hown (host := "") (Or.inl (wd hw 23 rfl)) Via.refl e19 Fc19 (g := (mkF m 20 #[vR a1, vR ac, vI 0, vI 0, .val .null, vU] [(.ref sa19), (.ref a1)])) rfl rfl (hb hby d2_20)
  have pre24 := fun t (kt : At p e below T23 m 23 #[vR a1, vR ac, vI 0, vI 0, .val .null, vU] [(.int 0), (.ref a1)] t) => pre22 t (st23 _ kt)
  have f25 := (((Fc.ext E5).other W13 (Or.inr (slot_ne (Or.inr (wd hw 19 rfl)) (Or.inr (wd hw 18 rfl)) (by decide) (t := .byte) (t' := (.array .byte)) (by decide) (by decide)))).ext E19)
  have f26 := ((f12.wr W13).ext E19)
  obtain ⟨T27, h27, X27, e27, W27, st27⟩ := putFN X23 hx hZ hown (wd hw 23 rfl) Via.refl e23 f25 f26 (Or.inr ⟨(wd hw 19 rfl), rfl, hnm⟩) (wd hw 4 rfl) (ty := .byte) (v' := (.int (nar .byte (0 : Int32)))) (by decide) rfl (fits_nar_byte _) (g := (mkF m 23 #[vR a1, vR ac, vI 0, vI 0, .val .null, vU] [(.int 0), (.ref a1)])) rfl rfl (hb hby d2_23)
  have Fw27 := f25.same W27
  have N27 := Fr.snoc X27 N13 g1
  have pre28 := fun t (kt : At p e below T27 m 26 #[vR a1, vR ac, vI 0, vI 0, .val .null, vU] [] t) => pre24 t (st27 _ kt)
  have k29 : Keep h0 h27 [a1] := ((((K0.ext E5).wr W13 (Or.inl (List.mem_of_getElem? (i := 0) rfl))).ext E19).wr W27 (Or.inl (List.mem_of_getElem? (i := 0) rfl)))
  have f30 := (f26.wr W27)
  have f31 := ((Fw13.ext E19).other W27 (Or.inr (slot_ne (Or.inr (wd hw 18 rfl)) (Or.inr (wd hw 19 rfl)) (by decide) (t := (.array .byte)) (t' := .byte) (by decide) (by decide))))
  have f32 := (((Va5.other W13 (Ne.symm (Sf5 _ sf7).2)).ext E19).other W27 (Ne.symm (Sf5 _ sf7).2))
  have hk33 := (Nat.le_trans hk19 (Keep.of_wr W27).1)
  obtain ⟨fs, hr, hrun, hended, -, hW, hI, hsame⟩ := X27.leaveW hS (e27.symm ▸ hk33) (v := none) (fun _ => rfl)
  have CR34 := CR20.trans (CHr.wr W27 sf21 CR20.1)
  have sf35 := Safe.wr W27 sf21 CR20.1 sf21
  have Cend := CR34.trans (CHv.at X27 hZ hEL CR34.1)
  refine ⟨_, _, pre28 _ ?_, hrun, hended, _, _, rfl, ?_, ?_, ⟨_, rfl⟩, hW, hI, hsame.mono (by decide) (by decide)⟩
  · show At p e below T27 m 26 #[vR a1, vR ac, vI 0, vI 0, .val .null, vU] [] _
    exact X27.returnOut hx Bd.returns (hb hby d2_26) hr
  · show Q2_0 Z a1 ac h0 n0 _ T27.heap _
    rw [e27]
    exact ⟨rfl, N27, k29, f30, _, _, f31, Or.inl ⟨trivial, Fw27, f32⟩⟩
  · show CHr Z [("java/lang/String", (7 : Nat))] s.vm s.heap T27.vm T27.heap
    rw [hh, e27]
    exact Cend
theorem ef_2_1 (m : MethodId) (a1 : Addr) (ac : Addr) : entryFrame m #[(.ref a1), (.ref ac), (.int 0), (.int 1), .null] 6 = (mkF m 0 #[vR a1, vR ac, vI 0, vI 1, .val .null, vU] []) := by first | (simp [entryFrame, mkF, argsToLocals, Value.category]; done) | rfl
theorem d2_27 : decode jdk_42_method_149_code 27 = .ok (.getstatic 38, 3) := by decide +kernel
theorem d2_30 : decode jdk_42_method_149_code 30 = .ok (.ifCond .eq 28, 3) := by decide +kernel
theorem d2_33 : decode jdk_42_method_149_code 33 = .ok (.aload_n 1, 1) := by decide +kernel
theorem d2_34 : decode jdk_42_method_149_code 34 = .ok (.iload_n 2, 1) := by decide +kernel
theorem d2_35 : decode jdk_42_method_149_code 35 = .ok (.iload_n 3, 1) := by decide +kernel
theorem d2_36 : decode jdk_42_method_149_code 36 = .ok (.invokestatic 177, 3) := by decide +kernel
theorem d2_39 : decode jdk_42_method_149_code 39 = .ok (.astore 5, 2) := by decide +kernel
theorem d2_41 : decode jdk_42_method_149_code 41 = .ok (.aload_n 0, 1) := by decide +kernel
theorem d2_42 : decode jdk_42_method_149_code 42 = .ok (.aload 5, 2) := by decide +kernel
theorem d2_44 : decode jdk_42_method_149_code 44 = .ok (.iload_n 3, 1) := by decide +kernel
theorem pd_6 : parseMethodDescriptor "([BI)B" = some ⟨[(.array .byte), .int], some .byte⟩ := by decide +kernel
theorem d2_45 : decode jdk_42_method_149_code 45 = .ok (.invokestatic 47, 3) := by decide +kernel
theorem d2_48 : decode jdk_42_method_149_code 48 = .ok (.putfield 15, 3) := by decide +kernel
theorem d2_51 : decode jdk_42_method_149_code 51 = .ok (.aload_n 0, 1) := by decide +kernel
theorem d2_52 : decode jdk_42_method_149_code 52 = .ok (.aload 5, 2) := by decide +kernel
theorem d2_54 : decode jdk_42_method_149_code 54 = .ok (.putfield 9, 3) := by decide +kernel
theorem d2_57 : decode jdk_42_method_149_code 57 = .ok (.return_, 1) := by decide +kernel
def Q2_1 (Z : State) (a1 : Addr) (ac : Addr) (kc : ClassId) (cs : Int32) (q1 : Int32) (h0 : Heap) (n0 : Nat) (v : Option Value) (h : Heap) (L : List Loc) : Prop := v = none ∧ Fr n0 L ∧ Keep h0 h [a1] ∧ own_str Z h a1 (1 : Int32) (2 : Int32) [(.int (nar .byte (q1.toInt8.toInt32)))] [(.int (nar .byte ((q1 >>> ((0 : Int32) &&& 31)).toInt8.toInt32))), (.int (nar .byte ((q1 >>> ((8 : Int32) &&& 31)).toInt8.toInt32)))] (¬ ((255 : Int32) < q1) ∧ True) True
set_option maxRecDepth 65536 in
set_option maxHeartbeats 40000000 in
theorem rm2_1 (l : Launch) (Z : State) (a0 : Array Value) (hw : ∀ d ∈ tables_1, d.before a0 Z = true) (ws : List Jvm.Cond) (a1 : Addr) (ac : Addr) (kc : ClassId) (cs : Int32) (q1 : Int32) (h0 : Heap) (n0 : Nat) (O0 : Old Z n0 h0) (E1 : Exa Z h0 a1 "java/lang/String") (Fv : Fld Z h0 a1 "java/lang/String" "value" "[B" .null) (Fc : Fld Z h0 a1 "java/lang/String" "coder" "B" (.int 0)) (g1 : n0 ≤ a1) (SC : Sta Z Z.heap "java/lang/String" "COMPACT_STRINGS" "Z" (.int cs)) (hcs : ¬ (cs = (0 : Int32))) (SA : Sta Z Z.heap "java/lang/StringUTF16" "$assertionsDisabled" "Z" (.int 1)) (SH : Sta Z Z.heap "java/lang/StringUTF16" "HI_BYTE_SHIFT" "I" (.int 0)) (SL : Sta Z Z.heap "java/lang/StringUTF16" "LO_BYTE_SHIFT" "I" (.int 8)) (Vc : Arv Z h0 ac kc .char (1 : Int32) [(.int q1)] (.int 0)) (R1 : own_R q1) :
    MetFree l (⟨"java/lang/String", "<init>", "([CIILjava/lang/Void;)V"⟩ : MethodName) (head1 (Jvm.Cond.code (⟨"java/lang/String", "<init>", "([CIILjava/lang/Void;)V"⟩ : MethodName) jdk_42_method_149_code 6 none :: ws) ({ frames := 4, cells := 2, slots := 3, locals := 57 } : Room)) (fun a U => a = #[(.ref a1), (.ref ac), (.int 0), (.int 1), .null] ∧ Z.Warmed39 U.vm ∧ U.heap = h0) (fun _ _ _ _ _ => True) (fun _ U o U' => ∃ v L, o = .returned v ∧ Q2_1 Z a1 ac kc cs q1 h0 n0 v U'.heap L ∧ FrameEnd U o U' L ({ frames := 4, cells := 2, slots := 3, locals := 57 } : Room).cells ({ frames := 4, cells := 2, slots := 3, locals := 57 } : Room).slots) := by
  refine MetFree.of_bodySF (plainFor_of_name pn_4) hisR ?_
  intro p e s m args below meth c s₁ Bd hml0 hP hK
  obtain ⟨rfl, hZ, hh⟩ := hP
  have hx := Bd.exec
  have hby := Bd.bytes
  have hml : c.maxLocals = 6 := hml0
  have hown : s.vm.findClass "java/lang/String" = some m.cls := findClass_of_methodNamed Bd.named
  have hnm := (name_of_methodNamed Bd.named Bd.method).1
  have X0 : Stand p l e ({ frames := 4, cells := 2, slots := 3, locals := 57 } : Room) s m #[(.ref a1), (.ref ac), (.int 0), (.int 1), .null] below meth c s₁ [] 0 0 := Stand.of_body Bd
  have e0 : s₁.heap = h0 := by rw [← hh, Bd.state]; rfl
  have N0 := Fr.nil n0
  have Z0 : n0 ≤ h0.size := O0.1 ▸ O0.2.1
  have K0 : Keep h0 h0 [a1] := Keep.refl _ _
  have pre0 : ∀ t, At p e below s₁ m 0 #[vR a1, vR ac, vI 0, vI 1, .val .null, vU] [] t → Steps p.tables e below (s₁.setTop (entryFrame m #[(.ref a1), (.ref ac), (.int 0), (.int 1), .null] 6)) t := fun t k => castTop (ef_2_1 m a1 ac) k
  have pre1 := fun t (kt : At p e below s₁ m 1 #[vR a1, vR ac, vI 0, vI 1, .val .null, vU] [(.ref a1)] t) => pre0 t (by
    show At p e below s₁ m 0 #[vR a1, vR ac, vI 0, vI 1, .val .null, vU] [] _
    refine XS.aloadN X0.here hx rfl (hb hby d2_0) rfl rfl ?_
    exact kt)
  obtain ⟨T2, X2, e2, st2⟩ := initO X0 hx hZ hown (wd hw 13 rfl) (wd hw 14 rfl) (wd hw 15 rfl) e0 (g := (mkF m 1 #[vR a1, vR ac, vI 0, vI 1, .val .null, vU] [(.ref a1)])) rfl (by rw [hml]; rfl) rfl (hb hby d2_1) (by decide) (W := 0) (by show 2 * 0 + _ ≤ _; exact Nat.le_of_eq rfl) (by decide)
  have pre3 := fun t (kt : At p e below T2 m 4 #[vR a1, vR ac, vI 0, vI 1, .val .null, vU] [] t) => pre1 t (st2 _ kt)
  have pre4 := fun t (kt : At p e below T2 m 27 #[vR a1, vR ac, vI 0, vI 1, .val .null, vU] [] t) => pre3 t (by
    show At p e below T2 m 4 #[vR a1, vR ac, vI 0, vI 1, .val .null, vU] [] _
    refine XS.iloadN X2.here hx rfl (hb hby d2_4) rfl ?_
    show At p e below T2 m 5 #[vR a1, vR ac, vI 0, vI 1, .val .null, vU] [(.int 1)] _
    refine XS.ifYes X2.here hx rfl (pc0 := 5) (pc' := 27) rfl (hb hby d2_5) rfl ((if0 _ _).trans (feq (by decide : ¬ ((1 : Int32) = (0 : Int32)))).2) (by decide) (by decide) ?_
    exact kt)
  obtain ⟨T5, X5, e5, st5⟩ := getS2 X2 hx hZ hown (host := "") (Or.inl (wd hw 43 rfl)) Via.refl e2 (SC.ext O0.2) (g := (mkF m 27 #[vR a1, vR ac, vI 0, vI 1, .val .null, vU] [])) rfl (hb hby d2_27)
  have pre6 := fun t (kt : At p e below T5 m 30 #[vR a1, vR ac, vI 0, vI 1, .val .null, vU] [(.int cs)] t) => pre4 t (st5 _ kt)
  have pre7 := fun t (kt : At p e below T5 m 36 #[vR a1, vR ac, vI 0, vI 1, .val .null, vU] [(.int 1), (.int 0), (.ref ac)] t) => pre6 t (by
    show At p e below T5 m 30 #[vR a1, vR ac, vI 0, vI 1, .val .null, vU] [(.int cs)] _
    refine XS.ifNo X5.here hx rfl (hb hby d2_30) rfl ((if0 _ _).trans (feq (hcs : ¬ (cs = (0 : Int32)))).1) ?_
    show At p e below T5 m 33 #[vR a1, vR ac, vI 0, vI 1, .val .null, vU] [] _
    refine XS.aloadN X5.here hx rfl (hb hby d2_33) rfl rfl ?_
    show At p e below T5 m 34 #[vR a1, vR ac, vI 0, vI 1, .val .null, vU] [(.ref ac)] _
    refine XS.iloadN X5.here hx rfl (hb hby d2_34) rfl ?_
    show At p e below T5 m 35 #[vR a1, vR ac, vI 0, vI 1, .val .null, vU] [(.int 0), (.ref ac)] _
    refine XS.iloadN X5.here hx rfl (hb hby d2_35) rfl ?_
    exact kt)
  obtain ⟨_, _, ⟨T8, L8, kc8, nc8⟩, -, X8, ⟨Lc8, hQ8, l8, y8, z8⟩, st8⟩ := Jvm.LawKit.callS X5 hx (y := (⟨"java/lang/StringUTF16", "compress", "([CII)[B"⟩ : MethodName)) hown (mvT hZ (wd hw 68 rfl)) (mvT hZ (wd hw 69 rfl)) (mvT hZ (wd hw 70 rfl)) (mvT hZ (wd hw 71 rfl)) (by decide) (backOf (W := 0) (rm14_1 l Z a0 hw [] ac kc q1 h0 n0 O0 SA SH SL Vc R1) hZ (wd hw 71 rfl) (wd hw 70 rfl) (by decide) (by decide)) (g := (mkF m 36 #[vR a1, vR ac, vI 0, vI 1, .val .null, vU] [(.int 1), (.int 0), (.ref ac)])) rfl (by rw [hml]; rfl) (argsL := [(.ref ac), (.int 0), (.int 1)]) (rest := []) (lenOf pd_4 rfl) rfl (by show 2 * 0 + _ ≤ _; exact Nat.le_of_eq rfl) (hb hby d2_36) (fun _ _ => ⟨rfl, e5, (by decide : 0 + 2 ≤ _), (by decide : 0 + 3 ≤ _)⟩)
  dsimp only [Pt.U, Pt.locs, Pt.cells, Pt.slots] at X8 l8 y8 z8 st8 hQ8
  subst l8 y8 z8
  obtain ⟨x8, kx8, rfl, N8q, K8, sx8, gx8, hv8⟩ := hQ8
  have N8 := Fr.app N0 N8q
  have pre9 := fun t (kt : At p e below T8 m 39 #[vR a1, vR ac, vI 0, vI 1, .val .null, vU] [(.ref x8)] t) => pre7 t (st8 _ kt)
  rcases hv8 with ⟨kall, Va8⟩ | Va8
  · have z10 : n0 ≤ T8.heap.size := (Nat.le_trans Z0 K8.1)
    have pre11 := fun t (kt : At p e below T8 m 45 #[vR a1, vR ac, vI 0, vI 1, .val .null, vR x8] [(.int 1), (.ref x8), (.ref a1)] t) => pre9 t (by
      show At p e below T8 m 39 #[vR a1, vR ac, vI 0, vI 1, .val .null, vU] [(.ref x8)] _
      refine XS.astore X8.here hx rfl (hb hby d2_39) rfl rfl (l' := #[vR a1, vR ac, vI 0, vI 1, .val .null, vR x8]) rfl ?_
      show At p e below T8 m 41 #[vR a1, vR ac, vI 0, vI 1, .val .null, vR x8] [] _
      refine XS.aloadN X8.here hx rfl (hb hby d2_41) rfl rfl ?_
      show At p e below T8 m 42 #[vR a1, vR ac, vI 0, vI 1, .val .null, vR x8] [(.ref a1)] _
      refine XS.aload X8.here hx rfl (hb hby d2_42) rfl rfl ?_
      show At p e below T8 m 44 #[vR a1, vR ac, vI 0, vI 1, .val .null, vR x8] [(.ref x8), (.ref a1)] _
      refine XS.iloadN X8.here hx rfl (hb hby d2_44) rfl ?_
      exact kt)
    obtain ⟨_, _, ⟨T12, L12, kc12, nc12⟩, -, X12, ⟨Lc12, hQ12, l12, y12, z12⟩, st12⟩ := Jvm.LawKit.callS X8 hx (y := (⟨"java/lang/StringUTF16", "coderFromArrayLen", "([BI)B"⟩ : MethodName)) hown (mvT hZ (wd hw 75 rfl)) (mvT hZ (wd hw 76 rfl)) (mvT hZ (wd hw 70 rfl)) (mvT hZ (wd hw 77 rfl)) (by decide) (backOf (W := 1) (rm16 l Z a0 hw [] x8 kx8 _ (1 : Int32) (1 : Int32) (0 : Int32) T8.heap n0 z10 Va8 (by decide)) hZ (wd hw 77 rfl) (wd hw 70 rfl) (by decide) (by decide)) (g := (mkF m 45 #[vR a1, vR ac, vI 0, vI 1, .val .null, vR x8] [(.int 1), (.ref x8), (.ref a1)])) rfl (by rw [hml]; rfl) (argsL := [(.ref x8), (.int 1)]) (rest := [(.ref a1)]) (lenOf pd_6 rfl) rfl (by show 2 * 0 + _ ≤ _; exact Nat.le_of_eq rfl) (hb hby d2_45) (fun _ _ => ⟨rfl, rfl, (by decide : 2 + 0 ≤ _), (by decide : 3 + 0 ≤ _)⟩)
    dsimp only [Pt.U, Pt.locs, Pt.cells, Pt.slots] at X12 l12 y12 z12 st12 hQ12
    subst l12 y12 z12
    obtain ⟨rfl, N12q, he12⟩ := hQ12
    have N12 := Fr.app N8 N12q
    have pre13 := fun t (kt : At p e below T12 m 48 #[vR a1, vR ac, vI 0, vI 1, .val .null, vR x8] [(.int 0), (.ref a1)] t) => pre11 t (st12 _ kt)
    have f14 := (Fc.keep K8 nin0)
    have f15 := (E1.keep K8)
    obtain ⟨T16, h16, X16, e16, W16, st16⟩ := putFN X12 hx hZ hown (wd hw 23 rfl) Via.refl he12 f14 f15 (Or.inr ⟨(wd hw 19 rfl), rfl, hnm⟩) (wd hw 4 rfl) (ty := .byte) (v' := (.int 0)) (by decide) rfl (by first | rfl | decide) (g := (mkF m 48 #[vR a1, vR ac, vI 0, vI 1, .val .null, vR x8] [(.int 0), (.ref a1)])) rfl rfl (hb hby d2_48)
    have Fw16 := f14.same W16
    have N16 := Fr.snoc X16 N12 g1
    have pre17 := fun t (kt : At p e below T16 m 51 #[vR a1, vR ac, vI 0, vI 1, .val .null, vR x8] [] t) => pre13 t (st16 _ kt)
    have f18 := ((Fv.keep K8 nin0).other W16 (Or.inr (slot_ne (Or.inr (wd hw 18 rfl)) (Or.inr (wd hw 19 rfl)) (by decide) (t := (.array .byte)) (t' := .byte) (by decide) (by decide))))
    have f19 := (f15.wr W16)
    have pre20 := fun t (kt : At p e below T16 m 54 #[vR a1, vR ac, vI 0, vI 1, .val .null, vR x8] [(.ref x8), (.ref a1)] t) => pre17 t (by
      show At p e below T16 m 51 #[vR a1, vR ac, vI 0, vI 1, .val .null, vR x8] [] _
      refine XS.aloadN X16.here hx rfl (hb hby d2_51) rfl rfl ?_
      show At p e below T16 m 52 #[vR a1, vR ac, vI 0, vI 1, .val .null, vR x8] [(.ref a1)] _
      refine XS.aload X16.here hx rfl (hb hby d2_52) rfl rfl ?_
      exact kt)
    obtain ⟨T21, h21, X21, e21, W21, st21⟩ := putF X16 hx hZ hown (host := "") (Or.inl (wd hw 22 rfl)) Via.refl e16 f18 f19 (Or.inr ⟨(wd hw 18 rfl), rfl, hnm⟩) (wd hw 4 rfl) (ty := (.array .byte)) (by decide) rfl rfl (g := (mkF m 54 #[vR a1, vR ac, vI 0, vI 1, .val .null, vR x8] [(.ref x8), (.ref a1)])) rfl rfl (hb hby d2_54)
    have Fw21 := f18.same W21
    have N21 := Fr.snoc X21 N16 g1
    have pre22 := fun t (kt : At p e below T21 m 57 #[vR a1, vR ac, vI 0, vI 1, .val .null, vR x8] [] t) => pre20 t (st21 _ kt)
    have k23 : Keep h0 h21 [a1] := (((K0.trans K8 all0).wr W16 (Or.inl (List.mem_of_getElem? (i := 0) rfl))).wr W21 (Or.inl (List.mem_of_getElem? (i := 0) rfl)))
    have f24 := (f19.wr W21)
    have f25 := (Fw16.other W21 (Or.inr (slot_ne (Or.inr (wd hw 19 rfl)) (Or.inr (wd hw 18 rfl)) (by decide) (t := .byte) (t' := (.array .byte)) (by decide) (by decide))))
    have f26 := ((Va8.other W16 (Ne.symm (Nat.ne_of_lt (Nat.lt_of_lt_of_le E1.lt sx8)))).other W21 (Ne.symm (Nat.ne_of_lt (Nat.lt_of_lt_of_le E1.lt sx8))))
    obtain ⟨fs, hr, hrun, hended, hW, hsame⟩ := X21.leave (v := none) (fun _ => rfl)
    refine ⟨_, _, pre22 _ ?_, hrun, hended, _, _, rfl, ?_, ⟨_, rfl⟩, hW, hsame.mono (by decide) (by decide)⟩
    · show At p e below T21 m 57 #[vR a1, vR ac, vI 0, vI 1, .val .null, vR x8] [] _
      exact X21.returnOut hx Bd.returns (hb hby d2_57) hr
    · show Q2_1 Z a1 ac kc cs q1 h0 n0 _ T21.heap _
      rw [e21]
      exact ⟨rfl, N21, k23, f24, _, _, Fw21, Or.inl ⟨kall, f25, f26⟩⟩
  · have z27 : n0 ≤ T8.heap.size := (Nat.le_trans Z0 K8.1)
    have pre28 := fun t (kt : At p e below T8 m 45 #[vR a1, vR ac, vI 0, vI 1, .val .null, vR x8] [(.int 1), (.ref x8), (.ref a1)] t) => pre9 t (by
      show At p e below T8 m 39 #[vR a1, vR ac, vI 0, vI 1, .val .null, vU] [(.ref x8)] _
      refine XS.astore X8.here hx rfl (hb hby d2_39) rfl rfl (l' := #[vR a1, vR ac, vI 0, vI 1, .val .null, vR x8]) rfl ?_
      show At p e below T8 m 41 #[vR a1, vR ac, vI 0, vI 1, .val .null, vR x8] [] _
      refine XS.aloadN X8.here hx rfl (hb hby d2_41) rfl rfl ?_
      show At p e below T8 m 42 #[vR a1, vR ac, vI 0, vI 1, .val .null, vR x8] [(.ref a1)] _
      refine XS.aload X8.here hx rfl (hb hby d2_42) rfl rfl ?_
      show At p e below T8 m 44 #[vR a1, vR ac, vI 0, vI 1, .val .null, vR x8] [(.ref x8), (.ref a1)] _
      refine XS.iloadN X8.here hx rfl (hb hby d2_44) rfl ?_
      exact kt)
    obtain ⟨_, _, ⟨T29, L29, kc29, nc29⟩, -, X29, ⟨Lc29, hQ29, l29, y29, z29⟩, st29⟩ := Jvm.LawKit.callS X8 hx (y := (⟨"java/lang/StringUTF16", "coderFromArrayLen", "([BI)B"⟩ : MethodName)) hown (mvT hZ (wd hw 75 rfl)) (mvT hZ (wd hw 76 rfl)) (mvT hZ (wd hw 70 rfl)) (mvT hZ (wd hw 77 rfl)) (by decide) (backOf (W := 1) (rm16 l Z a0 hw [] x8 kx8 _ (1 : Int32) (2 : Int32) (1 : Int32) T8.heap n0 z27 Va8 (by decide)) hZ (wd hw 77 rfl) (wd hw 70 rfl) (by decide) (by decide)) (g := (mkF m 45 #[vR a1, vR ac, vI 0, vI 1, .val .null, vR x8] [(.int 1), (.ref x8), (.ref a1)])) rfl (by rw [hml]; rfl) (argsL := [(.ref x8), (.int 1)]) (rest := [(.ref a1)]) (lenOf pd_6 rfl) rfl (by show 2 * 0 + _ ≤ _; exact Nat.le_of_eq rfl) (hb hby d2_45) (fun _ _ => ⟨rfl, rfl, (by decide : 2 + 0 ≤ _), (by decide : 3 + 0 ≤ _)⟩)
    dsimp only [Pt.U, Pt.locs, Pt.cells, Pt.slots] at X29 l29 y29 z29 st29 hQ29
    subst l29 y29 z29
    obtain ⟨rfl, N29q, he29⟩ := hQ29
    have N29 := Fr.app N8 N29q
    have pre30 := fun t (kt : At p e below T29 m 48 #[vR a1, vR ac, vI 0, vI 1, .val .null, vR x8] [(.int 1), (.ref a1)] t) => pre28 t (st29 _ kt)
    have f31 := (Fc.keep K8 nin0)
    have f32 := (E1.keep K8)
    obtain ⟨T33, h33, X33, e33, W33, st33⟩ := putFN X29 hx hZ hown (wd hw 23 rfl) Via.refl he29 f31 f32 (Or.inr ⟨(wd hw 19 rfl), rfl, hnm⟩) (wd hw 4 rfl) (ty := .byte) (v' := (.int 1)) (by decide) rfl (by first | rfl | decide) (g := (mkF m 48 #[vR a1, vR ac, vI 0, vI 1, .val .null, vR x8] [(.int 1), (.ref a1)])) rfl rfl (hb hby d2_48)
    have Fw33 := f31.same W33
    have N33 := Fr.snoc X33 N29 g1
    have pre34 := fun t (kt : At p e below T33 m 51 #[vR a1, vR ac, vI 0, vI 1, .val .null, vR x8] [] t) => pre30 t (st33 _ kt)
    have f35 := ((Fv.keep K8 nin0).other W33 (Or.inr (slot_ne (Or.inr (wd hw 18 rfl)) (Or.inr (wd hw 19 rfl)) (by decide) (t := (.array .byte)) (t' := .byte) (by decide) (by decide))))
    have f36 := (f32.wr W33)
    have pre37 := fun t (kt : At p e below T33 m 54 #[vR a1, vR ac, vI 0, vI 1, .val .null, vR x8] [(.ref x8), (.ref a1)] t) => pre34 t (by
      show At p e below T33 m 51 #[vR a1, vR ac, vI 0, vI 1, .val .null, vR x8] [] _
      refine XS.aloadN X33.here hx rfl (hb hby d2_51) rfl rfl ?_
      show At p e below T33 m 52 #[vR a1, vR ac, vI 0, vI 1, .val .null, vR x8] [(.ref a1)] _
      refine XS.aload X33.here hx rfl (hb hby d2_52) rfl rfl ?_
      exact kt)
    obtain ⟨T38, h38, X38, e38, W38, st38⟩ := putF X33 hx hZ hown (host := "") (Or.inl (wd hw 22 rfl)) Via.refl e33 f35 f36 (Or.inr ⟨(wd hw 18 rfl), rfl, hnm⟩) (wd hw 4 rfl) (ty := (.array .byte)) (by decide) rfl rfl (g := (mkF m 54 #[vR a1, vR ac, vI 0, vI 1, .val .null, vR x8] [(.ref x8), (.ref a1)])) rfl rfl (hb hby d2_54)
    have Fw38 := f35.same W38
    have N38 := Fr.snoc X38 N33 g1
    have pre39 := fun t (kt : At p e below T38 m 57 #[vR a1, vR ac, vI 0, vI 1, .val .null, vR x8] [] t) => pre37 t (st38 _ kt)
    have k40 : Keep h0 h38 [a1] := (((K0.trans K8 all0).wr W33 (Or.inl (List.mem_of_getElem? (i := 0) rfl))).wr W38 (Or.inl (List.mem_of_getElem? (i := 0) rfl)))
    have f41 := (f36.wr W38)
    have f42 := (Fw33.other W38 (Or.inr (slot_ne (Or.inr (wd hw 19 rfl)) (Or.inr (wd hw 18 rfl)) (by decide) (t := .byte) (t' := (.array .byte)) (by decide) (by decide))))
    have f43 := ((Va8.other W33 (Ne.symm (Nat.ne_of_lt (Nat.lt_of_lt_of_le E1.lt sx8)))).other W38 (Ne.symm (Nat.ne_of_lt (Nat.lt_of_lt_of_le E1.lt sx8))))
    obtain ⟨fs, hr, hrun, hended, hW, hsame⟩ := X38.leave (v := none) (fun _ => rfl)
    refine ⟨_, _, pre39 _ ?_, hrun, hended, _, _, rfl, ?_, ⟨_, rfl⟩, hW, hsame.mono (by decide) (by decide)⟩
    · show At p e below T38 m 57 #[vR a1, vR ac, vI 0, vI 1, .val .null, vR x8] [] _
      exact X38.returnOut hx Bd.returns (hb hby d2_57) hr
    · show Q2_1 Z a1 ac kc cs q1 h0 n0 _ T38.heap _
      rw [e38]
      exact ⟨rfl, N38, k40, f41, _, _, Fw38, Or.inr ⟨trivial, f42, f43⟩⟩
theorem ef_2_2 (m : MethodId) (a1 : Addr) (ac : Addr) : entryFrame m #[(.ref a1), (.ref ac), (.int 0), (.int 2), .null] 6 = (mkF m 0 #[vR a1, vR ac, vI 0, vI 2, .val .null, vU] []) := by first | (simp [entryFrame, mkF, argsToLocals, Value.category]; done) | rfl
def Q2_2 (Z : State) (a1 : Addr) (ac : Addr) (kc : ClassId) (cs : Int32) (q1 : Int32) (q2 : Int32) (h0 : Heap) (n0 : Nat) (v : Option Value) (h : Heap) (L : List Loc) : Prop := v = none ∧ Fr n0 L ∧ Keep h0 h [a1] ∧ own_str Z h a1 (2 : Int32) (4 : Int32) [(.int (nar .byte (q1.toInt8.toInt32))), (.int (nar .byte (q2.toInt8.toInt32)))] [(.int (nar .byte ((q1 >>> ((0 : Int32) &&& 31)).toInt8.toInt32))), (.int (nar .byte ((q1 >>> ((8 : Int32) &&& 31)).toInt8.toInt32))), (.int (nar .byte ((q2 >>> ((0 : Int32) &&& 31)).toInt8.toInt32))), (.int (nar .byte ((q2 >>> ((8 : Int32) &&& 31)).toInt8.toInt32)))] (¬ ((255 : Int32) < q1) ∧ ¬ ((255 : Int32) < q2) ∧ True) True
set_option maxRecDepth 65536 in
set_option maxHeartbeats 40000000 in
theorem rm2_2 (l : Launch) (Z : State) (a0 : Array Value) (hw : ∀ d ∈ tables_1, d.before a0 Z = true) (ws : List Jvm.Cond) (a1 : Addr) (ac : Addr) (kc : ClassId) (cs : Int32) (q1 : Int32) (q2 : Int32) (h0 : Heap) (n0 : Nat) (O0 : Old Z n0 h0) (E1 : Exa Z h0 a1 "java/lang/String") (Fv : Fld Z h0 a1 "java/lang/String" "value" "[B" .null) (Fc : Fld Z h0 a1 "java/lang/String" "coder" "B" (.int 0)) (g1 : n0 ≤ a1) (SC : Sta Z Z.heap "java/lang/String" "COMPACT_STRINGS" "Z" (.int cs)) (hcs : ¬ (cs = (0 : Int32))) (SA : Sta Z Z.heap "java/lang/StringUTF16" "$assertionsDisabled" "Z" (.int 1)) (SH : Sta Z Z.heap "java/lang/StringUTF16" "HI_BYTE_SHIFT" "I" (.int 0)) (SL : Sta Z Z.heap "java/lang/StringUTF16" "LO_BYTE_SHIFT" "I" (.int 8)) (Vc : Arv Z h0 ac kc .char (2 : Int32) [(.int q1), (.int q2)] (.int 0)) (R1 : own_R q1) (R2 : own_R q2) :
    MetFree l (⟨"java/lang/String", "<init>", "([CIILjava/lang/Void;)V"⟩ : MethodName) (head1 (Jvm.Cond.code (⟨"java/lang/String", "<init>", "([CIILjava/lang/Void;)V"⟩ : MethodName) jdk_42_method_149_code 6 none :: ws) ({ frames := 4, cells := 2, slots := 6, locals := 57 } : Room)) (fun a U => a = #[(.ref a1), (.ref ac), (.int 0), (.int 2), .null] ∧ Z.Warmed39 U.vm ∧ U.heap = h0) (fun _ _ _ _ _ => True) (fun _ U o U' => ∃ v L, o = .returned v ∧ Q2_2 Z a1 ac kc cs q1 q2 h0 n0 v U'.heap L ∧ FrameEnd U o U' L ({ frames := 4, cells := 2, slots := 6, locals := 57 } : Room).cells ({ frames := 4, cells := 2, slots := 6, locals := 57 } : Room).slots) := by
  refine MetFree.of_bodySF (plainFor_of_name pn_4) hisR ?_
  intro p e s m args below meth c s₁ Bd hml0 hP hK
  obtain ⟨rfl, hZ, hh⟩ := hP
  have hx := Bd.exec
  have hby := Bd.bytes
  have hml : c.maxLocals = 6 := hml0
  have hown : s.vm.findClass "java/lang/String" = some m.cls := findClass_of_methodNamed Bd.named
  have hnm := (name_of_methodNamed Bd.named Bd.method).1
  have X0 : Stand p l e ({ frames := 4, cells := 2, slots := 6, locals := 57 } : Room) s m #[(.ref a1), (.ref ac), (.int 0), (.int 2), .null] below meth c s₁ [] 0 0 := Stand.of_body Bd
  have e0 : s₁.heap = h0 := by rw [← hh, Bd.state]; rfl
  have N0 := Fr.nil n0
  have Z0 : n0 ≤ h0.size := O0.1 ▸ O0.2.1
  have K0 : Keep h0 h0 [a1] := Keep.refl _ _
  have pre0 : ∀ t, At p e below s₁ m 0 #[vR a1, vR ac, vI 0, vI 2, .val .null, vU] [] t → Steps p.tables e below (s₁.setTop (entryFrame m #[(.ref a1), (.ref ac), (.int 0), (.int 2), .null] 6)) t := fun t k => castTop (ef_2_2 m a1 ac) k
  have pre1 := fun t (kt : At p e below s₁ m 1 #[vR a1, vR ac, vI 0, vI 2, .val .null, vU] [(.ref a1)] t) => pre0 t (by
    show At p e below s₁ m 0 #[vR a1, vR ac, vI 0, vI 2, .val .null, vU] [] _
    refine XS.aloadN X0.here hx rfl (hb hby d2_0) rfl rfl ?_
    exact kt)
  obtain ⟨T2, X2, e2, st2⟩ := initO X0 hx hZ hown (wd hw 13 rfl) (wd hw 14 rfl) (wd hw 15 rfl) e0 (g := (mkF m 1 #[vR a1, vR ac, vI 0, vI 2, .val .null, vU] [(.ref a1)])) rfl (by rw [hml]; rfl) rfl (hb hby d2_1) (by decide) (W := 0) (by show 2 * 0 + _ ≤ _; exact Nat.le_of_eq rfl) (by decide)
  have pre3 := fun t (kt : At p e below T2 m 4 #[vR a1, vR ac, vI 0, vI 2, .val .null, vU] [] t) => pre1 t (st2 _ kt)
  have pre4 := fun t (kt : At p e below T2 m 27 #[vR a1, vR ac, vI 0, vI 2, .val .null, vU] [] t) => pre3 t (by
    show At p e below T2 m 4 #[vR a1, vR ac, vI 0, vI 2, .val .null, vU] [] _
    refine XS.iloadN X2.here hx rfl (hb hby d2_4) rfl ?_
    show At p e below T2 m 5 #[vR a1, vR ac, vI 0, vI 2, .val .null, vU] [(.int 2)] _
    refine XS.ifYes X2.here hx rfl (pc0 := 5) (pc' := 27) rfl (hb hby d2_5) rfl ((if0 _ _).trans (feq (by decide : ¬ ((2 : Int32) = (0 : Int32)))).2) (by decide) (by decide) ?_
    exact kt)
  obtain ⟨T5, X5, e5, st5⟩ := getS2 X2 hx hZ hown (host := "") (Or.inl (wd hw 43 rfl)) Via.refl e2 (SC.ext O0.2) (g := (mkF m 27 #[vR a1, vR ac, vI 0, vI 2, .val .null, vU] [])) rfl (hb hby d2_27)
  have pre6 := fun t (kt : At p e below T5 m 30 #[vR a1, vR ac, vI 0, vI 2, .val .null, vU] [(.int cs)] t) => pre4 t (st5 _ kt)
  have pre7 := fun t (kt : At p e below T5 m 36 #[vR a1, vR ac, vI 0, vI 2, .val .null, vU] [(.int 2), (.int 0), (.ref ac)] t) => pre6 t (by
    show At p e below T5 m 30 #[vR a1, vR ac, vI 0, vI 2, .val .null, vU] [(.int cs)] _
    refine XS.ifNo X5.here hx rfl (hb hby d2_30) rfl ((if0 _ _).trans (feq (hcs : ¬ (cs = (0 : Int32)))).1) ?_
    show At p e below T5 m 33 #[vR a1, vR ac, vI 0, vI 2, .val .null, vU] [] _
    refine XS.aloadN X5.here hx rfl (hb hby d2_33) rfl rfl ?_
    show At p e below T5 m 34 #[vR a1, vR ac, vI 0, vI 2, .val .null, vU] [(.ref ac)] _
    refine XS.iloadN X5.here hx rfl (hb hby d2_34) rfl ?_
    show At p e below T5 m 35 #[vR a1, vR ac, vI 0, vI 2, .val .null, vU] [(.int 0), (.ref ac)] _
    refine XS.iloadN X5.here hx rfl (hb hby d2_35) rfl ?_
    exact kt)
  obtain ⟨_, _, ⟨T8, L8, kc8, nc8⟩, -, X8, ⟨Lc8, hQ8, l8, y8, z8⟩, st8⟩ := Jvm.LawKit.callS X5 hx (y := (⟨"java/lang/StringUTF16", "compress", "([CII)[B"⟩ : MethodName)) hown (mvT hZ (wd hw 68 rfl)) (mvT hZ (wd hw 69 rfl)) (mvT hZ (wd hw 70 rfl)) (mvT hZ (wd hw 71 rfl)) (by decide) (backOf (W := 0) (rm14_2 l Z a0 hw [] ac kc q1 q2 h0 n0 O0 SA SH SL Vc R1 R2) hZ (wd hw 71 rfl) (wd hw 70 rfl) (by decide) (by decide)) (g := (mkF m 36 #[vR a1, vR ac, vI 0, vI 2, .val .null, vU] [(.int 2), (.int 0), (.ref ac)])) rfl (by rw [hml]; rfl) (argsL := [(.ref ac), (.int 0), (.int 2)]) (rest := []) (lenOf pd_4 rfl) rfl (by show 2 * 0 + _ ≤ _; exact Nat.le_of_eq rfl) (hb hby d2_36) (fun _ _ => ⟨rfl, e5, (by decide : 0 + 2 ≤ _), (by decide : 0 + 6 ≤ _)⟩)
  dsimp only [Pt.U, Pt.locs, Pt.cells, Pt.slots] at X8 l8 y8 z8 st8 hQ8
  subst l8 y8 z8
  obtain ⟨x8, kx8, rfl, N8q, K8, sx8, gx8, hv8⟩ := hQ8
  have N8 := Fr.app N0 N8q
  have pre9 := fun t (kt : At p e below T8 m 39 #[vR a1, vR ac, vI 0, vI 2, .val .null, vU] [(.ref x8)] t) => pre7 t (st8 _ kt)
  rcases hv8 with ⟨kall, Va8⟩ | Va8
  · have z10 : n0 ≤ T8.heap.size := (Nat.le_trans Z0 K8.1)
    have pre11 := fun t (kt : At p e below T8 m 45 #[vR a1, vR ac, vI 0, vI 2, .val .null, vR x8] [(.int 2), (.ref x8), (.ref a1)] t) => pre9 t (by
      show At p e below T8 m 39 #[vR a1, vR ac, vI 0, vI 2, .val .null, vU] [(.ref x8)] _
      refine XS.astore X8.here hx rfl (hb hby d2_39) rfl rfl (l' := #[vR a1, vR ac, vI 0, vI 2, .val .null, vR x8]) rfl ?_
      show At p e below T8 m 41 #[vR a1, vR ac, vI 0, vI 2, .val .null, vR x8] [] _
      refine XS.aloadN X8.here hx rfl (hb hby d2_41) rfl rfl ?_
      show At p e below T8 m 42 #[vR a1, vR ac, vI 0, vI 2, .val .null, vR x8] [(.ref a1)] _
      refine XS.aload X8.here hx rfl (hb hby d2_42) rfl rfl ?_
      show At p e below T8 m 44 #[vR a1, vR ac, vI 0, vI 2, .val .null, vR x8] [(.ref x8), (.ref a1)] _
      refine XS.iloadN X8.here hx rfl (hb hby d2_44) rfl ?_
      exact kt)
    obtain ⟨_, _, ⟨T12, L12, kc12, nc12⟩, -, X12, ⟨Lc12, hQ12, l12, y12, z12⟩, st12⟩ := Jvm.LawKit.callS X8 hx (y := (⟨"java/lang/StringUTF16", "coderFromArrayLen", "([BI)B"⟩ : MethodName)) hown (mvT hZ (wd hw 75 rfl)) (mvT hZ (wd hw 76 rfl)) (mvT hZ (wd hw 70 rfl)) (mvT hZ (wd hw 77 rfl)) (by decide) (backOf (W := 1) (rm16 l Z a0 hw [] x8 kx8 _ (2 : Int32) (2 : Int32) (0 : Int32) T8.heap n0 z10 Va8 (by decide)) hZ (wd hw 77 rfl) (wd hw 70 rfl) (by decide) (by decide)) (g := (mkF m 45 #[vR a1, vR ac, vI 0, vI 2, .val .null, vR x8] [(.int 2), (.ref x8), (.ref a1)])) rfl (by rw [hml]; rfl) (argsL := [(.ref x8), (.int 2)]) (rest := [(.ref a1)]) (lenOf pd_6 rfl) rfl (by show 2 * 0 + _ ≤ _; exact Nat.le_of_eq rfl) (hb hby d2_45) (fun _ _ => ⟨rfl, rfl, (by decide : 2 + 0 ≤ _), (by decide : 6 + 0 ≤ _)⟩)
    dsimp only [Pt.U, Pt.locs, Pt.cells, Pt.slots] at X12 l12 y12 z12 st12 hQ12
    subst l12 y12 z12
    obtain ⟨rfl, N12q, he12⟩ := hQ12
    have N12 := Fr.app N8 N12q
    have pre13 := fun t (kt : At p e below T12 m 48 #[vR a1, vR ac, vI 0, vI 2, .val .null, vR x8] [(.int 0), (.ref a1)] t) => pre11 t (st12 _ kt)
    have f14 := (Fc.keep K8 nin0)
    have f15 := (E1.keep K8)
    obtain ⟨T16, h16, X16, e16, W16, st16⟩ := putFN X12 hx hZ hown (wd hw 23 rfl) Via.refl he12 f14 f15 (Or.inr ⟨(wd hw 19 rfl), rfl, hnm⟩) (wd hw 4 rfl) (ty := .byte) (v' := (.int 0)) (by decide) rfl (by first | rfl | decide) (g := (mkF m 48 #[vR a1, vR ac, vI 0, vI 2, .val .null, vR x8] [(.int 0), (.ref a1)])) rfl rfl (hb hby d2_48)
    have Fw16 := f14.same W16
    have N16 := Fr.snoc X16 N12 g1
    have pre17 := fun t (kt : At p e below T16 m 51 #[vR a1, vR ac, vI 0, vI 2, .val .null, vR x8] [] t) => pre13 t (st16 _ kt)
    have f18 := ((Fv.keep K8 nin0).other W16 (Or.inr (slot_ne (Or.inr (wd hw 18 rfl)) (Or.inr (wd hw 19 rfl)) (by decide) (t := (.array .byte)) (t' := .byte) (by decide) (by decide))))
    have f19 := (f15.wr W16)
    have pre20 := fun t (kt : At p e below T16 m 54 #[vR a1, vR ac, vI 0, vI 2, .val .null, vR x8] [(.ref x8), (.ref a1)] t) => pre17 t (by
      show At p e below T16 m 51 #[vR a1, vR ac, vI 0, vI 2, .val .null, vR x8] [] _
      refine XS.aloadN X16.here hx rfl (hb hby d2_51) rfl rfl ?_
      show At p e below T16 m 52 #[vR a1, vR ac, vI 0, vI 2, .val .null, vR x8] [(.ref a1)] _
      refine XS.aload X16.here hx rfl (hb hby d2_52) rfl rfl ?_
      exact kt)
    obtain ⟨T21, h21, X21, e21, W21, st21⟩ := putF X16 hx hZ hown (host := "") (Or.inl (wd hw 22 rfl)) Via.refl e16 f18 f19 (Or.inr ⟨(wd hw 18 rfl), rfl, hnm⟩) (wd hw 4 rfl) (ty := (.array .byte)) (by decide) rfl rfl (g := (mkF m 54 #[vR a1, vR ac, vI 0, vI 2, .val .null, vR x8] [(.ref x8), (.ref a1)])) rfl rfl (hb hby d2_54)
    have Fw21 := f18.same W21
    have N21 := Fr.snoc X21 N16 g1
    have pre22 := fun t (kt : At p e below T21 m 57 #[vR a1, vR ac, vI 0, vI 2, .val .null, vR x8] [] t) => pre20 t (st21 _ kt)
    have k23 : Keep h0 h21 [a1] := (((K0.trans K8 all0).wr W16 (Or.inl (List.mem_of_getElem? (i := 0) rfl))).wr W21 (Or.inl (List.mem_of_getElem? (i := 0) rfl)))
    have f24 := (f19.wr W21)
    have f25 := (Fw16.other W21 (Or.inr (slot_ne (Or.inr (wd hw 19 rfl)) (Or.inr (wd hw 18 rfl)) (by decide) (t := .byte) (t' := (.array .byte)) (by decide) (by decide))))
    have f26 := ((Va8.other W16 (Ne.symm (Nat.ne_of_lt (Nat.lt_of_lt_of_le E1.lt sx8)))).other W21 (Ne.symm (Nat.ne_of_lt (Nat.lt_of_lt_of_le E1.lt sx8))))
    obtain ⟨fs, hr, hrun, hended, hW, hsame⟩ := X21.leave (v := none) (fun _ => rfl)
    refine ⟨_, _, pre22 _ ?_, hrun, hended, _, _, rfl, ?_, ⟨_, rfl⟩, hW, hsame.mono (by decide) (by decide)⟩
    · show At p e below T21 m 57 #[vR a1, vR ac, vI 0, vI 2, .val .null, vR x8] [] _
      exact X21.returnOut hx Bd.returns (hb hby d2_57) hr
    · show Q2_2 Z a1 ac kc cs q1 q2 h0 n0 _ T21.heap _
      rw [e21]
      exact ⟨rfl, N21, k23, f24, _, _, Fw21, Or.inl ⟨kall, f25, f26⟩⟩
  · have z27 : n0 ≤ T8.heap.size := (Nat.le_trans Z0 K8.1)
    have pre28 := fun t (kt : At p e below T8 m 45 #[vR a1, vR ac, vI 0, vI 2, .val .null, vR x8] [(.int 2), (.ref x8), (.ref a1)] t) => pre9 t (by
      show At p e below T8 m 39 #[vR a1, vR ac, vI 0, vI 2, .val .null, vU] [(.ref x8)] _
      refine XS.astore X8.here hx rfl (hb hby d2_39) rfl rfl (l' := #[vR a1, vR ac, vI 0, vI 2, .val .null, vR x8]) rfl ?_
      show At p e below T8 m 41 #[vR a1, vR ac, vI 0, vI 2, .val .null, vR x8] [] _
      refine XS.aloadN X8.here hx rfl (hb hby d2_41) rfl rfl ?_
      show At p e below T8 m 42 #[vR a1, vR ac, vI 0, vI 2, .val .null, vR x8] [(.ref a1)] _
      refine XS.aload X8.here hx rfl (hb hby d2_42) rfl rfl ?_
      show At p e below T8 m 44 #[vR a1, vR ac, vI 0, vI 2, .val .null, vR x8] [(.ref x8), (.ref a1)] _
      refine XS.iloadN X8.here hx rfl (hb hby d2_44) rfl ?_
      exact kt)
    obtain ⟨_, _, ⟨T29, L29, kc29, nc29⟩, -, X29, ⟨Lc29, hQ29, l29, y29, z29⟩, st29⟩ := Jvm.LawKit.callS X8 hx (y := (⟨"java/lang/StringUTF16", "coderFromArrayLen", "([BI)B"⟩ : MethodName)) hown (mvT hZ (wd hw 75 rfl)) (mvT hZ (wd hw 76 rfl)) (mvT hZ (wd hw 70 rfl)) (mvT hZ (wd hw 77 rfl)) (by decide) (backOf (W := 1) (rm16 l Z a0 hw [] x8 kx8 _ (2 : Int32) (4 : Int32) (1 : Int32) T8.heap n0 z27 Va8 (by decide)) hZ (wd hw 77 rfl) (wd hw 70 rfl) (by decide) (by decide)) (g := (mkF m 45 #[vR a1, vR ac, vI 0, vI 2, .val .null, vR x8] [(.int 2), (.ref x8), (.ref a1)])) rfl (by rw [hml]; rfl) (argsL := [(.ref x8), (.int 2)]) (rest := [(.ref a1)]) (lenOf pd_6 rfl) rfl (by show 2 * 0 + _ ≤ _; exact Nat.le_of_eq rfl) (hb hby d2_45) (fun _ _ => ⟨rfl, rfl, (by decide : 2 + 0 ≤ _), (by decide : 6 + 0 ≤ _)⟩)
    dsimp only [Pt.U, Pt.locs, Pt.cells, Pt.slots] at X29 l29 y29 z29 st29 hQ29
    subst l29 y29 z29
    obtain ⟨rfl, N29q, he29⟩ := hQ29
    have N29 := Fr.app N8 N29q
    have pre30 := fun t (kt : At p e below T29 m 48 #[vR a1, vR ac, vI 0, vI 2, .val .null, vR x8] [(.int 1), (.ref a1)] t) => pre28 t (st29 _ kt)
    have f31 := (Fc.keep K8 nin0)
    have f32 := (E1.keep K8)
    obtain ⟨T33, h33, X33, e33, W33, st33⟩ := putFN X29 hx hZ hown (wd hw 23 rfl) Via.refl he29 f31 f32 (Or.inr ⟨(wd hw 19 rfl), rfl, hnm⟩) (wd hw 4 rfl) (ty := .byte) (v' := (.int 1)) (by decide) rfl (by first | rfl | decide) (g := (mkF m 48 #[vR a1, vR ac, vI 0, vI 2, .val .null, vR x8] [(.int 1), (.ref a1)])) rfl rfl (hb hby d2_48)
    have Fw33 := f31.same W33
    have N33 := Fr.snoc X33 N29 g1
    have pre34 := fun t (kt : At p e below T33 m 51 #[vR a1, vR ac, vI 0, vI 2, .val .null, vR x8] [] t) => pre30 t (st33 _ kt)
    have f35 := ((Fv.keep K8 nin0).other W33 (Or.inr (slot_ne (Or.inr (wd hw 18 rfl)) (Or.inr (wd hw 19 rfl)) (by decide) (t := (.array .byte)) (t' := .byte) (by decide) (by decide))))
    have f36 := (f32.wr W33)
    have pre37 := fun t (kt : At p e below T33 m 54 #[vR a1, vR ac, vI 0, vI 2, .val .null, vR x8] [(.ref x8), (.ref a1)] t) => pre34 t (by
      show At p e below T33 m 51 #[vR a1, vR ac, vI 0, vI 2, .val .null, vR x8] [] _
      refine XS.aloadN X33.here hx rfl (hb hby d2_51) rfl rfl ?_
      show At p e below T33 m 52 #[vR a1, vR ac, vI 0, vI 2, .val .null, vR x8] [(.ref a1)] _
      refine XS.aload X33.here hx rfl (hb hby d2_52) rfl rfl ?_
      exact kt)
    obtain ⟨T38, h38, X38, e38, W38, st38⟩ := putF X33 hx hZ hown (host := "") (Or.inl (wd hw 22 rfl)) Via.refl e33 f35 f36 (Or.inr ⟨(wd hw 18 rfl), rfl, hnm⟩) (wd hw 4 rfl) (ty := (.array .byte)) (by decide) rfl rfl (g := (mkF m 54 #[vR a1, vR ac, vI 0, vI 2, .val .null, vR x8] [(.ref x8), (.ref a1)])) rfl rfl (hb hby d2_54)
    have Fw38 := f35.same W38
    have N38 := Fr.snoc X38 N33 g1
    have pre39 := fun t (kt : At p e below T38 m 57 #[vR a1, vR ac, vI 0, vI 2, .val .null, vR x8] [] t) => pre37 t (st38 _ kt)
    have k40 : Keep h0 h38 [a1] := (((K0.trans K8 all0).wr W33 (Or.inl (List.mem_of_getElem? (i := 0) rfl))).wr W38 (Or.inl (List.mem_of_getElem? (i := 0) rfl)))
    have f41 := (f36.wr W38)
    have f42 := (Fw33.other W38 (Or.inr (slot_ne (Or.inr (wd hw 19 rfl)) (Or.inr (wd hw 18 rfl)) (by decide) (t := .byte) (t' := (.array .byte)) (by decide) (by decide))))
    have f43 := ((Va8.other W33 (Ne.symm (Nat.ne_of_lt (Nat.lt_of_lt_of_le E1.lt sx8)))).other W38 (Ne.symm (Nat.ne_of_lt (Nat.lt_of_lt_of_le E1.lt sx8))))
    obtain ⟨fs, hr, hrun, hended, hW, hsame⟩ := X38.leave (v := none) (fun _ => rfl)
    refine ⟨_, _, pre39 _ ?_, hrun, hended, _, _, rfl, ?_, ⟨_, rfl⟩, hW, hsame.mono (by decide) (by decide)⟩
    · show At p e below T38 m 57 #[vR a1, vR ac, vI 0, vI 2, .val .null, vR x8] [] _
      exact X38.returnOut hx Bd.returns (hb hby d2_57) hr
    · show Q2_2 Z a1 ac kc cs q1 q2 h0 n0 _ T38.heap _
      rw [e38]
      exact ⟨rfl, N38, k40, f41, _, _, Fw38, Or.inr ⟨trivial, f42, f43⟩⟩
theorem ef_2_3 (m : MethodId) (a1 : Addr) (ac : Addr) : entryFrame m #[(.ref a1), (.ref ac), (.int 0), (.int 3), .null] 6 = (mkF m 0 #[vR a1, vR ac, vI 0, vI 3, .val .null, vU] []) := by first | (simp [entryFrame, mkF, argsToLocals, Value.category]; done) | rfl
def Q2_3 (Z : State) (a1 : Addr) (ac : Addr) (kc : ClassId) (cs : Int32) (q1 : Int32) (q2 : Int32) (q3 : Int32) (h0 : Heap) (n0 : Nat) (v : Option Value) (h : Heap) (L : List Loc) : Prop := v = none ∧ Fr n0 L ∧ Keep h0 h [a1] ∧ own_str Z h a1 (3 : Int32) (6 : Int32) [(.int (nar .byte (q1.toInt8.toInt32))), (.int (nar .byte (q2.toInt8.toInt32))), (.int (nar .byte (q3.toInt8.toInt32)))] [(.int (nar .byte ((q1 >>> ((0 : Int32) &&& 31)).toInt8.toInt32))), (.int (nar .byte ((q1 >>> ((8 : Int32) &&& 31)).toInt8.toInt32))), (.int (nar .byte ((q2 >>> ((0 : Int32) &&& 31)).toInt8.toInt32))), (.int (nar .byte ((q2 >>> ((8 : Int32) &&& 31)).toInt8.toInt32))), (.int (nar .byte ((q3 >>> ((0 : Int32) &&& 31)).toInt8.toInt32))), (.int (nar .byte ((q3 >>> ((8 : Int32) &&& 31)).toInt8.toInt32)))] (¬ ((255 : Int32) < q1) ∧ ¬ ((255 : Int32) < q2) ∧ ¬ ((255 : Int32) < q3) ∧ True) True
set_option maxRecDepth 65536 in
set_option maxHeartbeats 40000000 in
theorem rm2_3 (l : Launch) (Z : State) (a0 : Array Value) (hw : ∀ d ∈ tables_1, d.before a0 Z = true) (ws : List Jvm.Cond) (a1 : Addr) (ac : Addr) (kc : ClassId) (cs : Int32) (q1 : Int32) (q2 : Int32) (q3 : Int32) (h0 : Heap) (n0 : Nat) (O0 : Old Z n0 h0) (E1 : Exa Z h0 a1 "java/lang/String") (Fv : Fld Z h0 a1 "java/lang/String" "value" "[B" .null) (Fc : Fld Z h0 a1 "java/lang/String" "coder" "B" (.int 0)) (g1 : n0 ≤ a1) (SC : Sta Z Z.heap "java/lang/String" "COMPACT_STRINGS" "Z" (.int cs)) (hcs : ¬ (cs = (0 : Int32))) (SA : Sta Z Z.heap "java/lang/StringUTF16" "$assertionsDisabled" "Z" (.int 1)) (SH : Sta Z Z.heap "java/lang/StringUTF16" "HI_BYTE_SHIFT" "I" (.int 0)) (SL : Sta Z Z.heap "java/lang/StringUTF16" "LO_BYTE_SHIFT" "I" (.int 8)) (Vc : Arv Z h0 ac kc .char (3 : Int32) [(.int q1), (.int q2), (.int q3)] (.int 0)) (R1 : own_R q1) (R2 : own_R q2) (R3 : own_R q3) :
    MetFree l (⟨"java/lang/String", "<init>", "([CIILjava/lang/Void;)V"⟩ : MethodName) (head1 (Jvm.Cond.code (⟨"java/lang/String", "<init>", "([CIILjava/lang/Void;)V"⟩ : MethodName) jdk_42_method_149_code 6 none :: ws) ({ frames := 4, cells := 2, slots := 9, locals := 57 } : Room)) (fun a U => a = #[(.ref a1), (.ref ac), (.int 0), (.int 3), .null] ∧ Z.Warmed39 U.vm ∧ U.heap = h0) (fun _ _ _ _ _ => True) (fun _ U o U' => ∃ v L, o = .returned v ∧ Q2_3 Z a1 ac kc cs q1 q2 q3 h0 n0 v U'.heap L ∧ FrameEnd U o U' L ({ frames := 4, cells := 2, slots := 9, locals := 57 } : Room).cells ({ frames := 4, cells := 2, slots := 9, locals := 57 } : Room).slots) := by
  refine MetFree.of_bodySF (plainFor_of_name pn_4) hisR ?_
  intro p e s m args below meth c s₁ Bd hml0 hP hK
  obtain ⟨rfl, hZ, hh⟩ := hP
  have hx := Bd.exec
  have hby := Bd.bytes
  have hml : c.maxLocals = 6 := hml0
  have hown : s.vm.findClass "java/lang/String" = some m.cls := findClass_of_methodNamed Bd.named
  have hnm := (name_of_methodNamed Bd.named Bd.method).1
  have X0 : Stand p l e ({ frames := 4, cells := 2, slots := 9, locals := 57 } : Room) s m #[(.ref a1), (.ref ac), (.int 0), (.int 3), .null] below meth c s₁ [] 0 0 := Stand.of_body Bd
  have e0 : s₁.heap = h0 := by rw [← hh, Bd.state]; rfl
  have N0 := Fr.nil n0
  have Z0 : n0 ≤ h0.size := O0.1 ▸ O0.2.1
  have K0 : Keep h0 h0 [a1] := Keep.refl _ _
  have pre0 : ∀ t, At p e below s₁ m 0 #[vR a1, vR ac, vI 0, vI 3, .val .null, vU] [] t → Steps p.tables e below (s₁.setTop (entryFrame m #[(.ref a1), (.ref ac), (.int 0), (.int 3), .null] 6)) t := fun t k => castTop (ef_2_3 m a1 ac) k
  have pre1 := fun t (kt : At p e below s₁ m 1 #[vR a1, vR ac, vI 0, vI 3, .val .null, vU] [(.ref a1)] t) => pre0 t (by
    show At p e below s₁ m 0 #[vR a1, vR ac, vI 0, vI 3, .val .null, vU] [] _
    refine XS.aloadN X0.here hx rfl (hb hby d2_0) rfl rfl ?_
    exact kt)
  obtain ⟨T2, X2, e2, st2⟩ := initO X0 hx hZ hown (wd hw 13 rfl) (wd hw 14 rfl) (wd hw 15 rfl) e0 (g := (mkF m 1 #[vR a1, vR ac, vI 0, vI 3, .val .null, vU] [(.ref a1)])) rfl (by rw [hml]; rfl) rfl (hb hby d2_1) (by decide) (W := 0) (by show 2 * 0 + _ ≤ _; exact Nat.le_of_eq rfl) (by decide)
  have pre3 := fun t (kt : At p e below T2 m 4 #[vR a1, vR ac, vI 0, vI 3, .val .null, vU] [] t) => pre1 t (st2 _ kt)
  have pre4 := fun t (kt : At p e below T2 m 27 #[vR a1, vR ac, vI 0, vI 3, .val .null, vU] [] t) => pre3 t (by
    show At p e below T2 m 4 #[vR a1, vR ac, vI 0, vI 3, .val .null, vU] [] _
    refine XS.iloadN X2.here hx rfl (hb hby d2_4) rfl ?_
    show At p e below T2 m 5 #[vR a1, vR ac, vI 0, vI 3, .val .null, vU] [(.int 3)] _
    refine XS.ifYes X2.here hx rfl (pc0 := 5) (pc' := 27) rfl (hb hby d2_5) rfl ((if0 _ _).trans (feq (by decide : ¬ ((3 : Int32) = (0 : Int32)))).2) (by decide) (by decide) ?_
    exact kt)
  obtain ⟨T5, X5, e5, st5⟩ := getS2 X2 hx hZ hown (host := "") (Or.inl (wd hw 43 rfl)) Via.refl e2 (SC.ext O0.2) (g := (mkF m 27 #[vR a1, vR ac, vI 0, vI 3, .val .null, vU] [])) rfl (hb hby d2_27)
  have pre6 := fun t (kt : At p e below T5 m 30 #[vR a1, vR ac, vI 0, vI 3, .val .null, vU] [(.int cs)] t) => pre4 t (st5 _ kt)
  have pre7 := fun t (kt : At p e below T5 m 36 #[vR a1, vR ac, vI 0, vI 3, .val .null, vU] [(.int 3), (.int 0), (.ref ac)] t) => pre6 t (by
    show At p e below T5 m 30 #[vR a1, vR ac, vI 0, vI 3, .val .null, vU] [(.int cs)] _
    refine XS.ifNo X5.here hx rfl (hb hby d2_30) rfl ((if0 _ _).trans (feq (hcs : ¬ (cs = (0 : Int32)))).1) ?_
    show At p e below T5 m 33 #[vR a1, vR ac, vI 0, vI 3, .val .null, vU] [] _
    refine XS.aloadN X5.here hx rfl (hb hby d2_33) rfl rfl ?_
    show At p e below T5 m 34 #[vR a1, vR ac, vI 0, vI 3, .val .null, vU] [(.ref ac)] _
    refine XS.iloadN X5.here hx rfl (hb hby d2_34) rfl ?_
    show At p e below T5 m 35 #[vR a1, vR ac, vI 0, vI 3, .val .null, vU] [(.int 0), (.ref ac)] _
    refine XS.iloadN X5.here hx rfl (hb hby d2_35) rfl ?_
    exact kt)
  obtain ⟨_, _, ⟨T8, L8, kc8, nc8⟩, -, X8, ⟨Lc8, hQ8, l8, y8, z8⟩, st8⟩ := Jvm.LawKit.callS X5 hx (y := (⟨"java/lang/StringUTF16", "compress", "([CII)[B"⟩ : MethodName)) hown (mvT hZ (wd hw 68 rfl)) (mvT hZ (wd hw 69 rfl)) (mvT hZ (wd hw 70 rfl)) (mvT hZ (wd hw 71 rfl)) (by decide) (backOf (W := 0) (rm14_3 l Z a0 hw [] ac kc q1 q2 q3 h0 n0 O0 SA SH SL Vc R1 R2 R3) hZ (wd hw 71 rfl) (wd hw 70 rfl) (by decide) (by decide)) (g := (mkF m 36 #[vR a1, vR ac, vI 0, vI 3, .val .null, vU] [(.int 3), (.int 0), (.ref ac)])) rfl (by rw [hml]; rfl) (argsL := [(.ref ac), (.int 0), (.int 3)]) (rest := []) (lenOf pd_4 rfl) rfl (by show 2 * 0 + _ ≤ _; exact Nat.le_of_eq rfl) (hb hby d2_36) (fun _ _ => ⟨rfl, e5, (by decide : 0 + 2 ≤ _), (by decide : 0 + 9 ≤ _)⟩)
  dsimp only [Pt.U, Pt.locs, Pt.cells, Pt.slots] at X8 l8 y8 z8 st8 hQ8
  subst l8 y8 z8
  obtain ⟨x8, kx8, rfl, N8q, K8, sx8, gx8, hv8⟩ := hQ8
  have N8 := Fr.app N0 N8q
  have pre9 := fun t (kt : At p e below T8 m 39 #[vR a1, vR ac, vI 0, vI 3, .val .null, vU] [(.ref x8)] t) => pre7 t (st8 _ kt)
  rcases hv8 with ⟨kall, Va8⟩ | Va8
  · have z10 : n0 ≤ T8.heap.size := (Nat.le_trans Z0 K8.1)
    have pre11 := fun t (kt : At p e below T8 m 45 #[vR a1, vR ac, vI 0, vI 3, .val .null, vR x8] [(.int 3), (.ref x8), (.ref a1)] t) => pre9 t (by
      show At p e below T8 m 39 #[vR a1, vR ac, vI 0, vI 3, .val .null, vU] [(.ref x8)] _
      refine XS.astore X8.here hx rfl (hb hby d2_39) rfl rfl (l' := #[vR a1, vR ac, vI 0, vI 3, .val .null, vR x8]) rfl ?_
      show At p e below T8 m 41 #[vR a1, vR ac, vI 0, vI 3, .val .null, vR x8] [] _
      refine XS.aloadN X8.here hx rfl (hb hby d2_41) rfl rfl ?_
      show At p e below T8 m 42 #[vR a1, vR ac, vI 0, vI 3, .val .null, vR x8] [(.ref a1)] _
      refine XS.aload X8.here hx rfl (hb hby d2_42) rfl rfl ?_
      show At p e below T8 m 44 #[vR a1, vR ac, vI 0, vI 3, .val .null, vR x8] [(.ref x8), (.ref a1)] _
      refine XS.iloadN X8.here hx rfl (hb hby d2_44) rfl ?_
      exact kt)
    obtain ⟨_, _, ⟨T12, L12, kc12, nc12⟩, -, X12, ⟨Lc12, hQ12, l12, y12, z12⟩, st12⟩ := Jvm.LawKit.callS X8 hx (y := (⟨"java/lang/StringUTF16", "coderFromArrayLen", "([BI)B"⟩ : MethodName)) hown (mvT hZ (wd hw 75 rfl)) (mvT hZ (wd hw 76 rfl)) (mvT hZ (wd hw 70 rfl)) (mvT hZ (wd hw 77 rfl)) (by decide) (backOf (W := 1) (rm16 l Z a0 hw [] x8 kx8 _ (3 : Int32) (3 : Int32) (0 : Int32) T8.heap n0 z10 Va8 (by decide)) hZ (wd hw 77 rfl) (wd hw 70 rfl) (by decide) (by decide)) (g := (mkF m 45 #[vR a1, vR ac, vI 0, vI 3, .val .null, vR x8] [(.int 3), (.ref x8), (.ref a1)])) rfl (by rw [hml]; rfl) (argsL := [(.ref x8), (.int 3)]) (rest := [(.ref a1)]) (lenOf pd_6 rfl) rfl (by show 2 * 0 + _ ≤ _; exact Nat.le_of_eq rfl) (hb hby d2_45) (fun _ _ => ⟨rfl, rfl, (by decide : 2 + 0 ≤ _), (by decide : 9 + 0 ≤ _)⟩)
    dsimp only [Pt.U, Pt.locs, Pt.cells, Pt.slots] at X12 l12 y12 z12 st12 hQ12
    subst l12 y12 z12
    obtain ⟨rfl, N12q, he12⟩ := hQ12
    have N12 := Fr.app N8 N12q
    have pre13 := fun t (kt : At p e below T12 m 48 #[vR a1, vR ac, vI 0, vI 3, .val .null, vR x8] [(.int 0), (.ref a1)] t) => pre11 t (st12 _ kt)
    have f14 := (Fc.keep K8 nin0)
    have f15 := (E1.keep K8)
    obtain ⟨T16, h16, X16, e16, W16, st16⟩ := putFN X12 hx hZ hown (wd hw 23 rfl) Via.refl he12 f14 f15 (Or.inr ⟨(wd hw 19 rfl), rfl, hnm⟩) (wd hw 4 rfl) (ty := .byte) (v' := (.int 0)) (by decide) rfl (by first | rfl | decide) (g := (mkF m 48 #[vR a1, vR ac, vI 0, vI 3, .val .null, vR x8] [(.int 0), (.ref a1)])) rfl rfl (hb hby d2_48)
    have Fw16 := f14.same W16
    have N16 := Fr.snoc X16 N12 g1
    have pre17 := fun t (kt : At p e below T16 m 51 #[vR a1, vR ac, vI 0, vI 3, .val .null, vR x8] [] t) => pre13 t (st16 _ kt)
    have f18 := ((Fv.keep K8 nin0).other W16 (Or.inr (slot_ne (Or.inr (wd hw 18 rfl)) (Or.inr (wd hw 19 rfl)) (by decide) (t := (.array .byte)) (t' := .byte) (by decide) (by decide))))
    have f19 := (f15.wr W16)
    have pre20 := fun t (kt : At p e below T16 m 54 #[vR a1, vR ac, vI 0, vI 3, .val .null, vR x8] [(.ref x8), (.ref a1)] t) => pre17 t (by
      show At p e below T16 m 51 #[vR a1, vR ac, vI 0, vI 3, .val .null, vR x8] [] _
      refine XS.aloadN X16.here hx rfl (hb hby d2_51) rfl rfl ?_
      show At p e below T16 m 52 #[vR a1, vR ac, vI 0, vI 3, .val .null, vR x8] [(.ref a1)] _
      refine XS.aload X16.here hx rfl (hb hby d2_52) rfl rfl ?_
      exact kt)
    obtain ⟨T21, h21, X21, e21, W21, st21⟩ := putF X16 hx hZ hown (host := "") (Or.inl (wd hw 22 rfl)) Via.refl e16 f18 f19 (Or.inr ⟨(wd hw 18 rfl), rfl, hnm⟩) (wd hw 4 rfl) (ty := (.array .byte)) (by decide) rfl rfl (g := (mkF m 54 #[vR a1, vR ac, vI 0, vI 3, .val .null, vR x8] [(.ref x8), (.ref a1)])) rfl rfl (hb hby d2_54)
    have Fw21 := f18.same W21
    have N21 := Fr.snoc X21 N16 g1
    have pre22 := fun t (kt : At p e below T21 m 57 #[vR a1, vR ac, vI 0, vI 3, .val .null, vR x8] [] t) => pre20 t (st21 _ kt)
    have k23 : Keep h0 h21 [a1] := (((K0.trans K8 all0).wr W16 (Or.inl (List.mem_of_getElem? (i := 0) rfl))).wr W21 (Or.inl (List.mem_of_getElem? (i := 0) rfl)))
    have f24 := (f19.wr W21)
    have f25 := (Fw16.other W21 (Or.inr (slot_ne (Or.inr (wd hw 19 rfl)) (Or.inr (wd hw 18 rfl)) (by decide) (t := .byte) (t' := (.array .byte)) (by decide) (by decide))))
    have f26 := ((Va8.other W16 (Ne.symm (Nat.ne_of_lt (Nat.lt_of_lt_of_le E1.lt sx8)))).other W21 (Ne.symm (Nat.ne_of_lt (Nat.lt_of_lt_of_le E1.lt sx8))))
    obtain ⟨fs, hr, hrun, hended, hW, hsame⟩ := X21.leave (v := none) (fun _ => rfl)
    refine ⟨_, _, pre22 _ ?_, hrun, hended, _, _, rfl, ?_, ⟨_, rfl⟩, hW, hsame.mono (by decide) (by decide)⟩
    · show At p e below T21 m 57 #[vR a1, vR ac, vI 0, vI 3, .val .null, vR x8] [] _
      exact X21.returnOut hx Bd.returns (hb hby d2_57) hr
    · show Q2_3 Z a1 ac kc cs q1 q2 q3 h0 n0 _ T21.heap _
      rw [e21]
      exact ⟨rfl, N21, k23, f24, _, _, Fw21, Or.inl ⟨kall, f25, f26⟩⟩
  · have z27 : n0 ≤ T8.heap.size := (Nat.le_trans Z0 K8.1)
    have pre28 := fun t (kt : At p e below T8 m 45 #[vR a1, vR ac, vI 0, vI 3, .val .null, vR x8] [(.int 3), (.ref x8), (.ref a1)] t) => pre9 t (by
      show At p e below T8 m 39 #[vR a1, vR ac, vI 0, vI 3, .val .null, vU] [(.ref x8)] _
      refine XS.astore X8.here hx rfl (hb hby d2_39) rfl rfl (l' := #[vR a1, vR ac, vI 0, vI 3, .val .null, vR x8]) rfl ?_
      show At p e below T8 m 41 #[vR a1, vR ac, vI 0, vI 3, .val .null, vR x8] [] _
      refine XS.aloadN X8.here hx rfl (hb hby d2_41) rfl rfl ?_
      show At p e below T8 m 42 #[vR a1, vR ac, vI 0, vI 3, .val .null, vR x8] [(.ref a1)] _
      refine XS.aload X8.here hx rfl (hb hby d2_42) rfl rfl ?_
      show At p e below T8 m 44 #[vR a1, vR ac, vI 0, vI 3, .val .null, vR x8] [(.ref x8), (.ref a1)] _
      refine XS.iloadN X8.here hx rfl (hb hby d2_44) rfl ?_
      exact kt)
    obtain ⟨_, _, ⟨T29, L29, kc29, nc29⟩, -, X29, ⟨Lc29, hQ29, l29, y29, z29⟩, st29⟩ := Jvm.LawKit.callS X8 hx (y := (⟨"java/lang/StringUTF16", "coderFromArrayLen", "([BI)B"⟩ : MethodName)) hown (mvT hZ (wd hw 75 rfl)) (mvT hZ (wd hw 76 rfl)) (mvT hZ (wd hw 70 rfl)) (mvT hZ (wd hw 77 rfl)) (by decide) (backOf (W := 1) (rm16 l Z a0 hw [] x8 kx8 _ (3 : Int32) (6 : Int32) (1 : Int32) T8.heap n0 z27 Va8 (by decide)) hZ (wd hw 77 rfl) (wd hw 70 rfl) (by decide) (by decide)) (g := (mkF m 45 #[vR a1, vR ac, vI 0, vI 3, .val .null, vR x8] [(.int 3), (.ref x8), (.ref a1)])) rfl (by rw [hml]; rfl) (argsL := [(.ref x8), (.int 3)]) (rest := [(.ref a1)]) (lenOf pd_6 rfl) rfl (by show 2 * 0 + _ ≤ _; exact Nat.le_of_eq rfl) (hb hby d2_45) (fun _ _ => ⟨rfl, rfl, (by decide : 2 + 0 ≤ _), (by decide : 9 + 0 ≤ _)⟩)
    dsimp only [Pt.U, Pt.locs, Pt.cells, Pt.slots] at X29 l29 y29 z29 st29 hQ29
    subst l29 y29 z29
    obtain ⟨rfl, N29q, he29⟩ := hQ29
    have N29 := Fr.app N8 N29q
    have pre30 := fun t (kt : At p e below T29 m 48 #[vR a1, vR ac, vI 0, vI 3, .val .null, vR x8] [(.int 1), (.ref a1)] t) => pre28 t (st29 _ kt)
    have f31 := (Fc.keep K8 nin0)
    have f32 := (E1.keep K8)
    obtain ⟨T33, h33, X33, e33, W33, st33⟩ := putFN X29 hx hZ hown (wd hw 23 rfl) Via.refl he29 f31 f32 (Or.inr ⟨(wd hw 19 rfl), rfl, hnm⟩) (wd hw 4 rfl) (ty := .byte) (v' := (.int 1)) (by decide) rfl (by first | rfl | decide) (g := (mkF m 48 #[vR a1, vR ac, vI 0, vI 3, .val .null, vR x8] [(.int 1), (.ref a1)])) rfl rfl (hb hby d2_48)
    have Fw33 := f31.same W33
    have N33 := Fr.snoc X33 N29 g1
    have pre34 := fun t (kt : At p e below T33 m 51 #[vR a1, vR ac, vI 0, vI 3, .val .null, vR x8] [] t) => pre30 t (st33 _ kt)
    have f35 := ((Fv.keep K8 nin0).other W33 (Or.inr (slot_ne (Or.inr (wd hw 18 rfl)) (Or.inr (wd hw 19 rfl)) (by decide) (t := (.array .byte)) (t' := .byte) (by decide) (by decide))))
    have f36 := (f32.wr W33)
    have pre37 := fun t (kt : At p e below T33 m 54 #[vR a1, vR ac, vI 0, vI 3, .val .null, vR x8] [(.ref x8), (.ref a1)] t) => pre34 t (by
      show At p e below T33 m 51 #[vR a1, vR ac, vI 0, vI 3, .val .null, vR x8] [] _
      refine XS.aloadN X33.here hx rfl (hb hby d2_51) rfl rfl ?_
      show At p e below T33 m 52 #[vR a1, vR ac, vI 0, vI 3, .val .null, vR x8] [(.ref a1)] _
      refine XS.aload X33.here hx rfl (hb hby d2_52) rfl rfl ?_
      exact kt)
    obtain ⟨T38, h38, X38, e38, W38, st38⟩ := putF X33 hx hZ hown (host := "") (Or.inl (wd hw 22 rfl)) Via.refl e33 f35 f36 (Or.inr ⟨(wd hw 18 rfl), rfl, hnm⟩) (wd hw 4 rfl) (ty := (.array .byte)) (by decide) rfl rfl (g := (mkF m 54 #[vR a1, vR ac, vI 0, vI 3, .val .null, vR x8] [(.ref x8), (.ref a1)])) rfl rfl (hb hby d2_54)
    have Fw38 := f35.same W38
    have N38 := Fr.snoc X38 N33 g1
    have pre39 := fun t (kt : At p e below T38 m 57 #[vR a1, vR ac, vI 0, vI 3, .val .null, vR x8] [] t) => pre37 t (st38 _ kt)
    have k40 : Keep h0 h38 [a1] := (((K0.trans K8 all0).wr W33 (Or.inl (List.mem_of_getElem? (i := 0) rfl))).wr W38 (Or.inl (List.mem_of_getElem? (i := 0) rfl)))
    have f41 := (f36.wr W38)
    have f42 := (Fw33.other W38 (Or.inr (slot_ne (Or.inr (wd hw 19 rfl)) (Or.inr (wd hw 18 rfl)) (by decide) (t := .byte) (t' := (.array .byte)) (by decide) (by decide))))
    have f43 := ((Va8.other W33 (Ne.symm (Nat.ne_of_lt (Nat.lt_of_lt_of_le E1.lt sx8)))).other W38 (Ne.symm (Nat.ne_of_lt (Nat.lt_of_lt_of_le E1.lt sx8))))
    obtain ⟨fs, hr, hrun, hended, hW, hsame⟩ := X38.leave (v := none) (fun _ => rfl)
    refine ⟨_, _, pre39 _ ?_, hrun, hended, _, _, rfl, ?_, ⟨_, rfl⟩, hW, hsame.mono (by decide) (by decide)⟩
    · show At p e below T38 m 57 #[vR a1, vR ac, vI 0, vI 3, .val .null, vR x8] [] _
      exact X38.returnOut hx Bd.returns (hb hby d2_57) hr
    · show Q2_3 Z a1 ac kc cs q1 q2 q3 h0 n0 _ T38.heap _
      rw [e38]
      exact ⟨rfl, N38, k40, f41, _, _, Fw38, Or.inr ⟨trivial, f42, f43⟩⟩
theorem ef_2_4 (m : MethodId) (a1 : Addr) (ac : Addr) : entryFrame m #[(.ref a1), (.ref ac), (.int 0), (.int 4), .null] 6 = (mkF m 0 #[vR a1, vR ac, vI 0, vI 4, .val .null, vU] []) := by first | (simp [entryFrame, mkF, argsToLocals, Value.category]; done) | rfl
def Q2_4 (Z : State) (a1 : Addr) (ac : Addr) (kc : ClassId) (cs : Int32) (q1 : Int32) (q2 : Int32) (q3 : Int32) (q4 : Int32) (h0 : Heap) (n0 : Nat) (v : Option Value) (h : Heap) (L : List Loc) : Prop := v = none ∧ Fr n0 L ∧ Keep h0 h [a1] ∧ own_str Z h a1 (4 : Int32) (8 : Int32) [(.int (nar .byte (q1.toInt8.toInt32))), (.int (nar .byte (q2.toInt8.toInt32))), (.int (nar .byte (q3.toInt8.toInt32))), (.int (nar .byte (q4.toInt8.toInt32)))] [(.int (nar .byte ((q1 >>> ((0 : Int32) &&& 31)).toInt8.toInt32))), (.int (nar .byte ((q1 >>> ((8 : Int32) &&& 31)).toInt8.toInt32))), (.int (nar .byte ((q2 >>> ((0 : Int32) &&& 31)).toInt8.toInt32))), (.int (nar .byte ((q2 >>> ((8 : Int32) &&& 31)).toInt8.toInt32))), (.int (nar .byte ((q3 >>> ((0 : Int32) &&& 31)).toInt8.toInt32))), (.int (nar .byte ((q3 >>> ((8 : Int32) &&& 31)).toInt8.toInt32))), (.int (nar .byte ((q4 >>> ((0 : Int32) &&& 31)).toInt8.toInt32))), (.int (nar .byte ((q4 >>> ((8 : Int32) &&& 31)).toInt8.toInt32)))] (¬ ((255 : Int32) < q1) ∧ ¬ ((255 : Int32) < q2) ∧ ¬ ((255 : Int32) < q3) ∧ ¬ ((255 : Int32) < q4) ∧ True) True
set_option maxRecDepth 65536 in
set_option maxHeartbeats 40000000 in
theorem rm2_4 (l : Launch) (Z : State) (a0 : Array Value) (hw : ∀ d ∈ tables_1, d.before a0 Z = true) (ws : List Jvm.Cond) (a1 : Addr) (ac : Addr) (kc : ClassId) (cs : Int32) (q1 : Int32) (q2 : Int32) (q3 : Int32) (q4 : Int32) (h0 : Heap) (n0 : Nat) (O0 : Old Z n0 h0) (E1 : Exa Z h0 a1 "java/lang/String") (Fv : Fld Z h0 a1 "java/lang/String" "value" "[B" .null) (Fc : Fld Z h0 a1 "java/lang/String" "coder" "B" (.int 0)) (g1 : n0 ≤ a1) (SC : Sta Z Z.heap "java/lang/String" "COMPACT_STRINGS" "Z" (.int cs)) (hcs : ¬ (cs = (0 : Int32))) (SA : Sta Z Z.heap "java/lang/StringUTF16" "$assertionsDisabled" "Z" (.int 1)) (SH : Sta Z Z.heap "java/lang/StringUTF16" "HI_BYTE_SHIFT" "I" (.int 0)) (SL : Sta Z Z.heap "java/lang/StringUTF16" "LO_BYTE_SHIFT" "I" (.int 8)) (Vc : Arv Z h0 ac kc .char (4 : Int32) [(.int q1), (.int q2), (.int q3), (.int q4)] (.int 0)) (R1 : own_R q1) (R2 : own_R q2) (R3 : own_R q3) (R4 : own_R q4) :
    MetFree l (⟨"java/lang/String", "<init>", "([CIILjava/lang/Void;)V"⟩ : MethodName) (head1 (Jvm.Cond.code (⟨"java/lang/String", "<init>", "([CIILjava/lang/Void;)V"⟩ : MethodName) jdk_42_method_149_code 6 none :: ws) ({ frames := 4, cells := 2, slots := 12, locals := 57 } : Room)) (fun a U => a = #[(.ref a1), (.ref ac), (.int 0), (.int 4), .null] ∧ Z.Warmed39 U.vm ∧ U.heap = h0) (fun _ _ _ _ _ => True) (fun _ U o U' => ∃ v L, o = .returned v ∧ Q2_4 Z a1 ac kc cs q1 q2 q3 q4 h0 n0 v U'.heap L ∧ FrameEnd U o U' L ({ frames := 4, cells := 2, slots := 12, locals := 57 } : Room).cells ({ frames := 4, cells := 2, slots := 12, locals := 57 } : Room).slots) := by
  refine MetFree.of_bodySF (plainFor_of_name pn_4) hisR ?_
  intro p e s m args below meth c s₁ Bd hml0 hP hK
  obtain ⟨rfl, hZ, hh⟩ := hP
  have hx := Bd.exec
  have hby := Bd.bytes
  have hml : c.maxLocals = 6 := hml0
  have hown : s.vm.findClass "java/lang/String" = some m.cls := findClass_of_methodNamed Bd.named
  have hnm := (name_of_methodNamed Bd.named Bd.method).1
  have X0 : Stand p l e ({ frames := 4, cells := 2, slots := 12, locals := 57 } : Room) s m #[(.ref a1), (.ref ac), (.int 0), (.int 4), .null] below meth c s₁ [] 0 0 := Stand.of_body Bd
  have e0 : s₁.heap = h0 := by rw [← hh, Bd.state]; rfl
  have N0 := Fr.nil n0
  have Z0 : n0 ≤ h0.size := O0.1 ▸ O0.2.1
  have K0 : Keep h0 h0 [a1] := Keep.refl _ _
  have pre0 : ∀ t, At p e below s₁ m 0 #[vR a1, vR ac, vI 0, vI 4, .val .null, vU] [] t → Steps p.tables e below (s₁.setTop (entryFrame m #[(.ref a1), (.ref ac), (.int 0), (.int 4), .null] 6)) t := fun t k => castTop (ef_2_4 m a1 ac) k
  have pre1 := fun t (kt : At p e below s₁ m 1 #[vR a1, vR ac, vI 0, vI 4, .val .null, vU] [(.ref a1)] t) => pre0 t (by
    show At p e below s₁ m 0 #[vR a1, vR ac, vI 0, vI 4, .val .null, vU] [] _
    refine XS.aloadN X0.here hx rfl (hb hby d2_0) rfl rfl ?_
    exact kt)
  obtain ⟨T2, X2, e2, st2⟩ := initO X0 hx hZ hown (wd hw 13 rfl) (wd hw 14 rfl) (wd hw 15 rfl) e0 (g := (mkF m 1 #[vR a1, vR ac, vI 0, vI 4, .val .null, vU] [(.ref a1)])) rfl (by rw [hml]; rfl) rfl (hb hby d2_1) (by decide) (W := 0) (by show 2 * 0 + _ ≤ _; exact Nat.le_of_eq rfl) (by decide)
  have pre3 := fun t (kt : At p e below T2 m 4 #[vR a1, vR ac, vI 0, vI 4, .val .null, vU] [] t) => pre1 t (st2 _ kt)
  have pre4 := fun t (kt : At p e below T2 m 27 #[vR a1, vR ac, vI 0, vI 4, .val .null, vU] [] t) => pre3 t (by
    show At p e below T2 m 4 #[vR a1, vR ac, vI 0, vI 4, .val .null, vU] [] _
    refine XS.iloadN X2.here hx rfl (hb hby d2_4) rfl ?_
    show At p e below T2 m 5 #[vR a1, vR ac, vI 0, vI 4, .val .null, vU] [(.int 4)] _
    refine XS.ifYes X2.here hx rfl (pc0 := 5) (pc' := 27) rfl (hb hby d2_5) rfl ((if0 _ _).trans (feq (by decide : ¬ ((4 : Int32) = (0 : Int32)))).2) (by decide) (by decide) ?_
    exact kt)
  obtain ⟨T5, X5, e5, st5⟩ := getS2 X2 hx hZ hown (host := "") (Or.inl (wd hw 43 rfl)) Via.refl e2 (SC.ext O0.2) (g := (mkF m 27 #[vR a1, vR ac, vI 0, vI 4, .val .null, vU] [])) rfl (hb hby d2_27)
  have pre6 := fun t (kt : At p e below T5 m 30 #[vR a1, vR ac, vI 0, vI 4, .val .null, vU] [(.int cs)] t) => pre4 t (st5 _ kt)
  have pre7 := fun t (kt : At p e below T5 m 36 #[vR a1, vR ac, vI 0, vI 4, .val .null, vU] [(.int 4), (.int 0), (.ref ac)] t) => pre6 t (by
    show At p e below T5 m 30 #[vR a1, vR ac, vI 0, vI 4, .val .null, vU] [(.int cs)] _
    refine XS.ifNo X5.here hx rfl (hb hby d2_30) rfl ((if0 _ _).trans (feq (hcs : ¬ (cs = (0 : Int32)))).1) ?_
    show At p e below T5 m 33 #[vR a1, vR ac, vI 0, vI 4, .val .null, vU] [] _
    refine XS.aloadN X5.here hx rfl (hb hby d2_33) rfl rfl ?_
    show At p e below T5 m 34 #[vR a1, vR ac, vI 0, vI 4, .val .null, vU] [(.ref ac)] _
    refine XS.iloadN X5.here hx rfl (hb hby d2_34) rfl ?_
    show At p e below T5 m 35 #[vR a1, vR ac, vI 0, vI 4, .val .null, vU] [(.int 0), (.ref ac)] _
    refine XS.iloadN X5.here hx rfl (hb hby d2_35) rfl ?_
    exact kt)
  obtain ⟨_, _, ⟨T8, L8, kc8, nc8⟩, -, X8, ⟨Lc8, hQ8, l8, y8, z8⟩, st8⟩ := Jvm.LawKit.callS X5 hx (y := (⟨"java/lang/StringUTF16", "compress", "([CII)[B"⟩ : MethodName)) hown (mvT hZ (wd hw 68 rfl)) (mvT hZ (wd hw 69 rfl)) (mvT hZ (wd hw 70 rfl)) (mvT hZ (wd hw 71 rfl)) (by decide) (backOf (W := 0) (rm14_4 l Z a0 hw [] ac kc q1 q2 q3 q4 h0 n0 O0 SA SH SL Vc R1 R2 R3 R4) hZ (wd hw 71 rfl) (wd hw 70 rfl) (by decide) (by decide)) (g := (mkF m 36 #[vR a1, vR ac, vI 0, vI 4, .val .null, vU] [(.int 4), (.int 0), (.ref ac)])) rfl (by rw [hml]; rfl) (argsL := [(.ref ac), (.int 0), (.int 4)]) (rest := []) (lenOf pd_4 rfl) rfl (by show 2 * 0 + _ ≤ _; exact Nat.le_of_eq rfl) (hb hby d2_36) (fun _ _ => ⟨rfl, e5, (by decide : 0 + 2 ≤ _), (by decide : 0 + 12 ≤ _)⟩)
  dsimp only [Pt.U, Pt.locs, Pt.cells, Pt.slots] at X8 l8 y8 z8 st8 hQ8
  subst l8 y8 z8
  obtain ⟨x8, kx8, rfl, N8q, K8, sx8, gx8, hv8⟩ := hQ8
  have N8 := Fr.app N0 N8q
  have pre9 := fun t (kt : At p e below T8 m 39 #[vR a1, vR ac, vI 0, vI 4, .val .null, vU] [(.ref x8)] t) => pre7 t (st8 _ kt)
  rcases hv8 with ⟨kall, Va8⟩ | Va8
  · have z10 : n0 ≤ T8.heap.size := (Nat.le_trans Z0 K8.1)
    have pre11 := fun t (kt : At p e below T8 m 45 #[vR a1, vR ac, vI 0, vI 4, .val .null, vR x8] [(.int 4), (.ref x8), (.ref a1)] t) => pre9 t (by
      show At p e below T8 m 39 #[vR a1, vR ac, vI 0, vI 4, .val .null, vU] [(.ref x8)] _
      refine XS.astore X8.here hx rfl (hb hby d2_39) rfl rfl (l' := #[vR a1, vR ac, vI 0, vI 4, .val .null, vR x8]) rfl ?_
      show At p e below T8 m 41 #[vR a1, vR ac, vI 0, vI 4, .val .null, vR x8] [] _
      refine XS.aloadN X8.here hx rfl (hb hby d2_41) rfl rfl ?_
      show At p e below T8 m 42 #[vR a1, vR ac, vI 0, vI 4, .val .null, vR x8] [(.ref a1)] _
      refine XS.aload X8.here hx rfl (hb hby d2_42) rfl rfl ?_
      show At p e below T8 m 44 #[vR a1, vR ac, vI 0, vI 4, .val .null, vR x8] [(.ref x8), (.ref a1)] _
      refine XS.iloadN X8.here hx rfl (hb hby d2_44) rfl ?_
      exact kt)
    obtain ⟨_, _, ⟨T12, L12, kc12, nc12⟩, -, X12, ⟨Lc12, hQ12, l12, y12, z12⟩, st12⟩ := Jvm.LawKit.callS X8 hx (y := (⟨"java/lang/StringUTF16", "coderFromArrayLen", "([BI)B"⟩ : MethodName)) hown (mvT hZ (wd hw 75 rfl)) (mvT hZ (wd hw 76 rfl)) (mvT hZ (wd hw 70 rfl)) (mvT hZ (wd hw 77 rfl)) (by decide) (backOf (W := 1) (rm16 l Z a0 hw [] x8 kx8 _ (4 : Int32) (4 : Int32) (0 : Int32) T8.heap n0 z10 Va8 (by decide)) hZ (wd hw 77 rfl) (wd hw 70 rfl) (by decide) (by decide)) (g := (mkF m 45 #[vR a1, vR ac, vI 0, vI 4, .val .null, vR x8] [(.int 4), (.ref x8), (.ref a1)])) rfl (by rw [hml]; rfl) (argsL := [(.ref x8), (.int 4)]) (rest := [(.ref a1)]) (lenOf pd_6 rfl) rfl (by show 2 * 0 + _ ≤ _; exact Nat.le_of_eq rfl) (hb hby d2_45) (fun _ _ => ⟨rfl, rfl, (by decide : 2 + 0 ≤ _), (by decide : 12 + 0 ≤ _)⟩)
    dsimp only [Pt.U, Pt.locs, Pt.cells, Pt.slots] at X12 l12 y12 z12 st12 hQ12
    subst l12 y12 z12
    obtain ⟨rfl, N12q, he12⟩ := hQ12
    have N12 := Fr.app N8 N12q
    have pre13 := fun t (kt : At p e below T12 m 48 #[vR a1, vR ac, vI 0, vI 4, .val .null, vR x8] [(.int 0), (.ref a1)] t) => pre11 t (st12 _ kt)
    have f14 := (Fc.keep K8 nin0)
    have f15 := (E1.keep K8)
    obtain ⟨T16, h16, X16, e16, W16, st16⟩ := putFN X12 hx hZ hown (wd hw 23 rfl) Via.refl he12 f14 f15 (Or.inr ⟨(wd hw 19 rfl), rfl, hnm⟩) (wd hw 4 rfl) (ty := .byte) (v' := (.int 0)) (by decide) rfl (by first | rfl | decide) (g := (mkF m 48 #[vR a1, vR ac, vI 0, vI 4, .val .null, vR x8] [(.int 0), (.ref a1)])) rfl rfl (hb hby d2_48)
    have Fw16 := f14.same W16
    have N16 := Fr.snoc X16 N12 g1
    have pre17 := fun t (kt : At p e below T16 m 51 #[vR a1, vR ac, vI 0, vI 4, .val .null, vR x8] [] t) => pre13 t (st16 _ kt)
    have f18 := ((Fv.keep K8 nin0).other W16 (Or.inr (slot_ne (Or.inr (wd hw 18 rfl)) (Or.inr (wd hw 19 rfl)) (by decide) (t := (.array .byte)) (t' := .byte) (by decide) (by decide))))
    have f19 := (f15.wr W16)
    have pre20 := fun t (kt : At p e below T16 m 54 #[vR a1, vR ac, vI 0, vI 4, .val .null, vR x8] [(.ref x8), (.ref a1)] t) => pre17 t (by
      show At p e below T16 m 51 #[vR a1, vR ac, vI 0, vI 4, .val .null, vR x8] [] _
      refine XS.aloadN X16.here hx rfl (hb hby d2_51) rfl rfl ?_
      show At p e below T16 m 52 #[vR a1, vR ac, vI 0, vI 4, .val .null, vR x8] [(.ref a1)] _
      refine XS.aload X16.here hx rfl (hb hby d2_52) rfl rfl ?_
      exact kt)
    obtain ⟨T21, h21, X21, e21, W21, st21⟩ := putF X16 hx hZ hown (host := "") (Or.inl (wd hw 22 rfl)) Via.refl e16 f18 f19 (Or.inr ⟨(wd hw 18 rfl), rfl, hnm⟩) (wd hw 4 rfl) (ty := (.array .byte)) (by decide) rfl rfl (g := (mkF m 54 #[vR a1, vR ac, vI 0, vI 4, .val .null, vR x8] [(.ref x8), (.ref a1)])) rfl rfl (hb hby d2_54)
    have Fw21 := f18.same W21
    have N21 := Fr.snoc X21 N16 g1
    have pre22 := fun t (kt : At p e below T21 m 57 #[vR a1, vR ac, vI 0, vI 4, .val .null, vR x8] [] t) => pre20 t (st21 _ kt)
    have k23 : Keep h0 h21 [a1] := (((K0.trans K8 all0).wr W16 (Or.inl (List.mem_of_getElem? (i := 0) rfl))).wr W21 (Or.inl (List.mem_of_getElem? (i := 0) rfl)))
    have f24 := (f19.wr W21)
    have f25 := (Fw16.other W21 (Or.inr (slot_ne (Or.inr (wd hw 19 rfl)) (Or.inr (wd hw 18 rfl)) (by decide) (t := .byte) (t' := (.array .byte)) (by decide) (by decide))))
    have f26 := ((Va8.other W16 (Ne.symm (Nat.ne_of_lt (Nat.lt_of_lt_of_le E1.lt sx8)))).other W21 (Ne.symm (Nat.ne_of_lt (Nat.lt_of_lt_of_le E1.lt sx8))))
    obtain ⟨fs, hr, hrun, hended, hW, hsame⟩ := X21.leave (v := none) (fun _ => rfl)
    refine ⟨_, _, pre22 _ ?_, hrun, hended, _, _, rfl, ?_, ⟨_, rfl⟩, hW, hsame.mono (by decide) (by decide)⟩
    · show At p e below T21 m 57 #[vR a1, vR ac, vI 0, vI 4, .val .null, vR x8] [] _
      exact X21.returnOut hx Bd.returns (hb hby d2_57) hr
    · show Q2_4 Z a1 ac kc cs q1 q2 q3 q4 h0 n0 _ T21.heap _
      rw [e21]
      exact ⟨rfl, N21, k23, f24, _, _, Fw21, Or.inl ⟨kall, f25, f26⟩⟩
  · have z27 : n0 ≤ T8.heap.size := (Nat.le_trans Z0 K8.1)
    have pre28 := fun t (kt : At p e below T8 m 45 #[vR a1, vR ac, vI 0, vI 4, .val .null, vR x8] [(.int 4), (.ref x8), (.ref a1)] t) => pre9 t (by
      show At p e below T8 m 39 #[vR a1, vR ac, vI 0, vI 4, .val .null, vU] [(.ref x8)] _
      refine XS.astore X8.here hx rfl (hb hby d2_39) rfl rfl (l' := #[vR a1, vR ac, vI 0, vI 4, .val .null, vR x8]) rfl ?_
      show At p e below T8 m 41 #[vR a1, vR ac, vI 0, vI 4, .val .null, vR x8] [] _
      refine XS.aloadN X8.here hx rfl (hb hby d2_41) rfl rfl ?_
      show At p e below T8 m 42 #[vR a1, vR ac, vI 0, vI 4, .val .null, vR x8] [(.ref a1)] _
      refine XS.aload X8.here hx rfl (hb hby d2_42) rfl rfl ?_
      show At p e below T8 m 44 #[vR a1, vR ac, vI 0, vI 4, .val .null, vR x8] [(.ref x8), (.ref a1)] _
      refine XS.iloadN X8.here hx rfl (hb hby d2_44) rfl ?_
      exact kt)
    obtain ⟨_, _, ⟨T29, L29, kc29, nc29⟩, -, X29, ⟨Lc29, hQ29, l29, y29, z29⟩, st29⟩ := Jvm.LawKit.callS X8 hx (y := (⟨"java/lang/StringUTF16", "coderFromArrayLen", "([BI)B"⟩ : MethodName)) hown (mvT hZ (wd hw 75 rfl)) (mvT hZ (wd hw 76 rfl)) (mvT hZ (wd hw 70 rfl)) (mvT hZ (wd hw 77 rfl)) (by decide) (backOf (W := 1) (rm16 l Z a0 hw [] x8 kx8 _ (4 : Int32) (8 : Int32) (1 : Int32) T8.heap n0 z27 Va8 (by decide)) hZ (wd hw 77 rfl) (wd hw 70 rfl) (by decide) (by decide)) (g := (mkF m 45 #[vR a1, vR ac, vI 0, vI 4, .val .null, vR x8] [(.int 4), (.ref x8), (.ref a1)])) rfl (by rw [hml]; rfl) (argsL := [(.ref x8), (.int 4)]) (rest := [(.ref a1)]) (lenOf pd_6 rfl) rfl (by show 2 * 0 + _ ≤ _; exact Nat.le_of_eq rfl) (hb hby d2_45) (fun _ _ => ⟨rfl, rfl, (by decide : 2 + 0 ≤ _), (by decide : 12 + 0 ≤ _)⟩)
    dsimp only [Pt.U, Pt.locs, Pt.cells, Pt.slots] at X29 l29 y29 z29 st29 hQ29
    subst l29 y29 z29
    obtain ⟨rfl, N29q, he29⟩ := hQ29
    have N29 := Fr.app N8 N29q
    have pre30 := fun t (kt : At p e below T29 m 48 #[vR a1, vR ac, vI 0, vI 4, .val .null, vR x8] [(.int 1), (.ref a1)] t) => pre28 t (st29 _ kt)
    have f31 := (Fc.keep K8 nin0)
    have f32 := (E1.keep K8)
    obtain ⟨T33, h33, X33, e33, W33, st33⟩ := putFN X29 hx hZ hown (wd hw 23 rfl) Via.refl he29 f31 f32 (Or.inr ⟨(wd hw 19 rfl), rfl, hnm⟩) (wd hw 4 rfl) (ty := .byte) (v' := (.int 1)) (by decide) rfl (by first | rfl | decide) (g := (mkF m 48 #[vR a1, vR ac, vI 0, vI 4, .val .null, vR x8] [(.int 1), (.ref a1)])) rfl rfl (hb hby d2_48)
    have Fw33 := f31.same W33
    have N33 := Fr.snoc X33 N29 g1
    have pre34 := fun t (kt : At p e below T33 m 51 #[vR a1, vR ac, vI 0, vI 4, .val .null, vR x8] [] t) => pre30 t (st33 _ kt)
    have f35 := ((Fv.keep K8 nin0).other W33 (Or.inr (slot_ne (Or.inr (wd hw 18 rfl)) (Or.inr (wd hw 19 rfl)) (by decide) (t := (.array .byte)) (t' := .byte) (by decide) (by decide))))
    have f36 := (f32.wr W33)
    have pre37 := fun t (kt : At p e below T33 m 54 #[vR a1, vR ac, vI 0, vI 4, .val .null, vR x8] [(.ref x8), (.ref a1)] t) => pre34 t (by
      show At p e below T33 m 51 #[vR a1, vR ac, vI 0, vI 4, .val .null, vR x8] [] _
      refine XS.aloadN X33.here hx rfl (hb hby d2_51) rfl rfl ?_
      show At p e below T33 m 52 #[vR a1, vR ac, vI 0, vI 4, .val .null, vR x8] [(.ref a1)] _
      refine XS.aload X33.here hx rfl (hb hby d2_52) rfl rfl ?_
      exact kt)
    obtain ⟨T38, h38, X38, e38, W38, st38⟩ := putF X33 hx hZ hown (host := "") (Or.inl (wd hw 22 rfl)) Via.refl e33 f35 f36 (Or.inr ⟨(wd hw 18 rfl), rfl, hnm⟩) (wd hw 4 rfl) (ty := (.array .byte)) (by decide) rfl rfl (g := (mkF m 54 #[vR a1, vR ac, vI 0, vI 4, .val .null, vR x8] [(.ref x8), (.ref a1)])) rfl rfl (hb hby d2_54)
    have Fw38 := f35.same W38
    have N38 := Fr.snoc X38 N33 g1
    have pre39 := fun t (kt : At p e below T38 m 57 #[vR a1, vR ac, vI 0, vI 4, .val .null, vR x8] [] t) => pre37 t (st38 _ kt)
    have k40 : Keep h0 h38 [a1] := (((K0.trans K8 all0).wr W33 (Or.inl (List.mem_of_getElem? (i := 0) rfl))).wr W38 (Or.inl (List.mem_of_getElem? (i := 0) rfl)))
    have f41 := (f36.wr W38)
    have f42 := (Fw33.other W38 (Or.inr (slot_ne (Or.inr (wd hw 19 rfl)) (Or.inr (wd hw 18 rfl)) (by decide) (t := .byte) (t' := (.array .byte)) (by decide) (by decide))))
    have f43 := ((Va8.other W33 (Ne.symm (Nat.ne_of_lt (Nat.lt_of_lt_of_le E1.lt sx8)))).other W38 (Ne.symm (Nat.ne_of_lt (Nat.lt_of_lt_of_le E1.lt sx8))))
    obtain ⟨fs, hr, hrun, hended, hW, hsame⟩ := X38.leave (v := none) (fun _ => rfl)
    refine ⟨_, _, pre39 _ ?_, hrun, hended, _, _, rfl, ?_, ⟨_, rfl⟩, hW, hsame.mono (by decide) (by decide)⟩
    · show At p e below T38 m 57 #[vR a1, vR ac, vI 0, vI 4, .val .null, vR x8] [] _
      exact X38.returnOut hx Bd.returns (hb hby d2_57) hr
    · show Q2_4 Z a1 ac kc cs q1 q2 q3 q4 h0 n0 _ T38.heap _
      rw [e38]
      exact ⟨rfl, N38, k40, f41, _, _, Fw38, Or.inr ⟨trivial, f42, f43⟩⟩
theorem ef_1_0 (m : MethodId) (a1 : Addr) (ac : Addr) : entryFrame m #[(.ref a1), (.ref ac)] 2 = (mkF m 0 #[vR a1, vR ac] []) := by first | (simp [entryFrame, mkF, argsToLocals, Value.category]; done) | rfl
theorem d1_0 : decode jdk_42_method_3_code 0 = .ok (.aload_n 0, 1) := by decide +kernel
theorem d1_1 : decode jdk_42_method_3_code 1 = .ok (.aload_n 1, 1) := by decide +kernel
theorem d1_2 : decode jdk_42_method_3_code 2 = .ok (.iconst 0, 1) := by decide +kernel
theorem d1_3 : decode jdk_42_method_3_code 3 = .ok (.aload_n 1, 1) := by decide +kernel
theorem d1_4 : decode jdk_42_method_3_code 4 = .ok (.arraylength, 1) := by decide +kernel
theorem d1_5 : decode jdk_42_method_3_code 5 = .ok (.aconst_null, 1) := by decide +kernel
theorem pd_7 : parseMethodDescriptor "([CIILjava/lang/Void;)V" = some ⟨[(.array .char), .int, .int, (.object "java/lang/Void")], none⟩ := by decide +kernel
theorem d1_6 : decode jdk_42_method_3_code 6 = .ok (.invokespecial 27, 3) := by decide +kernel
theorem d1_9 : decode jdk_42_method_3_code 9 = .ok (.return_, 1) := by decide +kernel
def Q1_0 (Z : State) (a1 : Addr) (ac : Addr) (kc : ClassId) (h0 : Heap) (n0 : Nat) (v : Option Value) (h : Heap) (L : List Loc) : Prop := v = none ∧ Fr n0 L ∧ Keep h0 h [a1] ∧ own_str Z h a1 (0 : Int32) (0 : Int32) [] [] (True) False
set_option maxRecDepth 65536 in
set_option maxHeartbeats 40000000 in
theorem rm1_0 (l : Launch) (Z : State) (a0 : Array Value) (hw : ∀ d ∈ tables_1, d.before a0 Z = true) (ws : List Jvm.Cond) (a1 : Addr) (ac : Addr) (kc : ClassId) (h0 : Heap) (n0 : Nat) (Z0 : n0 ≤ h0.size) (E1 : Exa Z h0 a1 "java/lang/String") (Fv : Fld Z h0 a1 "java/lang/String" "value" "[B" .null) (Fc : Fld Z h0 a1 "java/lang/String" "coder" "B" (.int 0)) (g1 : n0 ≤ a1) (Vc : Arv Z h0 ac kc .char (0 : Int32) [] (.int 0)) :
    MetFree l (⟨"java/lang/String", "<init>", "([C)V"⟩ : MethodName) (head1 (Jvm.Cond.code (⟨"java/lang/String", "<init>", "([C)V"⟩ : MethodName) jdk_42_method_3_code 2 none :: ws) ({ frames := 2, cells := 4, slots := 8, locals := 29 } : Room)) (fun a U => a = #[(.ref a1), (.ref ac)] ∧ Z.Warmed39 U.vm ∧ U.heap = h0 ∧ CHv Z [("java/lang/String", (7 : Nat))] U.vm h0) (fun _ _ _ _ _ => True) (fun _ U o U' => ∃ v L, o = .returned v ∧ Q1_0 Z a1 ac kc h0 n0 v U'.heap L ∧ CHr Z [("java/lang/String", (7 : Nat))] U.vm U.heap U'.vm U'.heap ∧ ReturnedEndW U o U' L ({ frames := 2, cells := 4, slots := 8, locals := 29 } : Room).cells ({ frames := 2, cells := 4, slots := 8, locals := 29 } : Room).slots) := by
  refine MetFree.of_bodySF (plainFor_of_name pn_4) hisR ?_
  intro p e s m args below meth c s₁ Bd hml0 hP hK
  obtain ⟨rfl, hZ, hh, hC0⟩ := hP
  have hx := Bd.exec
  have hby := Bd.bytes
  have hml : c.maxLocals = 2 := hml0
  have hown : s.vm.findClass "java/lang/String" = some m.cls := findClass_of_methodNamed Bd.named
  have hnm := (name_of_methodNamed Bd.named Bd.method).1
  have X0 : Stand p l e ({ frames := 2, cells := 4, slots := 8, locals := 29 } : Room) (s.setVm s.vm) m #[(.ref a1), (.ref ac)] below meth c s₁ [] 0 0 := Stand.of_body Bd
  have e0 : s₁.heap = h0 := by rw [← hh, Bd.state]; rfl
  have N0 := Fr.nil n0
  have hS := (State.WarmedH.refl s).since s₁.heap.size
  have hk : s₁.heap.size ≤ h0.size := Nat.le_of_eq (congrArg Array.size e0)
  have wS : ∀ a ∈ Bundle.stringAtoms, a.before a0 Z = true := own_wS hw
  have hEL : EW Z a0 [("java/lang/String", (7 : Nat))] := own_EL hw
  have CR0 := CHr.refl hC0
  have K0 : Keep h0 h0 [a1] := Keep.refl _ _
  have pre0 : ∀ t, At p e below s₁ m 0 #[vR a1, vR ac] [] t → Steps p.tables e below (s₁.setTop (entryFrame m #[(.ref a1), (.ref ac)] 2)) t := fun t k => castTop (ef_1_0 m a1 ac) k
  have Sa1 : Safe Z [("java/lang/String", (7 : Nat))] s.vm h0 a1 := own_safe hZ.alike E1 Fv
  have pre1 := fun t (kt : At p e below s₁ m 4 #[vR a1, vR ac] [(.ref ac), (.int 0), (.ref ac), (.ref a1)] t) => pre0 t (by
    show At p e below s₁ m 0 #[vR a1, vR ac] [] _
    refine XS.aloadN X0.here hx rfl (hb hby d1_0) rfl rfl ?_
    show At p e below s₁ m 1 #[vR a1, vR ac] [(.ref a1)] _
    refine XS.aloadN X0.here hx rfl (hb hby d1_1) rfl rfl ?_
    show At p e below s₁ m 2 #[vR a1, vR ac] [(.ref ac), (.ref a1)] _
    refine XS.iconst X0.here hx rfl (hb hby d1_2) ?_
    show At p e below s₁ m 3 #[vR a1, vR ac] [(.int 0), (.ref ac), (.ref a1)] _
    refine XS.aloadN X0.here hx rfl (hb hby d1_3) rfl rfl ?_
    exact kt)
  obtain ⟨cl2, Ar2, qk2, Sz2, Nn2, Hh2, Gg2⟩ := id Vc
  have pre3 := fun t (kt : At p e below s₁ m 6 #[vR a1, vR ac] [.null, (.int 0), (.int 0), (.ref ac), (.ref a1)] t) => pre1 t (by
    show At p e below s₁ m 4 #[vR a1, vR ac] [(.ref ac), (.int 0), (.ref ac), (.ref a1)] _
    refine X0.arraylength hx (by rw [e0]; exact Ar2.1) (State.isArrayOf_alike hZ.alike Ar2.2.1) (g := (mkF m 4 #[vR a1, vR ac] [(.ref ac), (.int 0), (.ref ac), (.ref a1)])) rfl rfl (hb hby d1_4) _ ?_
    rw [len_of Sz2 Nn2]
    show At p e below s₁ m 5 #[vR a1, vR ac] [(.int 0), (.int 0), (.ref ac), (.ref a1)] _
    refine XS.aconstNull X0.here hx rfl (hb hby d1_5) ?_
    exact kt)
  obtain ⟨_, _, ⟨T4, L4, kc4, nc4⟩, -, Xo4, hSo4, gr4, ⟨Lc4, hQ4, l4, y4, z4, C4⟩, st4⟩ := X0.specialBackS hx (y := (⟨"java/lang/String", "<init>", "([CIILjava/lang/Void;)V"⟩ : MethodName)) rfl hown (mvT hZ (wd hw 9 rfl)) (mvT hZ (wd hw 10 rfl)) (mvT hZ (wd hw 12 rfl)) (by decide) (backOfSH (W := 0) (rm2_0 l Z a0 hw [] a1 ac h0 n0 Z0 E1 Fv Fc g1) hZ (wd hw 12 rfl) (wd hw 5 rfl) (by decide) (by decide) hEL CR0.1) (g := (mkF m 6 #[vR a1, vR ac] [.null, (.int 0), (.int 0), (.ref ac), (.ref a1)])) rfl (by rw [hml]; rfl) (Steps.refl _) (a := a1) (argsL := [(.ref ac), (.int 0), (.int 0), .null]) (rest := []) (lenOf pd_7 rfl) rfl (by show 2 * 0 + _ ≤ _; exact Nat.le_of_eq rfl) (hb hby d1_6) (fun _ _ => ⟨rfl, e0, (by decide : 0 + 4 ≤ _), (by decide : 0 + 8 ≤ _)⟩)
  dsimp only [Pt.U, Pt.locs, Pt.cells, Pt.slots] at Xo4 hSo4 gr4 l4 y4 z4 st4 hQ4 C4
  subst l4 y4 z4
  obtain ⟨X4, hS4, hZ4, hown4⟩ := rebS hS (e0.symm ▸ hk) Xo4 hSo4 gr4 hZ hown
  have hZ := hZ4
  have hown := hown4
  have hS := hS4
  obtain ⟨rfl, N4q, K4, S4⟩ := hQ4
  have N4 := Fr.app N0 N4q
  have hk4 : T4.heap.size ≤ T4.heap.size := Nat.le_refl _
  have pre5 := fun t (kt : At p e below T4 m 9 #[vR a1, vR ac] [] t) => pre3 t (st4.trans kt)
  have k6 : Keep h0 T4.heap [a1] := (K0.trans K4 (allS (Or.inl (List.mem_of_getElem? (i := 0) rfl)) all0))
  obtain ⟨fs, hr, hrun, hended, -, hW, hI, hsame⟩ := X4.leaveW hS (hk4) (v := none) (fun _ => rfl)
  have CR7 := CR0.trans C4
  have sf8 := CHr.safe C4 E1.lt Sa1
  have Cend := CR7.trans (CHv.at X4 hZ hEL CR7.1)
  refine ⟨_, _, pre5 _ ?_, hrun, hended, _, _, rfl, ?_, ?_, ⟨_, rfl⟩, hW, hI, hsame.mono (by decide) (by decide)⟩
  · show At p e below T4 m 9 #[vR a1, vR ac] [] _
    exact X4.returnOut hx Bd.returns (hb hby d1_9) hr
  · show Q1_0 Z a1 ac kc h0 n0 _ T4.heap _
    exact ⟨rfl, N4, k6, S4⟩
  · show CHr Z [("java/lang/String", (7 : Nat))] s.vm s.heap T4.vm T4.heap
    rw [hh]
    exact Cend
theorem ef_1_1 (m : MethodId) (a1 : Addr) (ac : Addr) : entryFrame m #[(.ref a1), (.ref ac)] 2 = (mkF m 0 #[vR a1, vR ac] []) := by first | (simp [entryFrame, mkF, argsToLocals, Value.category]; done) | rfl
def Q1_1 (Z : State) (a1 : Addr) (ac : Addr) (kc : ClassId) (cs : Int32) (q1 : Int32) (h0 : Heap) (n0 : Nat) (v : Option Value) (h : Heap) (L : List Loc) : Prop := v = none ∧ Fr n0 L ∧ Keep h0 h [a1] ∧ own_str Z h a1 (1 : Int32) (2 : Int32) [(.int (nar .byte (q1.toInt8.toInt32)))] [(.int (nar .byte ((q1 >>> ((0 : Int32) &&& 31)).toInt8.toInt32))), (.int (nar .byte ((q1 >>> ((8 : Int32) &&& 31)).toInt8.toInt32)))] (¬ ((255 : Int32) < q1) ∧ True) True
set_option maxRecDepth 65536 in
set_option maxHeartbeats 40000000 in
theorem rm1_1 (l : Launch) (Z : State) (a0 : Array Value) (hw : ∀ d ∈ tables_1, d.before a0 Z = true) (ws : List Jvm.Cond) (a1 : Addr) (ac : Addr) (kc : ClassId) (cs : Int32) (q1 : Int32) (h0 : Heap) (n0 : Nat) (O0 : Old Z n0 h0) (E1 : Exa Z h0 a1 "java/lang/String") (Fv : Fld Z h0 a1 "java/lang/String" "value" "[B" .null) (Fc : Fld Z h0 a1 "java/lang/String" "coder" "B" (.int 0)) (g1 : n0 ≤ a1) (SC : Sta Z Z.heap "java/lang/String" "COMPACT_STRINGS" "Z" (.int cs)) (hcs : ¬ (cs = (0 : Int32))) (SA : Sta Z Z.heap "java/lang/StringUTF16" "$assertionsDisabled" "Z" (.int 1)) (SH : Sta Z Z.heap "java/lang/StringUTF16" "HI_BYTE_SHIFT" "I" (.int 0)) (SL : Sta Z Z.heap "java/lang/StringUTF16" "LO_BYTE_SHIFT" "I" (.int 8)) (Vc : Arv Z h0 ac kc .char (1 : Int32) [(.int q1)] (.int 0)) (R1 : own_R q1) :
    MetFree l (⟨"java/lang/String", "<init>", "([C)V"⟩ : MethodName) (head1 (Jvm.Cond.code (⟨"java/lang/String", "<init>", "([C)V"⟩ : MethodName) jdk_42_method_3_code 2 none :: ws) ({ frames := 5, cells := 2, slots := 3, locals := 74 } : Room)) (fun a U => a = #[(.ref a1), (.ref ac)] ∧ Z.Warmed39 U.vm ∧ U.heap = h0) (fun _ _ _ _ _ => True) (fun _ U o U' => ∃ v L, o = .returned v ∧ Q1_1 Z a1 ac kc cs q1 h0 n0 v U'.heap L ∧ FrameEnd U o U' L ({ frames := 5, cells := 2, slots := 3, locals := 74 } : Room).cells ({ frames := 5, cells := 2, slots := 3, locals := 74 } : Room).slots) := by
  refine MetFree.of_bodySF (plainFor_of_name pn_4) hisR ?_
  intro p e s m args below meth c s₁ Bd hml0 hP hK
  obtain ⟨rfl, hZ, hh⟩ := hP
  have hx := Bd.exec
  have hby := Bd.bytes
  have hml : c.maxLocals = 2 := hml0
  have hown : s.vm.findClass "java/lang/String" = some m.cls := findClass_of_methodNamed Bd.named
  have hnm := (name_of_methodNamed Bd.named Bd.method).1
  have X0 : Stand p l e ({ frames := 5, cells := 2, slots := 3, locals := 74 } : Room) s m #[(.ref a1), (.ref ac)] below meth c s₁ [] 0 0 := Stand.of_body Bd
  have e0 : s₁.heap = h0 := by rw [← hh, Bd.state]; rfl
  have N0 := Fr.nil n0
  have Z0 : n0 ≤ h0.size := O0.1 ▸ O0.2.1
  have K0 : Keep h0 h0 [a1] := Keep.refl _ _
  have pre0 : ∀ t, At p e below s₁ m 0 #[vR a1, vR ac] [] t → Steps p.tables e below (s₁.setTop (entryFrame m #[(.ref a1), (.ref ac)] 2)) t := fun t k => castTop (ef_1_1 m a1 ac) k
  have pre1 := fun t (kt : At p e below s₁ m 4 #[vR a1, vR ac] [(.ref ac), (.int 0), (.ref ac), (.ref a1)] t) => pre0 t (by
    show At p e below s₁ m 0 #[vR a1, vR ac] [] _
    refine XS.aloadN X0.here hx rfl (hb hby d1_0) rfl rfl ?_
    show At p e below s₁ m 1 #[vR a1, vR ac] [(.ref a1)] _
    refine XS.aloadN X0.here hx rfl (hb hby d1_1) rfl rfl ?_
    show At p e below s₁ m 2 #[vR a1, vR ac] [(.ref ac), (.ref a1)] _
    refine XS.iconst X0.here hx rfl (hb hby d1_2) ?_
    show At p e below s₁ m 3 #[vR a1, vR ac] [(.int 0), (.ref ac), (.ref a1)] _
    refine XS.aloadN X0.here hx rfl (hb hby d1_3) rfl rfl ?_
    exact kt)
  obtain ⟨cl2, Ar2, qk2, Sz2, Nn2, Hh2, Gg2⟩ := id Vc
  have pre3 := fun t (kt : At p e below s₁ m 6 #[vR a1, vR ac] [.null, (.int 1), (.int 0), (.ref ac), (.ref a1)] t) => pre1 t (by
    show At p e below s₁ m 4 #[vR a1, vR ac] [(.ref ac), (.int 0), (.ref ac), (.ref a1)] _
    refine X0.arraylength hx (by rw [e0]; exact Ar2.1) (State.isArrayOf_alike hZ.alike Ar2.2.1) (g := (mkF m 4 #[vR a1, vR ac] [(.ref ac), (.int 0), (.ref ac), (.ref a1)])) rfl rfl (hb hby d1_4) _ ?_
    rw [len_of Sz2 Nn2]
    show At p e below s₁ m 5 #[vR a1, vR ac] [(.int 1), (.int 0), (.ref ac), (.ref a1)] _
    refine XS.aconstNull X0.here hx rfl (hb hby d1_5) ?_
    exact kt)
  obtain ⟨_, _, ⟨T4, L4, kc4, nc4⟩, -, X4, ⟨Lc4, hQ4, l4, y4, z4⟩, st4⟩ := X0.specialBack hx (y := (⟨"java/lang/String", "<init>", "([CIILjava/lang/Void;)V"⟩ : MethodName)) rfl hown (mvT hZ (wd hw 9 rfl)) (mvT hZ (wd hw 10 rfl)) (mvT hZ (wd hw 12 rfl)) (by decide) (backOf (W := 0) (rm2_1 l Z a0 hw [] a1 ac kc cs q1 h0 n0 O0 E1 Fv Fc g1 SC hcs SA SH SL Vc R1) hZ (wd hw 12 rfl) (wd hw 5 rfl) (by decide) (by decide)) (g := (mkF m 6 #[vR a1, vR ac] [.null, (.int 1), (.int 0), (.ref ac), (.ref a1)])) rfl (by rw [hml]; rfl) (Steps.refl _) (a := a1) (argsL := [(.ref ac), (.int 0), (.int 1), .null]) (rest := []) (lenOf pd_7 rfl) rfl (by show 2 * 0 + _ ≤ _; exact Nat.le_of_eq rfl) (hb hby d1_6) (fun _ _ => ⟨rfl, e0, (by decide : 0 + 2 ≤ _), (by decide : 0 + 3 ≤ _)⟩)
  dsimp only [Pt.U, Pt.locs, Pt.cells, Pt.slots] at X4 l4 y4 z4 st4 hQ4
  subst l4 y4 z4
  obtain ⟨rfl, N4q, K4, S4⟩ := hQ4
  have N4 := Fr.app N0 N4q
  have pre5 := fun t (kt : At p e below T4 m 9 #[vR a1, vR ac] [] t) => pre3 t (st4.trans kt)
  have k6 : Keep h0 T4.heap [a1] := (K0.trans K4 (allS (Or.inl (List.mem_of_getElem? (i := 0) rfl)) all0))
  obtain ⟨fs, hr, hrun, hended, hW, hsame⟩ := X4.leave (v := none) (fun _ => rfl)
  refine ⟨_, _, pre5 _ ?_, hrun, hended, _, _, rfl, ?_, ⟨_, rfl⟩, hW, hsame.mono (by decide) (by decide)⟩
  · show At p e below T4 m 9 #[vR a1, vR ac] [] _
    exact X4.returnOut hx Bd.returns (hb hby d1_9) hr
  · show Q1_1 Z a1 ac kc cs q1 h0 n0 _ T4.heap _
    exact ⟨rfl, N4, k6, S4⟩
theorem ef_1_2 (m : MethodId) (a1 : Addr) (ac : Addr) : entryFrame m #[(.ref a1), (.ref ac)] 2 = (mkF m 0 #[vR a1, vR ac] []) := by first | (simp [entryFrame, mkF, argsToLocals, Value.category]; done) | rfl
def Q1_2 (Z : State) (a1 : Addr) (ac : Addr) (kc : ClassId) (cs : Int32) (q1 : Int32) (q2 : Int32) (h0 : Heap) (n0 : Nat) (v : Option Value) (h : Heap) (L : List Loc) : Prop := v = none ∧ Fr n0 L ∧ Keep h0 h [a1] ∧ own_str Z h a1 (2 : Int32) (4 : Int32) [(.int (nar .byte (q1.toInt8.toInt32))), (.int (nar .byte (q2.toInt8.toInt32)))] [(.int (nar .byte ((q1 >>> ((0 : Int32) &&& 31)).toInt8.toInt32))), (.int (nar .byte ((q1 >>> ((8 : Int32) &&& 31)).toInt8.toInt32))), (.int (nar .byte ((q2 >>> ((0 : Int32) &&& 31)).toInt8.toInt32))), (.int (nar .byte ((q2 >>> ((8 : Int32) &&& 31)).toInt8.toInt32)))] (¬ ((255 : Int32) < q1) ∧ ¬ ((255 : Int32) < q2) ∧ True) True
set_option maxRecDepth 65536 in
set_option maxHeartbeats 40000000 in
theorem rm1_2 (l : Launch) (Z : State) (a0 : Array Value) (hw : ∀ d ∈ tables_1, d.before a0 Z = true) (ws : List Jvm.Cond) (a1 : Addr) (ac : Addr) (kc : ClassId) (cs : Int32) (q1 : Int32) (q2 : Int32) (h0 : Heap) (n0 : Nat) (O0 : Old Z n0 h0) (E1 : Exa Z h0 a1 "java/lang/String") (Fv : Fld Z h0 a1 "java/lang/String" "value" "[B" .null) (Fc : Fld Z h0 a1 "java/lang/String" "coder" "B" (.int 0)) (g1 : n0 ≤ a1) (SC : Sta Z Z.heap "java/lang/String" "COMPACT_STRINGS" "Z" (.int cs)) (hcs : ¬ (cs = (0 : Int32))) (SA : Sta Z Z.heap "java/lang/StringUTF16" "$assertionsDisabled" "Z" (.int 1)) (SH : Sta Z Z.heap "java/lang/StringUTF16" "HI_BYTE_SHIFT" "I" (.int 0)) (SL : Sta Z Z.heap "java/lang/StringUTF16" "LO_BYTE_SHIFT" "I" (.int 8)) (Vc : Arv Z h0 ac kc .char (2 : Int32) [(.int q1), (.int q2)] (.int 0)) (R1 : own_R q1) (R2 : own_R q2) :
    MetFree l (⟨"java/lang/String", "<init>", "([C)V"⟩ : MethodName) (head1 (Jvm.Cond.code (⟨"java/lang/String", "<init>", "([C)V"⟩ : MethodName) jdk_42_method_3_code 2 none :: ws) ({ frames := 5, cells := 2, slots := 6, locals := 74 } : Room)) (fun a U => a = #[(.ref a1), (.ref ac)] ∧ Z.Warmed39 U.vm ∧ U.heap = h0) (fun _ _ _ _ _ => True) (fun _ U o U' => ∃ v L, o = .returned v ∧ Q1_2 Z a1 ac kc cs q1 q2 h0 n0 v U'.heap L ∧ FrameEnd U o U' L ({ frames := 5, cells := 2, slots := 6, locals := 74 } : Room).cells ({ frames := 5, cells := 2, slots := 6, locals := 74 } : Room).slots) := by
  refine MetFree.of_bodySF (plainFor_of_name pn_4) hisR ?_
  intro p e s m args below meth c s₁ Bd hml0 hP hK
  obtain ⟨rfl, hZ, hh⟩ := hP
  have hx := Bd.exec
  have hby := Bd.bytes
  have hml : c.maxLocals = 2 := hml0
  have hown : s.vm.findClass "java/lang/String" = some m.cls := findClass_of_methodNamed Bd.named
  have hnm := (name_of_methodNamed Bd.named Bd.method).1
  have X0 : Stand p l e ({ frames := 5, cells := 2, slots := 6, locals := 74 } : Room) s m #[(.ref a1), (.ref ac)] below meth c s₁ [] 0 0 := Stand.of_body Bd
  have e0 : s₁.heap = h0 := by rw [← hh, Bd.state]; rfl
  have N0 := Fr.nil n0
  have Z0 : n0 ≤ h0.size := O0.1 ▸ O0.2.1
  have K0 : Keep h0 h0 [a1] := Keep.refl _ _
  have pre0 : ∀ t, At p e below s₁ m 0 #[vR a1, vR ac] [] t → Steps p.tables e below (s₁.setTop (entryFrame m #[(.ref a1), (.ref ac)] 2)) t := fun t k => castTop (ef_1_2 m a1 ac) k
  have pre1 := fun t (kt : At p e below s₁ m 4 #[vR a1, vR ac] [(.ref ac), (.int 0), (.ref ac), (.ref a1)] t) => pre0 t (by
    show At p e below s₁ m 0 #[vR a1, vR ac] [] _
    refine XS.aloadN X0.here hx rfl (hb hby d1_0) rfl rfl ?_
    show At p e below s₁ m 1 #[vR a1, vR ac] [(.ref a1)] _
    refine XS.aloadN X0.here hx rfl (hb hby d1_1) rfl rfl ?_
    show At p e below s₁ m 2 #[vR a1, vR ac] [(.ref ac), (.ref a1)] _
    refine XS.iconst X0.here hx rfl (hb hby d1_2) ?_
    show At p e below s₁ m 3 #[vR a1, vR ac] [(.int 0), (.ref ac), (.ref a1)] _
    refine XS.aloadN X0.here hx rfl (hb hby d1_3) rfl rfl ?_
    exact kt)
  obtain ⟨cl2, Ar2, qk2, Sz2, Nn2, Hh2, Gg2⟩ := id Vc
  have pre3 := fun t (kt : At p e below s₁ m 6 #[vR a1, vR ac] [.null, (.int 2), (.int 0), (.ref ac), (.ref a1)] t) => pre1 t (by
    show At p e below s₁ m 4 #[vR a1, vR ac] [(.ref ac), (.int 0), (.ref ac), (.ref a1)] _
    refine X0.arraylength hx (by rw [e0]; exact Ar2.1) (State.isArrayOf_alike hZ.alike Ar2.2.1) (g := (mkF m 4 #[vR a1, vR ac] [(.ref ac), (.int 0), (.ref ac), (.ref a1)])) rfl rfl (hb hby d1_4) _ ?_
    rw [len_of Sz2 Nn2]
    show At p e below s₁ m 5 #[vR a1, vR ac] [(.int 2), (.int 0), (.ref ac), (.ref a1)] _
    refine XS.aconstNull X0.here hx rfl (hb hby d1_5) ?_
    exact kt)
  obtain ⟨_, _, ⟨T4, L4, kc4, nc4⟩, -, X4, ⟨Lc4, hQ4, l4, y4, z4⟩, st4⟩ := X0.specialBack hx (y := (⟨"java/lang/String", "<init>", "([CIILjava/lang/Void;)V"⟩ : MethodName)) rfl hown (mvT hZ (wd hw 9 rfl)) (mvT hZ (wd hw 10 rfl)) (mvT hZ (wd hw 12 rfl)) (by decide) (backOf (W := 0) (rm2_2 l Z a0 hw [] a1 ac kc cs q1 q2 h0 n0 O0 E1 Fv Fc g1 SC hcs SA SH SL Vc R1 R2) hZ (wd hw 12 rfl) (wd hw 5 rfl) (by decide) (by decide)) (g := (mkF m 6 #[vR a1, vR ac] [.null, (.int 2), (.int 0), (.ref ac), (.ref a1)])) rfl (by rw [hml]; rfl) (Steps.refl _) (a := a1) (argsL := [(.ref ac), (.int 0), (.int 2), .null]) (rest := []) (lenOf pd_7 rfl) rfl (by show 2 * 0 + _ ≤ _; exact Nat.le_of_eq rfl) (hb hby d1_6) (fun _ _ => ⟨rfl, e0, (by decide : 0 + 2 ≤ _), (by decide : 0 + 6 ≤ _)⟩)
  dsimp only [Pt.U, Pt.locs, Pt.cells, Pt.slots] at X4 l4 y4 z4 st4 hQ4
  subst l4 y4 z4
  obtain ⟨rfl, N4q, K4, S4⟩ := hQ4
  have N4 := Fr.app N0 N4q
  have pre5 := fun t (kt : At p e below T4 m 9 #[vR a1, vR ac] [] t) => pre3 t (st4.trans kt)
  have k6 : Keep h0 T4.heap [a1] := (K0.trans K4 (allS (Or.inl (List.mem_of_getElem? (i := 0) rfl)) all0))
  obtain ⟨fs, hr, hrun, hended, hW, hsame⟩ := X4.leave (v := none) (fun _ => rfl)
  refine ⟨_, _, pre5 _ ?_, hrun, hended, _, _, rfl, ?_, ⟨_, rfl⟩, hW, hsame.mono (by decide) (by decide)⟩
  · show At p e below T4 m 9 #[vR a1, vR ac] [] _
    exact X4.returnOut hx Bd.returns (hb hby d1_9) hr
  · show Q1_2 Z a1 ac kc cs q1 q2 h0 n0 _ T4.heap _
    exact ⟨rfl, N4, k6, S4⟩
theorem ef_1_3 (m : MethodId) (a1 : Addr) (ac : Addr) : entryFrame m #[(.ref a1), (.ref ac)] 2 = (mkF m 0 #[vR a1, vR ac] []) := by first | (simp [entryFrame, mkF, argsToLocals, Value.category]; done) | rfl
def Q1_3 (Z : State) (a1 : Addr) (ac : Addr) (kc : ClassId) (cs : Int32) (q1 : Int32) (q2 : Int32) (q3 : Int32) (h0 : Heap) (n0 : Nat) (v : Option Value) (h : Heap) (L : List Loc) : Prop := v = none ∧ Fr n0 L ∧ Keep h0 h [a1] ∧ own_str Z h a1 (3 : Int32) (6 : Int32) [(.int (nar .byte (q1.toInt8.toInt32))), (.int (nar .byte (q2.toInt8.toInt32))), (.int (nar .byte (q3.toInt8.toInt32)))] [(.int (nar .byte ((q1 >>> ((0 : Int32) &&& 31)).toInt8.toInt32))), (.int (nar .byte ((q1 >>> ((8 : Int32) &&& 31)).toInt8.toInt32))), (.int (nar .byte ((q2 >>> ((0 : Int32) &&& 31)).toInt8.toInt32))), (.int (nar .byte ((q2 >>> ((8 : Int32) &&& 31)).toInt8.toInt32))), (.int (nar .byte ((q3 >>> ((0 : Int32) &&& 31)).toInt8.toInt32))), (.int (nar .byte ((q3 >>> ((8 : Int32) &&& 31)).toInt8.toInt32)))] (¬ ((255 : Int32) < q1) ∧ ¬ ((255 : Int32) < q2) ∧ ¬ ((255 : Int32) < q3) ∧ True) True
set_option maxRecDepth 65536 in
set_option maxHeartbeats 40000000 in
theorem rm1_3 (l : Launch) (Z : State) (a0 : Array Value) (hw : ∀ d ∈ tables_1, d.before a0 Z = true) (ws : List Jvm.Cond) (a1 : Addr) (ac : Addr) (kc : ClassId) (cs : Int32) (q1 : Int32) (q2 : Int32) (q3 : Int32) (h0 : Heap) (n0 : Nat) (O0 : Old Z n0 h0) (E1 : Exa Z h0 a1 "java/lang/String") (Fv : Fld Z h0 a1 "java/lang/String" "value" "[B" .null) (Fc : Fld Z h0 a1 "java/lang/String" "coder" "B" (.int 0)) (g1 : n0 ≤ a1) (SC : Sta Z Z.heap "java/lang/String" "COMPACT_STRINGS" "Z" (.int cs)) (hcs : ¬ (cs = (0 : Int32))) (SA : Sta Z Z.heap "java/lang/StringUTF16" "$assertionsDisabled" "Z" (.int 1)) (SH : Sta Z Z.heap "java/lang/StringUTF16" "HI_BYTE_SHIFT" "I" (.int 0)) (SL : Sta Z Z.heap "java/lang/StringUTF16" "LO_BYTE_SHIFT" "I" (.int 8)) (Vc : Arv Z h0 ac kc .char (3 : Int32) [(.int q1), (.int q2), (.int q3)] (.int 0)) (R1 : own_R q1) (R2 : own_R q2) (R3 : own_R q3) :
    MetFree l (⟨"java/lang/String", "<init>", "([C)V"⟩ : MethodName) (head1 (Jvm.Cond.code (⟨"java/lang/String", "<init>", "([C)V"⟩ : MethodName) jdk_42_method_3_code 2 none :: ws) ({ frames := 5, cells := 2, slots := 9, locals := 74 } : Room)) (fun a U => a = #[(.ref a1), (.ref ac)] ∧ Z.Warmed39 U.vm ∧ U.heap = h0) (fun _ _ _ _ _ => True) (fun _ U o U' => ∃ v L, o = .returned v ∧ Q1_3 Z a1 ac kc cs q1 q2 q3 h0 n0 v U'.heap L ∧ FrameEnd U o U' L ({ frames := 5, cells := 2, slots := 9, locals := 74 } : Room).cells ({ frames := 5, cells := 2, slots := 9, locals := 74 } : Room).slots) := by
  refine MetFree.of_bodySF (plainFor_of_name pn_4) hisR ?_
  intro p e s m args below meth c s₁ Bd hml0 hP hK
  obtain ⟨rfl, hZ, hh⟩ := hP
  have hx := Bd.exec
  have hby := Bd.bytes
  have hml : c.maxLocals = 2 := hml0
  have hown : s.vm.findClass "java/lang/String" = some m.cls := findClass_of_methodNamed Bd.named
  have hnm := (name_of_methodNamed Bd.named Bd.method).1
  have X0 : Stand p l e ({ frames := 5, cells := 2, slots := 9, locals := 74 } : Room) s m #[(.ref a1), (.ref ac)] below meth c s₁ [] 0 0 := Stand.of_body Bd
  have e0 : s₁.heap = h0 := by rw [← hh, Bd.state]; rfl
  have N0 := Fr.nil n0
  have Z0 : n0 ≤ h0.size := O0.1 ▸ O0.2.1
  have K0 : Keep h0 h0 [a1] := Keep.refl _ _
  have pre0 : ∀ t, At p e below s₁ m 0 #[vR a1, vR ac] [] t → Steps p.tables e below (s₁.setTop (entryFrame m #[(.ref a1), (.ref ac)] 2)) t := fun t k => castTop (ef_1_3 m a1 ac) k
  have pre1 := fun t (kt : At p e below s₁ m 4 #[vR a1, vR ac] [(.ref ac), (.int 0), (.ref ac), (.ref a1)] t) => pre0 t (by
    show At p e below s₁ m 0 #[vR a1, vR ac] [] _
    refine XS.aloadN X0.here hx rfl (hb hby d1_0) rfl rfl ?_
    show At p e below s₁ m 1 #[vR a1, vR ac] [(.ref a1)] _
    refine XS.aloadN X0.here hx rfl (hb hby d1_1) rfl rfl ?_
    show At p e below s₁ m 2 #[vR a1, vR ac] [(.ref ac), (.ref a1)] _
    refine XS.iconst X0.here hx rfl (hb hby d1_2) ?_
    show At p e below s₁ m 3 #[vR a1, vR ac] [(.int 0), (.ref ac), (.ref a1)] _
    refine XS.aloadN X0.here hx rfl (hb hby d1_3) rfl rfl ?_
    exact kt)
  obtain ⟨cl2, Ar2, qk2, Sz2, Nn2, Hh2, Gg2⟩ := id Vc
  have pre3 := fun t (kt : At p e below s₁ m 6 #[vR a1, vR ac] [.null, (.int 3), (.int 0), (.ref ac), (.ref a1)] t) => pre1 t (by
    show At p e below s₁ m 4 #[vR a1, vR ac] [(.ref ac), (.int 0), (.ref ac), (.ref a1)] _
    refine X0.arraylength hx (by rw [e0]; exact Ar2.1) (State.isArrayOf_alike hZ.alike Ar2.2.1) (g := (mkF m 4 #[vR a1, vR ac] [(.ref ac), (.int 0), (.ref ac), (.ref a1)])) rfl rfl (hb hby d1_4) _ ?_
    rw [len_of Sz2 Nn2]
    show At p e below s₁ m 5 #[vR a1, vR ac] [(.int 3), (.int 0), (.ref ac), (.ref a1)] _
    refine XS.aconstNull X0.here hx rfl (hb hby d1_5) ?_
    exact kt)
  obtain ⟨_, _, ⟨T4, L4, kc4, nc4⟩, -, X4, ⟨Lc4, hQ4, l4, y4, z4⟩, st4⟩ := X0.specialBack hx (y := (⟨"java/lang/String", "<init>", "([CIILjava/lang/Void;)V"⟩ : MethodName)) rfl hown (mvT hZ (wd hw 9 rfl)) (mvT hZ (wd hw 10 rfl)) (mvT hZ (wd hw 12 rfl)) (by decide) (backOf (W := 0) (rm2_3 l Z a0 hw [] a1 ac kc cs q1 q2 q3 h0 n0 O0 E1 Fv Fc g1 SC hcs SA SH SL Vc R1 R2 R3) hZ (wd hw 12 rfl) (wd hw 5 rfl) (by decide) (by decide)) (g := (mkF m 6 #[vR a1, vR ac] [.null, (.int 3), (.int 0), (.ref ac), (.ref a1)])) rfl (by rw [hml]; rfl) (Steps.refl _) (a := a1) (argsL := [(.ref ac), (.int 0), (.int 3), .null]) (rest := []) (lenOf pd_7 rfl) rfl (by show 2 * 0 + _ ≤ _; exact Nat.le_of_eq rfl) (hb hby d1_6) (fun _ _ => ⟨rfl, e0, (by decide : 0 + 2 ≤ _), (by decide : 0 + 9 ≤ _)⟩)
  dsimp only [Pt.U, Pt.locs, Pt.cells, Pt.slots] at X4 l4 y4 z4 st4 hQ4
  subst l4 y4 z4
  obtain ⟨rfl, N4q, K4, S4⟩ := hQ4
  have N4 := Fr.app N0 N4q
  have pre5 := fun t (kt : At p e below T4 m 9 #[vR a1, vR ac] [] t) => pre3 t (st4.trans kt)
  have k6 : Keep h0 T4.heap [a1] := (K0.trans K4 (allS (Or.inl (List.mem_of_getElem? (i := 0) rfl)) all0))
  obtain ⟨fs, hr, hrun, hended, hW, hsame⟩ := X4.leave (v := none) (fun _ => rfl)
  refine ⟨_, _, pre5 _ ?_, hrun, hended, _, _, rfl, ?_, ⟨_, rfl⟩, hW, hsame.mono (by decide) (by decide)⟩
  · show At p e below T4 m 9 #[vR a1, vR ac] [] _
    exact X4.returnOut hx Bd.returns (hb hby d1_9) hr
  · show Q1_3 Z a1 ac kc cs q1 q2 q3 h0 n0 _ T4.heap _
    exact ⟨rfl, N4, k6, S4⟩
theorem ef_1_4 (m : MethodId) (a1 : Addr) (ac : Addr) : entryFrame m #[(.ref a1), (.ref ac)] 2 = (mkF m 0 #[vR a1, vR ac] []) := by first | (simp [entryFrame, mkF, argsToLocals, Value.category]; done) | rfl
def Q1_4 (Z : State) (a1 : Addr) (ac : Addr) (kc : ClassId) (cs : Int32) (q1 : Int32) (q2 : Int32) (q3 : Int32) (q4 : Int32) (h0 : Heap) (n0 : Nat) (v : Option Value) (h : Heap) (L : List Loc) : Prop := v = none ∧ Fr n0 L ∧ Keep h0 h [a1] ∧ own_str Z h a1 (4 : Int32) (8 : Int32) [(.int (nar .byte (q1.toInt8.toInt32))), (.int (nar .byte (q2.toInt8.toInt32))), (.int (nar .byte (q3.toInt8.toInt32))), (.int (nar .byte (q4.toInt8.toInt32)))] [(.int (nar .byte ((q1 >>> ((0 : Int32) &&& 31)).toInt8.toInt32))), (.int (nar .byte ((q1 >>> ((8 : Int32) &&& 31)).toInt8.toInt32))), (.int (nar .byte ((q2 >>> ((0 : Int32) &&& 31)).toInt8.toInt32))), (.int (nar .byte ((q2 >>> ((8 : Int32) &&& 31)).toInt8.toInt32))), (.int (nar .byte ((q3 >>> ((0 : Int32) &&& 31)).toInt8.toInt32))), (.int (nar .byte ((q3 >>> ((8 : Int32) &&& 31)).toInt8.toInt32))), (.int (nar .byte ((q4 >>> ((0 : Int32) &&& 31)).toInt8.toInt32))), (.int (nar .byte ((q4 >>> ((8 : Int32) &&& 31)).toInt8.toInt32)))] (¬ ((255 : Int32) < q1) ∧ ¬ ((255 : Int32) < q2) ∧ ¬ ((255 : Int32) < q3) ∧ ¬ ((255 : Int32) < q4) ∧ True) True
set_option maxRecDepth 65536 in
set_option maxHeartbeats 40000000 in
theorem rm1_4 (l : Launch) (Z : State) (a0 : Array Value) (hw : ∀ d ∈ tables_1, d.before a0 Z = true) (ws : List Jvm.Cond) (a1 : Addr) (ac : Addr) (kc : ClassId) (cs : Int32) (q1 : Int32) (q2 : Int32) (q3 : Int32) (q4 : Int32) (h0 : Heap) (n0 : Nat) (O0 : Old Z n0 h0) (E1 : Exa Z h0 a1 "java/lang/String") (Fv : Fld Z h0 a1 "java/lang/String" "value" "[B" .null) (Fc : Fld Z h0 a1 "java/lang/String" "coder" "B" (.int 0)) (g1 : n0 ≤ a1) (SC : Sta Z Z.heap "java/lang/String" "COMPACT_STRINGS" "Z" (.int cs)) (hcs : ¬ (cs = (0 : Int32))) (SA : Sta Z Z.heap "java/lang/StringUTF16" "$assertionsDisabled" "Z" (.int 1)) (SH : Sta Z Z.heap "java/lang/StringUTF16" "HI_BYTE_SHIFT" "I" (.int 0)) (SL : Sta Z Z.heap "java/lang/StringUTF16" "LO_BYTE_SHIFT" "I" (.int 8)) (Vc : Arv Z h0 ac kc .char (4 : Int32) [(.int q1), (.int q2), (.int q3), (.int q4)] (.int 0)) (R1 : own_R q1) (R2 : own_R q2) (R3 : own_R q3) (R4 : own_R q4) :
    MetFree l (⟨"java/lang/String", "<init>", "([C)V"⟩ : MethodName) (head1 (Jvm.Cond.code (⟨"java/lang/String", "<init>", "([C)V"⟩ : MethodName) jdk_42_method_3_code 2 none :: ws) ({ frames := 5, cells := 2, slots := 12, locals := 74 } : Room)) (fun a U => a = #[(.ref a1), (.ref ac)] ∧ Z.Warmed39 U.vm ∧ U.heap = h0) (fun _ _ _ _ _ => True) (fun _ U o U' => ∃ v L, o = .returned v ∧ Q1_4 Z a1 ac kc cs q1 q2 q3 q4 h0 n0 v U'.heap L ∧ FrameEnd U o U' L ({ frames := 5, cells := 2, slots := 12, locals := 74 } : Room).cells ({ frames := 5, cells := 2, slots := 12, locals := 74 } : Room).slots) := by
  refine MetFree.of_bodySF (plainFor_of_name pn_4) hisR ?_
  intro p e s m args below meth c s₁ Bd hml0 hP hK
  obtain ⟨rfl, hZ, hh⟩ := hP
  have hx := Bd.exec
  have hby := Bd.bytes
  have hml : c.maxLocals = 2 := hml0
  have hown : s.vm.findClass "java/lang/String" = some m.cls := findClass_of_methodNamed Bd.named
  have hnm := (name_of_methodNamed Bd.named Bd.method).1
  have X0 : Stand p l e ({ frames := 5, cells := 2, slots := 12, locals := 74 } : Room) s m #[(.ref a1), (.ref ac)] below meth c s₁ [] 0 0 := Stand.of_body Bd
  have e0 : s₁.heap = h0 := by rw [← hh, Bd.state]; rfl
  have N0 := Fr.nil n0
  have Z0 : n0 ≤ h0.size := O0.1 ▸ O0.2.1
  have K0 : Keep h0 h0 [a1] := Keep.refl _ _
  have pre0 : ∀ t, At p e below s₁ m 0 #[vR a1, vR ac] [] t → Steps p.tables e below (s₁.setTop (entryFrame m #[(.ref a1), (.ref ac)] 2)) t := fun t k => castTop (ef_1_4 m a1 ac) k
  have pre1 := fun t (kt : At p e below s₁ m 4 #[vR a1, vR ac] [(.ref ac), (.int 0), (.ref ac), (.ref a1)] t) => pre0 t (by
    show At p e below s₁ m 0 #[vR a1, vR ac] [] _
    refine XS.aloadN X0.here hx rfl (hb hby d1_0) rfl rfl ?_
    show At p e below s₁ m 1 #[vR a1, vR ac] [(.ref a1)] _
    refine XS.aloadN X0.here hx rfl (hb hby d1_1) rfl rfl ?_
    show At p e below s₁ m 2 #[vR a1, vR ac] [(.ref ac), (.ref a1)] _
    refine XS.iconst X0.here hx rfl (hb hby d1_2) ?_
    show At p e below s₁ m 3 #[vR a1, vR ac] [(.int 0), (.ref ac), (.ref a1)] _
    refine XS.aloadN X0.here hx rfl (hb hby d1_3) rfl rfl ?_
    exact kt)
  obtain ⟨cl2, Ar2, qk2, Sz2, Nn2, Hh2, Gg2⟩ := id Vc
  have pre3 := fun t (kt : At p e below s₁ m 6 #[vR a1, vR ac] [.null, (.int 4), (.int 0), (.ref ac), (.ref a1)] t) => pre1 t (by
    show At p e below s₁ m 4 #[vR a1, vR ac] [(.ref ac), (.int 0), (.ref ac), (.ref a1)] _
    refine X0.arraylength hx (by rw [e0]; exact Ar2.1) (State.isArrayOf_alike hZ.alike Ar2.2.1) (g := (mkF m 4 #[vR a1, vR ac] [(.ref ac), (.int 0), (.ref ac), (.ref a1)])) rfl rfl (hb hby d1_4) _ ?_
    rw [len_of Sz2 Nn2]
    show At p e below s₁ m 5 #[vR a1, vR ac] [(.int 4), (.int 0), (.ref ac), (.ref a1)] _
    refine XS.aconstNull X0.here hx rfl (hb hby d1_5) ?_
    exact kt)
  obtain ⟨_, _, ⟨T4, L4, kc4, nc4⟩, -, X4, ⟨Lc4, hQ4, l4, y4, z4⟩, st4⟩ := X0.specialBack hx (y := (⟨"java/lang/String", "<init>", "([CIILjava/lang/Void;)V"⟩ : MethodName)) rfl hown (mvT hZ (wd hw 9 rfl)) (mvT hZ (wd hw 10 rfl)) (mvT hZ (wd hw 12 rfl)) (by decide) (backOf (W := 0) (rm2_4 l Z a0 hw [] a1 ac kc cs q1 q2 q3 q4 h0 n0 O0 E1 Fv Fc g1 SC hcs SA SH SL Vc R1 R2 R3 R4) hZ (wd hw 12 rfl) (wd hw 5 rfl) (by decide) (by decide)) (g := (mkF m 6 #[vR a1, vR ac] [.null, (.int 4), (.int 0), (.ref ac), (.ref a1)])) rfl (by rw [hml]; rfl) (Steps.refl _) (a := a1) (argsL := [(.ref ac), (.int 0), (.int 4), .null]) (rest := []) (lenOf pd_7 rfl) rfl (by show 2 * 0 + _ ≤ _; exact Nat.le_of_eq rfl) (hb hby d1_6) (fun _ _ => ⟨rfl, e0, (by decide : 0 + 2 ≤ _), (by decide : 0 + 12 ≤ _)⟩)
  dsimp only [Pt.U, Pt.locs, Pt.cells, Pt.slots] at X4 l4 y4 z4 st4 hQ4
  subst l4 y4 z4
  obtain ⟨rfl, N4q, K4, S4⟩ := hQ4
  have N4 := Fr.app N0 N4q
  have pre5 := fun t (kt : At p e below T4 m 9 #[vR a1, vR ac] [] t) => pre3 t (st4.trans kt)
  have k6 : Keep h0 T4.heap [a1] := (K0.trans K4 (allS (Or.inl (List.mem_of_getElem? (i := 0) rfl)) all0))
  obtain ⟨fs, hr, hrun, hended, hW, hsame⟩ := X4.leave (v := none) (fun _ => rfl)
  refine ⟨_, _, pre5 _ ?_, hrun, hended, _, _, rfl, ?_, ⟨_, rfl⟩, hW, hsame.mono (by decide) (by decide)⟩
  · show At p e below T4 m 9 #[vR a1, vR ac] [] _
    exact X4.returnOut hx Bd.returns (hb hby d1_9) hr
  · show Q1_4 Z a1 ac kc cs q1 q2 q3 q4 h0 n0 _ T4.heap _
    exact ⟨rfl, N4, k6, S4⟩
theorem ef_9_0 (m : MethodId) (a1 : Addr) : entryFrame m #[(.ref a1)] 1 = (mkF m 0 #[vR a1] []) := by first | (simp [entryFrame, mkF, argsToLocals, Value.category]; done) | rfl
theorem d9_0 : decode jdk_42_method_152_code 0 = .ok (.getstatic 38, 3) := by decide +kernel
theorem d9_3 : decode jdk_42_method_152_code 3 = .ok (.ifCond .eq 10, 3) := by decide +kernel
theorem d9_6 : decode jdk_42_method_152_code 6 = .ok (.aload_n 0, 1) := by decide +kernel
theorem d9_7 : decode jdk_42_method_152_code 7 = .ok (.getfield 15, 3) := by decide +kernel
theorem d9_10 : decode jdk_42_method_152_code 10 = .ok (.goto 4, 3) := by decide +kernel
theorem d9_14 : decode jdk_42_method_152_code 14 = .ok (.ireturn, 1) := by decide +kernel
def Q9_0 (Z : State) (a1 : Addr) (cs : Int32) (h0 : Heap) (n0 : Nat) (v : Option Value) (h : Heap) (L : List Loc) : Prop := v = some (.int 0) ∧ Fr n0 L ∧ h = h0
set_option maxRecDepth 65536 in
set_option maxHeartbeats 40000000 in
theorem rm9_0 (l : Launch) (Z : State) (a0 : Array Value) (hw : ∀ d ∈ tables_1, d.before a0 Z = true) (ws : List Jvm.Cond) (a1 : Addr) (cs : Int32) (h0 : Heap) (n0 : Nat) (O0 : Old Z n0 h0) (SC : Sta Z Z.heap "java/lang/String" "COMPACT_STRINGS" "Z" (.int cs)) (hcs : ¬ (cs = (0 : Int32))) (Fc : Fld Z h0 a1 "java/lang/String" "coder" "B" (.int 0)) :
    MetFree l (⟨"java/lang/String", "coder", "()B"⟩ : MethodName) (head1 (Jvm.Cond.code (⟨"java/lang/String", "coder", "()B"⟩ : MethodName) jdk_42_method_152_code 1 (some .byte) :: ws) ({ frames := 0, cells := 0, slots := 0, locals := 0 } : Room)) (fun a U => a = #[(.ref a1)] ∧ Z.Warmed39 U.vm ∧ U.heap = h0) (fun _ _ _ _ _ => True) (fun _ U o U' => ∃ v L, o = .returned v ∧ Q9_0 Z a1 cs h0 n0 v U'.heap L ∧ FrameEnd U o U' L ({ frames := 0, cells := 0, slots := 0, locals := 0 } : Room).cells ({ frames := 0, cells := 0, slots := 0, locals := 0 } : Room).slots) := by
  refine MetFree.of_bodySF (plainFor_of_name pn_4) hisR ?_
  intro p e s m args below meth c s₁ Bd hml0 hP hK
  obtain ⟨rfl, hZ, hh⟩ := hP
  have hx := Bd.exec
  have hby := Bd.bytes
  have hml : c.maxLocals = 1 := hml0
  have hown : s.vm.findClass "java/lang/String" = some m.cls := findClass_of_methodNamed Bd.named
  have hnm := (name_of_methodNamed Bd.named Bd.method).1
  have X0 : Stand p l e ({ frames := 0, cells := 0, slots := 0, locals := 0 } : Room) s m #[(.ref a1)] below meth c s₁ [] 0 0 := Stand.of_body Bd
  have e0 : s₁.heap = h0 := by rw [← hh, Bd.state]; rfl
  have N0 := Fr.nil n0
  have Z0 : n0 ≤ h0.size := O0.1 ▸ O0.2.1
  have pre0 : ∀ t, At p e below s₁ m 0 #[vR a1] [] t → Steps p.tables e below (s₁.setTop (entryFrame m #[(.ref a1)] 1)) t := fun t k => castTop (ef_9_0 m a1) k
  obtain ⟨T1, X1, e1, st1⟩ := getS2 X0 hx hZ hown (host := "") (Or.inl (wd hw 43 rfl)) Via.refl e0 (SC.ext O0.2) (g := (mkF m 0 #[vR a1] [])) rfl (hb hby d9_0)
  have pre2 := fun t (kt : At p e below T1 m 3 #[vR a1] [(.int cs)] t) => pre0 t (st1 _ kt)
  have pre3 := fun t (kt : At p e below T1 m 7 #[vR a1] [(.ref a1)] t) => pre2 t (by
    show At p e below T1 m 3 #[vR a1] [(.int cs)] _
    refine XS.ifNo X1.here hx rfl (hb hby d9_3) rfl ((if0 _ _).trans (feq (hcs : ¬ (cs = (0 : Int32)))).1) ?_
    show At p e below T1 m 6 #[vR a1] [] _
    refine XS.aloadN X1.here hx rfl (hb hby d9_6) rfl rfl ?_
    exact kt)
  obtain ⟨T4, X4, e4, st4⟩ := getF X1 hx hZ hown (host := "") (Or.inl (wd hw 23 rfl)) Via.refl e1 Fc (g := (mkF m 7 #[vR a1] [(.ref a1)])) rfl rfl (hb hby d9_7)
  have pre5 := fun t (kt : At p e below T4 m 10 #[vR a1] [(.int 0)] t) => pre3 t (st4 _ kt)
  have pre6 := fun t (kt : At p e below T4 m 14 #[vR a1] [(.int 0)] t) => pre5 t (by
    show At p e below T4 m 10 #[vR a1] [(.int 0)] _
    refine XS.goto X4.here hx rfl (pc0 := 10) (pc' := 14) rfl (hb hby d9_10) (by decide) (by decide) ?_
    exact kt)
  obtain ⟨fs, hr, hrun, hended, hW, hsame⟩ := X4.leave (v := (some (.int 0))) (fun h => by rw [Bd.returns] at h; cases h)
  refine ⟨_, _, pre6 _ ?_, hrun, hended, _, _, rfl, ?_, ⟨_, rfl⟩, hW, hsame.mono (by decide) (by decide)⟩
  · show At p e below T4 m 14 #[vR a1] [(.int 0)] _
    exact retN X4 hx (t := .byte) Bd.returns (by simp) (hb hby d9_14) hr
  · show Q9_0 Z a1 cs h0 n0 _ T4.heap _
    rw [e4]
    exact ⟨rfl, N0, rfl⟩
theorem ef_7_0 (m : MethodId) (a1 : Addr) : entryFrame m #[(.ref a1)] 1 = (mkF m 0 #[vR a1] []) := by first | (simp [entryFrame, mkF, argsToLocals, Value.category]; done) | rfl
theorem d7_0 : decode jdk_42_method_154_code 0 = .ok (.getstatic 38, 3) := by decide +kernel
theorem d7_3 : decode jdk_42_method_154_code 3 = .ok (.ifCond .eq 14, 3) := by decide +kernel
theorem d7_6 : decode jdk_42_method_154_code 6 = .ok (.aload_n 0, 1) := by decide +kernel
theorem d7_7 : decode jdk_42_method_154_code 7 = .ok (.getfield 15, 3) := by decide +kernel
theorem d7_10 : decode jdk_42_method_154_code 10 = .ok (.ifCond .ne 7, 3) := by decide +kernel
theorem d7_13 : decode jdk_42_method_154_code 13 = .ok (.iconst 1, 1) := by decide +kernel
theorem d7_14 : decode jdk_42_method_154_code 14 = .ok (.goto 4, 3) := by decide +kernel
theorem d7_18 : decode jdk_42_method_154_code 18 = .ok (.ireturn, 1) := by decide +kernel
def Q7_0 (Z : State) (a1 : Addr) (cs : Int32) (h0 : Heap) (n0 : Nat) (v : Option Value) (h : Heap) (L : List Loc) : Prop := v = some (.int 1) ∧ Fr n0 L ∧ h = h0
set_option maxRecDepth 65536 in
set_option maxHeartbeats 40000000 in
theorem rm7_0 (l : Launch) (Z : State) (a0 : Array Value) (hw : ∀ d ∈ tables_1, d.before a0 Z = true) (ws : List Jvm.Cond) (a1 : Addr) (cs : Int32) (h0 : Heap) (n0 : Nat) (O0 : Old Z n0 h0) (SC : Sta Z Z.heap "java/lang/String" "COMPACT_STRINGS" "Z" (.int cs)) (hcs : ¬ (cs = (0 : Int32))) (Fc : Fld Z h0 a1 "java/lang/String" "coder" "B" (.int 0)) :
    MetFree l (⟨"java/lang/String", "isLatin1", "()Z"⟩ : MethodName) (head1 (Jvm.Cond.code (⟨"java/lang/String", "isLatin1", "()Z"⟩ : MethodName) jdk_42_method_154_code 1 (some .boolean) :: ws) ({ frames := 0, cells := 0, slots := 0, locals := 0 } : Room)) (fun a U => a = #[(.ref a1)] ∧ Z.Warmed39 U.vm ∧ U.heap = h0) (fun _ _ _ _ _ => True) (fun _ U o U' => ∃ v L, o = .returned v ∧ Q7_0 Z a1 cs h0 n0 v U'.heap L ∧ FrameEnd U o U' L ({ frames := 0, cells := 0, slots := 0, locals := 0 } : Room).cells ({ frames := 0, cells := 0, slots := 0, locals := 0 } : Room).slots) := by
  refine MetFree.of_bodySF (plainFor_of_name pn_4) hisR ?_
  intro p e s m args below meth c s₁ Bd hml0 hP hK
  obtain ⟨rfl, hZ, hh⟩ := hP
  have hx := Bd.exec
  have hby := Bd.bytes
  have hml : c.maxLocals = 1 := hml0
  have hown : s.vm.findClass "java/lang/String" = some m.cls := findClass_of_methodNamed Bd.named
  have hnm := (name_of_methodNamed Bd.named Bd.method).1
  have X0 : Stand p l e ({ frames := 0, cells := 0, slots := 0, locals := 0 } : Room) s m #[(.ref a1)] below meth c s₁ [] 0 0 := Stand.of_body Bd
  have e0 : s₁.heap = h0 := by rw [← hh, Bd.state]; rfl
  have N0 := Fr.nil n0
  have Z0 : n0 ≤ h0.size := O0.1 ▸ O0.2.1
  have pre0 : ∀ t, At p e below s₁ m 0 #[vR a1] [] t → Steps p.tables e below (s₁.setTop (entryFrame m #[(.ref a1)] 1)) t := fun t k => castTop (ef_7_0 m a1) k
  obtain ⟨T1, X1, e1, st1⟩ := getS2 X0 hx hZ hown (host := "") (Or.inl (wd hw 43 rfl)) Via.refl e0 (SC.ext O0.2) (g := (mkF m 0 #[vR a1] [])) rfl (hb hby d7_0)
  have pre2 := fun t (kt : At p e below T1 m 3 #[vR a1] [(.int cs)] t) => pre0 t (st1 _ kt)
  have pre3 := fun t (kt : At p e below T1 m 7 #[vR a1] [(.ref a1)] t) => pre2 t (by
    show At p e below T1 m 3 #[vR a1] [(.int cs)] _
    refine XS.ifNo X1.here hx rfl (hb hby d7_3) rfl ((if0 _ _).trans (feq (hcs : ¬ (cs = (0 : Int32)))).1) ?_
    show At p e below T1 m 6 #[vR a1] [] _
    refine XS.aloadN X1.here hx rfl (hb hby d7_6) rfl rfl ?_
    exact kt)
  obtain ⟨T4, X4, e4, st4⟩ := getF X1 hx hZ hown (host := "") (Or.inl (wd hw 23 rfl)) Via.refl e1 Fc (g := (mkF m 7 #[vR a1] [(.ref a1)])) rfl rfl (hb hby d7_7)
  have pre5 := fun t (kt : At p e below T4 m 10 #[vR a1] [(.int 0)] t) => pre3 t (st4 _ kt)
  have pre6 := fun t (kt : At p e below T4 m 18 #[vR a1] [(.int 1)] t) => pre5 t (by
    show At p e below T4 m 10 #[vR a1] [(.int 0)] _
    refine XS.ifNo X4.here hx rfl (hb hby d7_10) rfl ((if0 _ _).trans (teq (by decide : (0 : Int32) = (0 : Int32))).2) ?_
    show At p e below T4 m 13 #[vR a1] [] _
    refine XS.iconst X4.here hx rfl (hb hby d7_13) ?_
    show At p e below T4 m 14 #[vR a1] [(.int 1)] _
    refine XS.goto X4.here hx rfl (pc0 := 14) (pc' := 18) rfl (hb hby d7_14) (by decide) (by decide) ?_
    exact kt)
  obtain ⟨fs, hr, hrun, hended, hW, hsame⟩ := X4.leave (v := (some (.int 1))) (fun h => by rw [Bd.returns] at h; cases h)
  refine ⟨_, _, pre6 _ ?_, hrun, hended, _, _, rfl, ?_, ⟨_, rfl⟩, hW, hsame.mono (by decide) (by decide)⟩
  · show At p e below T4 m 18 #[vR a1] [(.int 1)] _
    exact retN X4 hx (t := .boolean) Bd.returns (by simp) (hb hby d7_18) hr
  · show Q7_0 Z a1 cs h0 n0 _ T4.heap _
    rw [e4]
    exact ⟨rfl, N0, rfl⟩
theorem ef_8_0 (m : MethodId) (a1 : Addr) : entryFrame m #[(.ref a1)] 1 = (mkF m 0 #[vR a1] []) := by first | (simp [entryFrame, mkF, argsToLocals, Value.category]; done) | rfl
theorem d8_0 : decode jdk_42_method_54_code 0 = .ok (.aload_n 0, 1) := by decide +kernel
theorem d8_1 : decode jdk_42_method_54_code 1 = .ok (.getfield 9, 3) := by decide +kernel
theorem d8_4 : decode jdk_42_method_54_code 4 = .ok (.arraylength, 1) := by decide +kernel
theorem d8_5 : decode jdk_42_method_54_code 5 = .ok (.aload_n 0, 1) := by decide +kernel
theorem pd_8 : parseMethodDescriptor "()B" = some ⟨[], some .byte⟩ := by decide +kernel
theorem d8_6 : decode jdk_42_method_54_code 6 = .ok (.invokevirtual 335, 3) := by decide +kernel
theorem d8_9 : decode jdk_42_method_54_code 9 = .ok (.ishr, 1) := by decide +kernel
theorem d8_10 : decode jdk_42_method_54_code 10 = .ok (.ireturn, 1) := by decide +kernel
def Q8_0 (Z : State) (a1 : Addr) (cs : Int32) (ab : Addr) (kb : ClassId) (vs : List Value) (z : Int32) (n : Int32) (h0 : Heap) (n0 : Nat) (v : Option Value) (h : Heap) (L : List Loc) : Prop := v = some (.int n) ∧ Fr n0 L ∧ h = h0
set_option maxRecDepth 65536 in
set_option maxHeartbeats 40000000 in
theorem rm8_0 (l : Launch) (Z : State) (a0 : Array Value) (hw : ∀ d ∈ tables_1, d.before a0 Z = true) (ws : List Jvm.Cond) (a1 : Addr) (cs : Int32) (ab : Addr) (kb : ClassId) (vs : List Value) (z : Int32) (n : Int32) (h0 : Heap) (n0 : Nat) (O0 : Old Z n0 h0) (SC : Sta Z Z.heap "java/lang/String" "COMPACT_STRINGS" "Z" (.int cs)) (hcs : ¬ (cs = (0 : Int32))) (Fc : Fld Z h0 a1 "java/lang/String" "coder" "B" (.int 0)) (E1 : Exa Z h0 a1 "java/lang/String") (Fv : Fld Z h0 a1 "java/lang/String" "value" "[B" (.ref ab)) (Vb : Arv Z h0 ab kb .byte z vs (.int 0)) (hz : (z >>> ((0 : Int32) &&& 31)) = n) :
    MetFree l (⟨"java/lang/String", "length", "()I"⟩ : MethodName) (head1 (Jvm.Cond.code (⟨"java/lang/String", "length", "()I"⟩ : MethodName) jdk_42_method_54_code 1 (some .int) :: ws) ({ frames := 1, cells := 0, slots := 0, locals := 13 } : Room)) (fun a U => a = #[(.ref a1)] ∧ Z.Warmed39 U.vm ∧ U.heap = h0) (fun _ _ _ _ _ => True) (fun _ U o U' => ∃ v L, o = .returned v ∧ Q8_0 Z a1 cs ab kb vs z n h0 n0 v U'.heap L ∧ FrameEnd U o U' L ({ frames := 1, cells := 0, slots := 0, locals := 13 } : Room).cells ({ frames := 1, cells := 0, slots := 0, locals := 13 } : Room).slots) := by
  refine MetFree.of_bodySF (plainFor_of_name pn_4) hisR ?_
  intro p e s m args below meth c s₁ Bd hml0 hP hK
  obtain ⟨rfl, hZ, hh⟩ := hP
  have hx := Bd.exec
  have hby := Bd.bytes
  have hml : c.maxLocals = 1 := hml0
  have hown : s.vm.findClass "java/lang/String" = some m.cls := findClass_of_methodNamed Bd.named
  have hnm := (name_of_methodNamed Bd.named Bd.method).1
  have X0 : Stand p l e ({ frames := 1, cells := 0, slots := 0, locals := 13 } : Room) s m #[(.ref a1)] below meth c s₁ [] 0 0 := Stand.of_body Bd
  have e0 : s₁.heap = h0 := by rw [← hh, Bd.state]; rfl
  have N0 := Fr.nil n0
  have Z0 : n0 ≤ h0.size := O0.1 ▸ O0.2.1
  have pre0 : ∀ t, At p e below s₁ m 0 #[vR a1] [] t → Steps p.tables e below (s₁.setTop (entryFrame m #[(.ref a1)] 1)) t := fun t k => castTop (ef_8_0 m a1) k
  have pre1 := fun t (kt : At p e below s₁ m 1 #[vR a1] [(.ref a1)] t) => pre0 t (by
    show At p e below s₁ m 0 #[vR a1] [] _
    refine XS.aloadN X0.here hx rfl (hb hby d8_0) rfl rfl ?_
    exact kt)
  obtain ⟨T2, X2, e2, st2⟩ := getF X0 hx hZ hown (host := "") (Or.inl (wd hw 22 rfl)) Via.refl e0 Fv (g := (mkF m 1 #[vR a1] [(.ref a1)])) rfl rfl (hb hby d8_1)
  have pre3 := fun t (kt : At p e below T2 m 4 #[vR a1] [(.ref ab)] t) => pre1 t (st2 _ kt)
  obtain ⟨cl4, Ar4, qk4, Sz4, Nn4, Hh4, Gg4⟩ := id Vb
  have pre5 := fun t (kt : At p e below T2 m 6 #[vR a1] [(.ref a1), (.int z)] t) => pre3 t (by
    show At p e below T2 m 4 #[vR a1] [(.ref ab)] _
    refine X2.arraylength hx (by rw [e2]; exact Ar4.1) (State.isArrayOf_alike hZ.alike Ar4.2.1) (g := (mkF m 4 #[vR a1] [(.ref ab)])) rfl rfl (hb hby d8_4) _ ?_
    rw [len_of Sz4 Nn4]
    show At p e below T2 m 5 #[vR a1] [(.int z)] _
    refine XS.aloadN X2.here hx rfl (hb hby d8_5) rfl rfl ?_
    exact kt)
  obtain ⟨cq6, kq6, q6a, q6b, q6c⟩ := isOf hZ e2 E1
  obtain ⟨_, _, ⟨T7, L7, kc7, nc7⟩, -, X7, ⟨Lc7, hQ7, l7, y7, z7⟩, st7⟩ := X2.virtualBack hx (y := (⟨"java/lang/String", "coder", "()B"⟩ : MethodName)) (z := (⟨"java/lang/String", "coder", "()B"⟩ : MethodName)) hown (mvT hZ (wd hw 49 rfl)) (mvT hZ (wd hw 50 rfl)) (notFace_of_selects (args := #[]) (mvT hZ (wd hw 52 rfl))) (mvT hZ (wd hw 52 rfl)) (mvT hZ (wd hw 51 rfl)) (by decide) (backOf (W := 1) (rm9_0 l Z a0 hw [] a1 cs h0 n0 O0 SC hcs Fc) hZ (wd hw 53 rfl) (wd hw 5 rfl) (by decide) (by decide)) q6a q6c (g := (mkF m 6 #[vR a1] [(.ref a1), (.int z)])) rfl (by rw [hml]; rfl) (Steps.refl _) (argsL := []) (rest := [(.int z)]) (lenOf pd_8 rfl) rfl (by show 2 * 0 + _ ≤ _; exact Nat.le_of_eq rfl) (hb hby d8_6) (fun _ _ => ⟨rfl, e2, (by decide : 0 + 0 ≤ _), (by decide : 0 + 0 ≤ _)⟩)
  dsimp only [Pt.U, Pt.locs, Pt.cells, Pt.slots] at X7 l7 y7 z7 st7 hQ7
  subst l7 y7 z7
  obtain ⟨rfl, N7q, he7⟩ := hQ7
  have N7 := Fr.app N0 N7q
  have pre8 := fun t (kt : At p e below T7 m 9 #[vR a1] [(.int 0), (.int z)] t) => pre5 t (st7.trans kt)
  have pre9 := fun t (kt : At p e below T7 m 10 #[vR a1] [(.int n)] t) => pre8 t (by
    show At p e below T7 m 9 #[vR a1] [(.int 0), (.int z)] _
    refine XS.ishr X7.here hx rfl (hb hby d8_9) rfl ?_
    show At p e below T7 m 10 #[vR a1] [(.int (z >>> ((0 : Int32) &&& 31)))] _
    rw [show (z >>> ((0 : Int32) &&& 31)) = n from hz]
    exact kt)
  obtain ⟨fs, hr, hrun, hended, hW, hsame⟩ := X7.leave (v := (some (.int n))) (fun h => by rw [Bd.returns] at h; cases h)
  refine ⟨_, _, pre9 _ ?_, hrun, hended, _, _, rfl, ?_, ⟨_, rfl⟩, hW, hsame.mono (by decide) (by decide)⟩
  · show At p e below T7 m 10 #[vR a1] [(.int n)] _
    exact retI X7 hx Bd.returns (hb hby d8_10) hr
  · show Q8_0 Z a1 cs ab kb vs z n h0 n0 _ T7.heap _
    rw [he7]
    exact ⟨rfl, N7, rfl⟩
theorem ef_9_1 (m : MethodId) (a1 : Addr) : entryFrame m #[(.ref a1)] 1 = (mkF m 0 #[vR a1] []) := by first | (simp [entryFrame, mkF, argsToLocals, Value.category]; done) | rfl
def Q9_1 (Z : State) (a1 : Addr) (cs : Int32) (h0 : Heap) (n0 : Nat) (v : Option Value) (h : Heap) (L : List Loc) : Prop := v = some (.int 1) ∧ Fr n0 L ∧ h = h0
set_option maxRecDepth 65536 in
set_option maxHeartbeats 40000000 in
theorem rm9_1 (l : Launch) (Z : State) (a0 : Array Value) (hw : ∀ d ∈ tables_1, d.before a0 Z = true) (ws : List Jvm.Cond) (a1 : Addr) (cs : Int32) (h0 : Heap) (n0 : Nat) (O0 : Old Z n0 h0) (SC : Sta Z Z.heap "java/lang/String" "COMPACT_STRINGS" "Z" (.int cs)) (hcs : ¬ (cs = (0 : Int32))) (Fc : Fld Z h0 a1 "java/lang/String" "coder" "B" (.int 1)) :
    MetFree l (⟨"java/lang/String", "coder", "()B"⟩ : MethodName) (head1 (Jvm.Cond.code (⟨"java/lang/String", "coder", "()B"⟩ : MethodName) jdk_42_method_152_code 1 (some .byte) :: ws) ({ frames := 0, cells := 0, slots := 0, locals := 0 } : Room)) (fun a U => a = #[(.ref a1)] ∧ Z.Warmed39 U.vm ∧ U.heap = h0) (fun _ _ _ _ _ => True) (fun _ U o U' => ∃ v L, o = .returned v ∧ Q9_1 Z a1 cs h0 n0 v U'.heap L ∧ FrameEnd U o U' L ({ frames := 0, cells := 0, slots := 0, locals := 0 } : Room).cells ({ frames := 0, cells := 0, slots := 0, locals := 0 } : Room).slots) := by
  refine MetFree.of_bodySF (plainFor_of_name pn_4) hisR ?_
  intro p e s m args below meth c s₁ Bd hml0 hP hK
  obtain ⟨rfl, hZ, hh⟩ := hP
  have hx := Bd.exec
  have hby := Bd.bytes
  have hml : c.maxLocals = 1 := hml0
  have hown : s.vm.findClass "java/lang/String" = some m.cls := findClass_of_methodNamed Bd.named
  have hnm := (name_of_methodNamed Bd.named Bd.method).1
  have X0 : Stand p l e ({ frames := 0, cells := 0, slots := 0, locals := 0 } : Room) s m #[(.ref a1)] below meth c s₁ [] 0 0 := Stand.of_body Bd
  have e0 : s₁.heap = h0 := by rw [← hh, Bd.state]; rfl
  have N0 := Fr.nil n0
  have Z0 : n0 ≤ h0.size := O0.1 ▸ O0.2.1
  have pre0 : ∀ t, At p e below s₁ m 0 #[vR a1] [] t → Steps p.tables e below (s₁.setTop (entryFrame m #[(.ref a1)] 1)) t := fun t k => castTop (ef_9_1 m a1) k
  obtain ⟨T1, X1, e1, st1⟩ := getS2 X0 hx hZ hown (host := "") (Or.inl (wd hw 43 rfl)) Via.refl e0 (SC.ext O0.2) (g := (mkF m 0 #[vR a1] [])) rfl (hb hby d9_0)
  have pre2 := fun t (kt : At p e below T1 m 3 #[vR a1] [(.int cs)] t) => pre0 t (st1 _ kt)
  have pre3 := fun t (kt : At p e below T1 m 7 #[vR a1] [(.ref a1)] t) => pre2 t (by
    show At p e below T1 m 3 #[vR a1] [(.int cs)] _
    refine XS.ifNo X1.here hx rfl (hb hby d9_3) rfl ((if0 _ _).trans (feq (hcs : ¬ (cs = (0 : Int32)))).1) ?_
    show At p e below T1 m 6 #[vR a1] [] _
    refine XS.aloadN X1.here hx rfl (hb hby d9_6) rfl rfl ?_
    exact kt)
  obtain ⟨T4, X4, e4, st4⟩ := getF X1 hx hZ hown (host := "") (Or.inl (wd hw 23 rfl)) Via.refl e1 Fc (g := (mkF m 7 #[vR a1] [(.ref a1)])) rfl rfl (hb hby d9_7)
  have pre5 := fun t (kt : At p e below T4 m 10 #[vR a1] [(.int 1)] t) => pre3 t (st4 _ kt)
  have pre6 := fun t (kt : At p e below T4 m 14 #[vR a1] [(.int 1)] t) => pre5 t (by
    show At p e below T4 m 10 #[vR a1] [(.int 1)] _
    refine XS.goto X4.here hx rfl (pc0 := 10) (pc' := 14) rfl (hb hby d9_10) (by decide) (by decide) ?_
    exact kt)
  obtain ⟨fs, hr, hrun, hended, hW, hsame⟩ := X4.leave (v := (some (.int 1))) (fun h => by rw [Bd.returns] at h; cases h)
  refine ⟨_, _, pre6 _ ?_, hrun, hended, _, _, rfl, ?_, ⟨_, rfl⟩, hW, hsame.mono (by decide) (by decide)⟩
  · show At p e below T4 m 14 #[vR a1] [(.int 1)] _
    exact retN X4 hx (t := .byte) Bd.returns (by simp) (hb hby d9_14) hr
  · show Q9_1 Z a1 cs h0 n0 _ T4.heap _
    rw [e4]
    exact ⟨rfl, N0, rfl⟩
theorem ef_7_1 (m : MethodId) (a1 : Addr) : entryFrame m #[(.ref a1)] 1 = (mkF m 0 #[vR a1] []) := by first | (simp [entryFrame, mkF, argsToLocals, Value.category]; done) | rfl
theorem d7_17 : decode jdk_42_method_154_code 17 = .ok (.iconst 0, 1) := by decide +kernel
def Q7_1 (Z : State) (a1 : Addr) (cs : Int32) (h0 : Heap) (n0 : Nat) (v : Option Value) (h : Heap) (L : List Loc) : Prop := v = some (.int 0) ∧ Fr n0 L ∧ h = h0
set_option maxRecDepth 65536 in
set_option maxHeartbeats 40000000 in
theorem rm7_1 (l : Launch) (Z : State) (a0 : Array Value) (hw : ∀ d ∈ tables_1, d.before a0 Z = true) (ws : List Jvm.Cond) (a1 : Addr) (cs : Int32) (h0 : Heap) (n0 : Nat) (O0 : Old Z n0 h0) (SC : Sta Z Z.heap "java/lang/String" "COMPACT_STRINGS" "Z" (.int cs)) (hcs : ¬ (cs = (0 : Int32))) (Fc : Fld Z h0 a1 "java/lang/String" "coder" "B" (.int 1)) :
    MetFree l (⟨"java/lang/String", "isLatin1", "()Z"⟩ : MethodName) (head1 (Jvm.Cond.code (⟨"java/lang/String", "isLatin1", "()Z"⟩ : MethodName) jdk_42_method_154_code 1 (some .boolean) :: ws) ({ frames := 0, cells := 0, slots := 0, locals := 0 } : Room)) (fun a U => a = #[(.ref a1)] ∧ Z.Warmed39 U.vm ∧ U.heap = h0) (fun _ _ _ _ _ => True) (fun _ U o U' => ∃ v L, o = .returned v ∧ Q7_1 Z a1 cs h0 n0 v U'.heap L ∧ FrameEnd U o U' L ({ frames := 0, cells := 0, slots := 0, locals := 0 } : Room).cells ({ frames := 0, cells := 0, slots := 0, locals := 0 } : Room).slots) := by
  refine MetFree.of_bodySF (plainFor_of_name pn_4) hisR ?_
  intro p e s m args below meth c s₁ Bd hml0 hP hK
  obtain ⟨rfl, hZ, hh⟩ := hP
  have hx := Bd.exec
  have hby := Bd.bytes
  have hml : c.maxLocals = 1 := hml0
  have hown : s.vm.findClass "java/lang/String" = some m.cls := findClass_of_methodNamed Bd.named
  have hnm := (name_of_methodNamed Bd.named Bd.method).1
  have X0 : Stand p l e ({ frames := 0, cells := 0, slots := 0, locals := 0 } : Room) s m #[(.ref a1)] below meth c s₁ [] 0 0 := Stand.of_body Bd
  have e0 : s₁.heap = h0 := by rw [← hh, Bd.state]; rfl
  have N0 := Fr.nil n0
  have Z0 : n0 ≤ h0.size := O0.1 ▸ O0.2.1
  have pre0 : ∀ t, At p e below s₁ m 0 #[vR a1] [] t → Steps p.tables e below (s₁.setTop (entryFrame m #[(.ref a1)] 1)) t := fun t k => castTop (ef_7_1 m a1) k
  obtain ⟨T1, X1, e1, st1⟩ := getS2 X0 hx hZ hown (host := "") (Or.inl (wd hw 43 rfl)) Via.refl e0 (SC.ext O0.2) (g := (mkF m 0 #[vR a1] [])) rfl (hb hby d7_0)
  have pre2 := fun t (kt : At p e below T1 m 3 #[vR a1] [(.int cs)] t) => pre0 t (st1 _ kt)
  have pre3 := fun t (kt : At p e below T1 m 7 #[vR a1] [(.ref a1)] t) => pre2 t (by
    show At p e below T1 m 3 #[vR a1] [(.int cs)] _
    refine XS.ifNo X1.here hx rfl (hb hby d7_3) rfl ((if0 _ _).trans (feq (hcs : ¬ (cs = (0 : Int32)))).1) ?_
    show At p e below T1 m 6 #[vR a1] [] _
    refine XS.aloadN X1.here hx rfl (hb hby d7_6) rfl rfl ?_
    exact kt)
  obtain ⟨T4, X4, e4, st4⟩ := getF X1 hx hZ hown (host := "") (Or.inl (wd hw 23 rfl)) Via.refl e1 Fc (g := (mkF m 7 #[vR a1] [(.ref a1)])) rfl rfl (hb hby d7_7)
  have pre5 := fun t (kt : At p e below T4 m 10 #[vR a1] [(.int 1)] t) => pre3 t (st4 _ kt)
  have pre6 := fun t (kt : At p e below T4 m 18 #[vR a1] [(.int 0)] t) => pre5 t (by
    show At p e below T4 m 10 #[vR a1] [(.int 1)] _
    refine XS.ifYes X4.here hx rfl (pc0 := 10) (pc' := 17) rfl (hb hby d7_10) rfl ((if0 _ _).trans (feq (by decide : ¬ ((1 : Int32) = (0 : Int32)))).2) (by decide) (by decide) ?_
    show At p e below T4 m 17 #[vR a1] [] _
    refine XS.iconst X4.here hx rfl (hb hby d7_17) ?_
    exact kt)
  obtain ⟨fs, hr, hrun, hended, hW, hsame⟩ := X4.leave (v := (some (.int 0))) (fun h => by rw [Bd.returns] at h; cases h)
  refine ⟨_, _, pre6 _ ?_, hrun, hended, _, _, rfl, ?_, ⟨_, rfl⟩, hW, hsame.mono (by decide) (by decide)⟩
  · show At p e below T4 m 18 #[vR a1] [(.int 0)] _
    exact retN X4 hx (t := .boolean) Bd.returns (by simp) (hb hby d7_18) hr
  · show Q7_1 Z a1 cs h0 n0 _ T4.heap _
    rw [e4]
    exact ⟨rfl, N0, rfl⟩
theorem ef_8_1 (m : MethodId) (a1 : Addr) : entryFrame m #[(.ref a1)] 1 = (mkF m 0 #[vR a1] []) := by first | (simp [entryFrame, mkF, argsToLocals, Value.category]; done) | rfl
def Q8_1 (Z : State) (a1 : Addr) (cs : Int32) (ab : Addr) (kb : ClassId) (vs : List Value) (z : Int32) (n : Int32) (h0 : Heap) (n0 : Nat) (v : Option Value) (h : Heap) (L : List Loc) : Prop := v = some (.int n) ∧ Fr n0 L ∧ h = h0
set_option maxRecDepth 65536 in
set_option maxHeartbeats 40000000 in
theorem rm8_1 (l : Launch) (Z : State) (a0 : Array Value) (hw : ∀ d ∈ tables_1, d.before a0 Z = true) (ws : List Jvm.Cond) (a1 : Addr) (cs : Int32) (ab : Addr) (kb : ClassId) (vs : List Value) (z : Int32) (n : Int32) (h0 : Heap) (n0 : Nat) (O0 : Old Z n0 h0) (SC : Sta Z Z.heap "java/lang/String" "COMPACT_STRINGS" "Z" (.int cs)) (hcs : ¬ (cs = (0 : Int32))) (Fc : Fld Z h0 a1 "java/lang/String" "coder" "B" (.int 1)) (E1 : Exa Z h0 a1 "java/lang/String") (Fv : Fld Z h0 a1 "java/lang/String" "value" "[B" (.ref ab)) (Vb : Arv Z h0 ab kb .byte z vs (.int 0)) (hz : (z >>> ((1 : Int32) &&& 31)) = n) :
    MetFree l (⟨"java/lang/String", "length", "()I"⟩ : MethodName) (head1 (Jvm.Cond.code (⟨"java/lang/String", "length", "()I"⟩ : MethodName) jdk_42_method_54_code 1 (some .int) :: ws) ({ frames := 1, cells := 0, slots := 0, locals := 13 } : Room)) (fun a U => a = #[(.ref a1)] ∧ Z.Warmed39 U.vm ∧ U.heap = h0) (fun _ _ _ _ _ => True) (fun _ U o U' => ∃ v L, o = .returned v ∧ Q8_1 Z a1 cs ab kb vs z n h0 n0 v U'.heap L ∧ FrameEnd U o U' L ({ frames := 1, cells := 0, slots := 0, locals := 13 } : Room).cells ({ frames := 1, cells := 0, slots := 0, locals := 13 } : Room).slots) := by
  refine MetFree.of_bodySF (plainFor_of_name pn_4) hisR ?_
  intro p e s m args below meth c s₁ Bd hml0 hP hK
  obtain ⟨rfl, hZ, hh⟩ := hP
  have hx := Bd.exec
  have hby := Bd.bytes
  have hml : c.maxLocals = 1 := hml0
  have hown : s.vm.findClass "java/lang/String" = some m.cls := findClass_of_methodNamed Bd.named
  have hnm := (name_of_methodNamed Bd.named Bd.method).1
  have X0 : Stand p l e ({ frames := 1, cells := 0, slots := 0, locals := 13 } : Room) s m #[(.ref a1)] below meth c s₁ [] 0 0 := Stand.of_body Bd
  have e0 : s₁.heap = h0 := by rw [← hh, Bd.state]; rfl
  have N0 := Fr.nil n0
  have Z0 : n0 ≤ h0.size := O0.1 ▸ O0.2.1
  have pre0 : ∀ t, At p e below s₁ m 0 #[vR a1] [] t → Steps p.tables e below (s₁.setTop (entryFrame m #[(.ref a1)] 1)) t := fun t k => castTop (ef_8_1 m a1) k
  have pre1 := fun t (kt : At p e below s₁ m 1 #[vR a1] [(.ref a1)] t) => pre0 t (by
    show At p e below s₁ m 0 #[vR a1] [] _
    refine XS.aloadN X0.here hx rfl (hb hby d8_0) rfl rfl ?_
    exact kt)
  obtain ⟨T2, X2, e2, st2⟩ := getF X0 hx hZ hown (host := "") (Or.inl (wd hw 22 rfl)) Via.refl e0 Fv (g := (mkF m 1 #[vR a1] [(.ref a1)])) rfl rfl (hb hby d8_1)
  have pre3 := fun t (kt : At p e below T2 m 4 #[vR a1] [(.ref ab)] t) => pre1 t (st2 _ kt)
  obtain ⟨cl4, Ar4, qk4, Sz4, Nn4, Hh4, Gg4⟩ := id Vb
  have pre5 := fun t (kt : At p e below T2 m 6 #[vR a1] [(.ref a1), (.int z)] t) => pre3 t (by
    show At p e below T2 m 4 #[vR a1] [(.ref ab)] _
    refine X2.arraylength hx (by rw [e2]; exact Ar4.1) (State.isArrayOf_alike hZ.alike Ar4.2.1) (g := (mkF m 4 #[vR a1] [(.ref ab)])) rfl rfl (hb hby d8_4) _ ?_
    rw [len_of Sz4 Nn4]
    show At p e below T2 m 5 #[vR a1] [(.int z)] _
    refine XS.aloadN X2.here hx rfl (hb hby d8_5) rfl rfl ?_
    exact kt)
  obtain ⟨cq6, kq6, q6a, q6b, q6c⟩ := isOf hZ e2 E1
  obtain ⟨_, _, ⟨T7, L7, kc7, nc7⟩, -, X7, ⟨Lc7, hQ7, l7, y7, z7⟩, st7⟩ := X2.virtualBack hx (y := (⟨"java/lang/String", "coder", "()B"⟩ : MethodName)) (z := (⟨"java/lang/String", "coder", "()B"⟩ : MethodName)) hown (mvT hZ (wd hw 49 rfl)) (mvT hZ (wd hw 50 rfl)) (notFace_of_selects (args := #[]) (mvT hZ (wd hw 52 rfl))) (mvT hZ (wd hw 52 rfl)) (mvT hZ (wd hw 51 rfl)) (by decide) (backOf (W := 1) (rm9_1 l Z a0 hw [] a1 cs h0 n0 O0 SC hcs Fc) hZ (wd hw 53 rfl) (wd hw 5 rfl) (by decide) (by decide)) q6a q6c (g := (mkF m 6 #[vR a1] [(.ref a1), (.int z)])) rfl (by rw [hml]; rfl) (Steps.refl _) (argsL := []) (rest := [(.int z)]) (lenOf pd_8 rfl) rfl (by show 2 * 0 + _ ≤ _; exact Nat.le_of_eq rfl) (hb hby d8_6) (fun _ _ => ⟨rfl, e2, (by decide : 0 + 0 ≤ _), (by decide : 0 + 0 ≤ _)⟩)
  dsimp only [Pt.U, Pt.locs, Pt.cells, Pt.slots] at X7 l7 y7 z7 st7 hQ7
  subst l7 y7 z7
  obtain ⟨rfl, N7q, he7⟩ := hQ7
  have N7 := Fr.app N0 N7q
  have pre8 := fun t (kt : At p e below T7 m 9 #[vR a1] [(.int 1), (.int z)] t) => pre5 t (st7.trans kt)
  have pre9 := fun t (kt : At p e below T7 m 10 #[vR a1] [(.int n)] t) => pre8 t (by
    show At p e below T7 m 9 #[vR a1] [(.int 1), (.int z)] _
    refine XS.ishr X7.here hx rfl (hb hby d8_9) rfl ?_
    show At p e below T7 m 10 #[vR a1] [(.int (z >>> ((1 : Int32) &&& 31)))] _
    rw [show (z >>> ((1 : Int32) &&& 31)) = n from hz]
    exact kt)
  obtain ⟨fs, hr, hrun, hended, hW, hsame⟩ := X7.leave (v := (some (.int n))) (fun h => by rw [Bd.returns] at h; cases h)
  refine ⟨_, _, pre9 _ ?_, hrun, hended, _, _, rfl, ?_, ⟨_, rfl⟩, hW, hsame.mono (by decide) (by decide)⟩
  · show At p e below T7 m 10 #[vR a1] [(.int n)] _
    exact retI X7 hx Bd.returns (hb hby d8_10) hr
  · show Q8_1 Z a1 cs ab kb vs z n h0 n0 _ T7.heap _
    rw [he7]
    exact ⟨rfl, N7, rfl⟩
/-- a search's contract: its answer is no less than 0 just where ch lies among qs -/
def own_IQ (h0 : Heap) (n0 : Nat) (ch : Int32) (qs : List Int32) (v : Option Value) (h : Heap) (L : List Loc) : Prop := ∃ r : Int32, v = some (.int r) ∧ Fr n0 L ∧ h = h0 ∧ (¬ (r < (0 : Int32)) ↔ ch ∈ qs)
def own_I (l : Launch) (Z : State) (y : MethodName) (bytes : ByteArray) (ml : Nat) (rm : Room) (as' : Array Value) (h0 : Heap) (n0 : Nat) (ch : Int32) (qs : List Int32) : Prop := MetFree l y (head1 [Jvm.Cond.code y bytes ml (some .int)] rm) (fun a U => a = as' ∧ Z.Warmed39 U.vm ∧ U.heap = h0) (fun _ _ _ _ _ => True) (fun _ U o U' => ∃ v L, o = .returned v ∧ own_IQ h0 n0 ch qs v U'.heap L ∧ FrameEnd U o U' L rm.cells rm.slots)
theorem own_minS (n : Int32) : own_min n n = n := by unfold own_min; split <;> rfl
theorem own_irr (n : Int32) : ¬ (n < n) := by rw [Int32.lt_iff_toInt_lt]; omega
theorem pn_5 : plainName "java/lang/StringLatin1" = true := by first | (simp [plainName, overriddenIn]; done) | decide +kernel
theorem ef_11 (m : MethodId) (ch : Int32) : entryFrame m #[(.int ch)] 1 = (mkF m 0 #[vI ch] []) := by first | (simp [entryFrame, mkF, argsToLocals, Value.category]; done) | rfl
theorem d11_0 : decode jdk_43_method_4_code 0 = .ok (.iload_n 0, 1) := by decide +kernel
theorem d11_1 : decode jdk_43_method_4_code 1 = .ok (.ifCond .lt 14, 3) := by decide +kernel
theorem d11_4 : decode jdk_43_method_4_code 4 = .ok (.iload_n 0, 1) := by decide +kernel
theorem d11_5 : decode jdk_43_method_4_code 5 = .ok (.sipush 255, 3) := by decide +kernel
theorem d11_8 : decode jdk_43_method_4_code 8 = .ok (.if_icmp .gt 7, 3) := by decide +kernel
theorem d11_11 : decode jdk_43_method_4_code 11 = .ok (.iconst 1, 1) := by decide +kernel
theorem d11_12 : decode jdk_43_method_4_code 12 = .ok (.goto 4, 3) := by decide +kernel
theorem d11_16 : decode jdk_43_method_4_code 16 = .ok (.ireturn, 1) := by decide +kernel
def Q11 (Z : State) (ch : Int32) (h0 : Heap) (n0 : Nat) (v : Option Value) (h : Heap) (L : List Loc) : Prop := v = some (.int 1) ∧ Fr n0 L ∧ h = h0
set_option maxRecDepth 65536 in
set_option maxHeartbeats 40000000 in
theorem rm11 (l : Launch) (Z : State) (a0 : Array Value) (hw : ∀ d ∈ tables_1, d.before a0 Z = true) (ws : List Jvm.Cond) (ch : Int32) (h0 : Heap) (n0 : Nat) (Z0 : n0 ≤ h0.size) (hc : ch = 42 ∨ ch = 63) :
    MetFree l (⟨"java/lang/StringLatin1", "canEncode", "(I)Z"⟩ : MethodName) (head1 (Jvm.Cond.code (⟨"java/lang/StringLatin1", "canEncode", "(I)Z"⟩ : MethodName) jdk_43_method_4_code 1 (some .boolean) :: ws) ({ frames := 0, cells := 0, slots := 0, locals := 0 } : Room)) (fun a U => a = #[(.int ch)] ∧ Z.Warmed39 U.vm ∧ U.heap = h0) (fun _ _ _ _ _ => True) (fun _ U o U' => ∃ v L, o = .returned v ∧ Q11 Z ch h0 n0 v U'.heap L ∧ FrameEnd U o U' L ({ frames := 0, cells := 0, slots := 0, locals := 0 } : Room).cells ({ frames := 0, cells := 0, slots := 0, locals := 0 } : Room).slots) := by
  refine MetFree.of_bodySF (plainFor_of_name pn_5) hisR ?_
  intro p e s m args below meth c s₁ Bd hml0 hP hK
  obtain ⟨rfl, hZ, hh⟩ := hP
  have hx := Bd.exec
  have hby := Bd.bytes
  have hml : c.maxLocals = 1 := hml0
  have hown : s.vm.findClass "java/lang/StringLatin1" = some m.cls := findClass_of_methodNamed Bd.named
  have hnm := (name_of_methodNamed Bd.named Bd.method).1
  have X0 : Stand p l e ({ frames := 0, cells := 0, slots := 0, locals := 0 } : Room) s m #[(.int ch)] below meth c s₁ [] 0 0 := Stand.of_body Bd
  have e0 : s₁.heap = h0 := by rw [← hh, Bd.state]; rfl
  have N0 := Fr.nil n0
  have pre0 : ∀ t, At p e below s₁ m 0 #[vI ch] [] t → Steps p.tables e below (s₁.setTop (entryFrame m #[(.int ch)] 1)) t := fun t k => castTop (ef_11 m ch) k
  have pre1 := fun t (kt : At p e below s₁ m 16 #[vI ch] [(.int 1)] t) => pre0 t (by
    show At p e below s₁ m 0 #[vI ch] [] _
    refine XS.iloadN X0.here hx rfl (hb hby d11_0) rfl ?_
    show At p e below s₁ m 1 #[vI ch] [(.int ch)] _
    refine XS.ifNo X0.here hx rfl (hb hby d11_1) rfl ((if0 _ _).trans (flt ((own_c0 hc) : ¬ (ch < (0 : Int32)))).1) ?_
    show At p e below s₁ m 4 #[vI ch] [] _
    refine XS.iloadN X0.here hx rfl (hb hby d11_4) rfl ?_
    show At p e below s₁ m 5 #[vI ch] [(.int ch)] _
    refine XS.sipush X0.here hx rfl (hb hby d11_5) ?_
    show At p e below s₁ m 8 #[vI ch] [(.int 255), (.int ch)] _
    refine XS.icmpNo X0.here hx rfl (hb hby d11_8) rfl (flt ((own_c1 hc) : ¬ ((255 : Int32) < ch))).2.2.1 ?_
    show At p e below s₁ m 11 #[vI ch] [] _
    refine XS.iconst X0.here hx rfl (hb hby d11_11) ?_
    show At p e below s₁ m 12 #[vI ch] [(.int 1)] _
    refine XS.goto X0.here hx rfl (pc0 := 12) (pc' := 16) rfl (hb hby d11_12) (by decide) (by decide) ?_
    exact kt)
  obtain ⟨fs, hr, hrun, hended, hW, hsame⟩ := X0.leave (v := (some (.int 1))) (fun h => by rw [Bd.returns] at h; cases h)
  refine ⟨_, _, pre1 _ ?_, hrun, hended, _, _, rfl, ?_, ⟨_, rfl⟩, hW, hsame.mono (by decide) (by decide)⟩
  · show At p e below s₁ m 16 #[vI ch] [(.int 1)] _
    exact retN X0 hx (t := .boolean) Bd.returns (by simp) (hb hby d11_16) hr
  · show Q11 Z ch h0 n0 _ s₁.heap _
    rw [e0]
    exact ⟨rfl, N0, rfl⟩
theorem ef_18_1 (m : MethodId) (ab : Addr) (ch : Int32) : entryFrame m #[(.ref ab), (.int ch), (.int 0), (.int 1)] 6 = (mkF m 0 #[vR ab, vI ch, vI 0, vI 1, vU, vU] []) := by first | (simp [entryFrame, mkF, argsToLocals, Value.category]; done) | rfl
theorem d18_0 : decode jdk_43_method_23_code 0 = .ok (.iload_n 1, 1) := by decide +kernel
theorem d18_1 : decode jdk_43_method_23_code 1 = .ok (.i2b, 1) := by decide +kernel
theorem d18_2 : decode jdk_43_method_23_code 2 = .ok (.istore 4, 2) := by decide +kernel
theorem d18_4 : decode jdk_43_method_23_code 4 = .ok (.iload_n 2, 1) := by decide +kernel
theorem d18_5 : decode jdk_43_method_23_code 5 = .ok (.istore 5, 2) := by decide +kernel
theorem d18_7 : decode jdk_43_method_23_code 7 = .ok (.iload 5, 2) := by decide +kernel
theorem d18_9 : decode jdk_43_method_23_code 9 = .ok (.iload_n 3, 1) := by decide +kernel
theorem d18_10 : decode jdk_43_method_23_code 10 = .ok (.if_icmp .ge 21, 3) := by decide +kernel
theorem d18_13 : decode jdk_43_method_23_code 13 = .ok (.aload_n 0, 1) := by decide +kernel
theorem d18_14 : decode jdk_43_method_23_code 14 = .ok (.iload 5, 2) := by decide +kernel
theorem d18_16 : decode jdk_43_method_23_code 16 = .ok (.baload, 1) := by decide +kernel
theorem d18_17 : decode jdk_43_method_23_code 17 = .ok (.iload 4, 2) := by decide +kernel
theorem d18_19 : decode jdk_43_method_23_code 19 = .ok (.if_icmp .ne 6, 3) := by decide +kernel
theorem d18_22 : decode jdk_43_method_23_code 22 = .ok (.iload 5, 2) := by decide +kernel
theorem d18_24 : decode jdk_43_method_23_code 24 = .ok (.ireturn, 1) := by decide +kernel
theorem d18_25 : decode jdk_43_method_23_code 25 = .ok (.iinc 5 1, 3) := by decide +kernel
theorem d18_28 : decode jdk_43_method_23_code 28 = .ok (.goto (-21), 3) := by decide +kernel
theorem d18_31 : decode jdk_43_method_23_code 31 = .ok (.iconst (-1), 1) := by decide +kernel
theorem d18_32 : decode jdk_43_method_23_code 32 = .ok (.ireturn, 1) := by decide +kernel
def Q18_1 (Z : State) (ab : Addr) (kb : ClassId) (ch : Int32) (q1 : Int32) (h0 : Heap) (n0 : Nat) (v : Option Value) (h : Heap) (L : List Loc) : Prop := ∃ r : Int32, v = some (.int r) ∧ Fr n0 L ∧ h = h0 ∧ (¬ (r < (0 : Int32)) ↔ ch ∈ [q1])
set_option maxRecDepth 65536 in
set_option maxHeartbeats 40000000 in
theorem rm18_1 (l : Launch) (Z : State) (a0 : Array Value) (hw : ∀ d ∈ tables_1, d.before a0 Z = true) (ws : List Jvm.Cond) (ab : Addr) (kb : ClassId) (ch : Int32) (q1 : Int32) (h0 : Heap) (n0 : Nat) (Z0 : n0 ≤ h0.size) (Vb : Arv Z h0 ab kb .byte (1 : Int32) [(.int (nar .byte (q1.toInt8.toInt32)))] (.int 0)) (R1 : own_R q1) (k1 : ¬ ((255 : Int32) < q1)) (hc : ch = 42 ∨ ch = 63) :
    MetFree l (⟨"java/lang/StringLatin1", "indexOfChar", "([BIII)I"⟩ : MethodName) (head1 (Jvm.Cond.code (⟨"java/lang/StringLatin1", "indexOfChar", "([BIII)I"⟩ : MethodName) jdk_43_method_23_code 6 (some .int) :: ws) ({ frames := 0, cells := 0, slots := 0, locals := 0 } : Room)) (fun a U => a = #[(.ref ab), (.int ch), (.int 0), (.int 1)] ∧ Z.Warmed39 U.vm ∧ U.heap = h0) (fun _ _ _ _ _ => True) (fun _ U o U' => ∃ v L, o = .returned v ∧ Q18_1 Z ab kb ch q1 h0 n0 v U'.heap L ∧ FrameEnd U o U' L ({ frames := 0, cells := 0, slots := 0, locals := 0 } : Room).cells ({ frames := 0, cells := 0, slots := 0, locals := 0 } : Room).slots) := by
  refine MetFree.of_bodySF (plainFor_of_name pn_5) hisR ?_
  intro p e s m args below meth c s₁ Bd hml0 hP hK
  obtain ⟨rfl, hZ, hh⟩ := hP
  have hx := Bd.exec
  have hby := Bd.bytes
  have hml : c.maxLocals = 6 := hml0
  have hown : s.vm.findClass "java/lang/StringLatin1" = some m.cls := findClass_of_methodNamed Bd.named
  have hnm := (name_of_methodNamed Bd.named Bd.method).1
  have X0 : Stand p l e ({ frames := 0, cells := 0, slots := 0, locals := 0 } : Room) s m #[(.ref ab), (.int ch), (.int 0), (.int 1)] below meth c s₁ [] 0 0 := Stand.of_body Bd
  have e0 : s₁.heap = h0 := by rw [← hh, Bd.state]; rfl
  have N0 := Fr.nil n0
  have pre0 : ∀ t, At p e below s₁ m 0 #[vR ab, vI ch, vI 0, vI 1, vU, vU] [] t → Steps p.tables e below (s₁.setTop (entryFrame m #[(.ref ab), (.int ch), (.int 0), (.int 1)] 6)) t := fun t k => castTop (ef_18_1 m ab ch) k
  have pre1 := fun t (kt : At p e below s₁ m 16 #[vR ab, vI ch, vI 0, vI 1, .val (.int (ch.toInt8.toInt32)), vI 0] [(.int 0), (.ref ab)] t) => pre0 t (by
    show At p e below s₁ m 0 #[vR ab, vI ch, vI 0, vI 1, vU, vU] [] _
    refine XS.iloadN X0.here hx rfl (hb hby d18_0) rfl ?_
    show At p e below s₁ m 1 #[vR ab, vI ch, vI 0, vI 1, vU, vU] [(.int ch)] _
    refine XS.i2b X0.here hx rfl (hb hby d18_1) rfl ?_
    show At p e below s₁ m 2 #[vR ab, vI ch, vI 0, vI 1, vU, vU] [(.int (ch.toInt8.toInt32))] _
    refine XS.istore X0.here hx rfl (hb hby d18_2) rfl (l' := #[vR ab, vI ch, vI 0, vI 1, .val (.int (ch.toInt8.toInt32)), vU]) rfl ?_
    show At p e below s₁ m 4 #[vR ab, vI ch, vI 0, vI 1, .val (.int (ch.toInt8.toInt32)), vU] [] _
    refine XS.iloadN X0.here hx rfl (hb hby d18_4) rfl ?_
    show At p e below s₁ m 5 #[vR ab, vI ch, vI 0, vI 1, .val (.int (ch.toInt8.toInt32)), vU] [(.int 0)] _
    refine XS.istore X0.here hx rfl (hb hby d18_5) rfl (l' := #[vR ab, vI ch, vI 0, vI 1, .val (.int (ch.toInt8.toInt32)), vI 0]) rfl ?_
    show At p e below s₁ m 7 #[vR ab, vI ch, vI 0, vI 1, .val (.int (ch.toInt8.toInt32)), vI 0] [] _
    refine XS.iload X0.here hx rfl (hb hby d18_7) rfl ?_
    show At p e below s₁ m 9 #[vR ab, vI ch, vI 0, vI 1, .val (.int (ch.toInt8.toInt32)), vI 0] [(.int 0)] _
    refine XS.iloadN X0.here hx rfl (hb hby d18_9) rfl ?_
    show At p e below s₁ m 10 #[vR ab, vI ch, vI 0, vI 1, .val (.int (ch.toInt8.toInt32)), vI 0] [(.int 1), (.int 0)] _
    refine XS.icmpNo X0.here hx rfl (hb hby d18_10) rfl (tlt (by decide : (0 : Int32) < (1 : Int32))).2.1 ?_
    show At p e below s₁ m 13 #[vR ab, vI ch, vI 0, vI 1, .val (.int (ch.toInt8.toInt32)), vI 0] [] _
    refine XS.aloadN X0.here hx rfl (hb hby d18_13) rfl rfl ?_
    show At p e below s₁ m 14 #[vR ab, vI ch, vI 0, vI 1, .val (.int (ch.toInt8.toInt32)), vI 0] [(.ref ab)] _
    refine XS.iload X0.here hx rfl (hb hby d18_14) rfl ?_
    exact kt)
  obtain ⟨cl2, Ar2, qk2, Sz2, Nn2, Hh2, Gg2⟩ := id Vb
  have hin2 : ¬ ((0 : Int32) < 0 ∨ cl2.slots.size ≤ ((0 : Int32)).toNatClampNeg) := inb_of Sz2 ⟨by decide, by decide⟩
  have hat2 : cl2.slots[((0 : Int32)).toNatClampNeg]? = some (.int (nar .byte (q1.toInt8.toInt32))) := Hh2.at hin2 rfl
  have pre3 := fun t (kt : At p e below s₁ m 19 #[vR ab, vI ch, vI 0, vI 1, .val (.int (ch.toInt8.toInt32)), vI 0] [(.int (ch.toInt8.toInt32)), (.int (nar .byte (q1.toInt8.toInt32)))] t) => pre1 t (by
    show At p e below s₁ m 16 #[vR ab, vI ch, vI 0, vI 1, .val (.int (ch.toInt8.toInt32)), vI 0] [(.int 0), (.ref ab)] _
    refine X0.baloadBytes hx (j := (0 : Int32)) (v := (.int (nar .byte (q1.toInt8.toInt32)))) (by rw [e0]; exact Ar2.1) (State.isArrayOf_alike hZ.alike Ar2.2.1) Ar2.2.2 hin2 hat2 (g := (mkF m 16 #[vR ab, vI ch, vI 0, vI 1, .val (.int (ch.toInt8.toInt32)), vI 0] [(.int 0), (.ref ab)])) rfl rfl (hb hby d18_16) _ ?_
    show At p e below s₁ m 17 #[vR ab, vI ch, vI 0, vI 1, .val (.int (ch.toInt8.toInt32)), vI 0] [(.int (nar .byte (q1.toInt8.toInt32)))] _
    refine XS.iload X0.here hx rfl (hb hby d18_17) rfl ?_
    exact kt)
  by_cases d1 : (nar .byte (q1.toInt8.toInt32)) = (ch.toInt8.toInt32)
  · have pre4 := fun t (kt : At p e below s₁ m 24 #[vR ab, vI ch, vI 0, vI 1, .val (.int (ch.toInt8.toInt32)), vI 0] [(.int 0)] t) => pre3 t (by
      show At p e below s₁ m 19 #[vR ab, vI ch, vI 0, vI 1, .val (.int (ch.toInt8.toInt32)), vI 0] [(.int (ch.toInt8.toInt32)), (.int (nar .byte (q1.toInt8.toInt32)))] _
      refine XS.icmpNo X0.here hx rfl (hb hby d18_19) rfl (teq (d1 : (nar .byte (q1.toInt8.toInt32)) = (ch.toInt8.toInt32))).2 ?_
      show At p e below s₁ m 22 #[vR ab, vI ch, vI 0, vI 1, .val (.int (ch.toInt8.toInt32)), vI 0] [] _
      refine XS.iload X0.here hx rfl (hb hby d18_22) rfl ?_
      exact kt)
    obtain ⟨fs, hr, hrun, hended, hW, hsame⟩ := X0.leave (v := (some (.int 0))) (fun h => by rw [Bd.returns] at h; cases h)
    refine ⟨_, _, pre4 _ ?_, hrun, hended, _, _, rfl, ?_, ⟨_, rfl⟩, hW, hsame.mono (by decide) (by decide)⟩
    · show At p e below s₁ m 24 #[vR ab, vI ch, vI 0, vI 1, .val (.int (ch.toInt8.toInt32)), vI 0] [(.int 0)] _
      exact retI X0 hx Bd.returns (hb hby d18_24) hr
    · show Q18_1 Z ab kb ch q1 h0 n0 _ s₁.heap _
      rw [e0]
      exact ⟨_, rfl, N0, rfl, iff_of_true (by decide) (own_here ((own_by R1 k1 hc).mp d1))⟩
  · have pre5 := fun t (kt : At p e below s₁ m 32 #[vR ab, vI ch, vI 0, vI 1, .val (.int (ch.toInt8.toInt32)), vI 1] [(.int (-1 : Int32))] t) => pre3 t (by
      show At p e below s₁ m 19 #[vR ab, vI ch, vI 0, vI 1, .val (.int (ch.toInt8.toInt32)), vI 0] [(.int (ch.toInt8.toInt32)), (.int (nar .byte (q1.toInt8.toInt32)))] _
      refine XS.icmpYes X0.here hx rfl (pc0 := 19) (pc' := 25) rfl (hb hby d18_19) rfl (feq (d1 : ¬ ((nar .byte (q1.toInt8.toInt32)) = (ch.toInt8.toInt32)))).2 (by decide) (by decide) ?_
      show At p e below s₁ m 25 #[vR ab, vI ch, vI 0, vI 1, .val (.int (ch.toInt8.toInt32)), vI 0] [] _
      refine XS.iinc X0.here hx rfl (hb hby d18_25) rfl (l' := #[vR ab, vI ch, vI 0, vI 1, .val (.int (ch.toInt8.toInt32)), .val (.int ((0 : Int32) + (1 : Int32)))]) rfl ?_
      show At p e below s₁ m 28 #[vR ab, vI ch, vI 0, vI 1, .val (.int (ch.toInt8.toInt32)), .val (.int ((0 : Int32) + (1 : Int32)))] [] _
      show At p e below s₁ m 28 #[vR ab, vI ch, vI 0, vI 1, .val (.int (ch.toInt8.toInt32)), vI 1] [] _
      refine XS.goto X0.here hx rfl (pc0 := 28) (pc' := 7) rfl (hb hby d18_28) (by decide) (by decide) ?_
      show At p e below s₁ m 7 #[vR ab, vI ch, vI 0, vI 1, .val (.int (ch.toInt8.toInt32)), vI 1] [] _
      refine XS.iload X0.here hx rfl (hb hby d18_7) rfl ?_
      show At p e below s₁ m 9 #[vR ab, vI ch, vI 0, vI 1, .val (.int (ch.toInt8.toInt32)), vI 1] [(.int 1)] _
      refine XS.iloadN X0.here hx rfl (hb hby d18_9) rfl ?_
      show At p e below s₁ m 10 #[vR ab, vI ch, vI 0, vI 1, .val (.int (ch.toInt8.toInt32)), vI 1] [(.int 1), (.int 1)] _
      refine XS.icmpYes X0.here hx rfl (pc0 := 10) (pc' := 31) rfl (hb hby d18_10) rfl (flt (by decide : ¬ ((1 : Int32) < (1 : Int32)))).2.1 (by decide) (by decide) ?_
      show At p e below s₁ m 31 #[vR ab, vI ch, vI 0, vI 1, .val (.int (ch.toInt8.toInt32)), vI 1] [] _
      refine XS.iconst X0.here hx rfl (hb hby d18_31) ?_
      exact kt)
    obtain ⟨fs, hr, hrun, hended, hW, hsame⟩ := X0.leave (v := (some (.int (-1 : Int32)))) (fun h => by rw [Bd.returns] at h; cases h)
    refine ⟨_, _, pre5 _ ?_, hrun, hended, _, _, rfl, ?_, ⟨_, rfl⟩, hW, hsame.mono (by decide) (by decide)⟩
    · show At p e below s₁ m 32 #[vR ab, vI ch, vI 0, vI 1, .val (.int (ch.toInt8.toInt32)), vI 1] [(.int (-1 : Int32))] _
      exact retI X0 hx Bd.returns (hb hby d18_32) hr
    · show Q18_1 Z ab kb ch q1 h0 n0 _ s₁.heap _
      rw [e0]
      exact ⟨_, rfl, N0, rfl, iff_of_false (by decide) (own_no (fun t => d1 ((own_by R1 k1 hc).mpr t)) (own_nil))⟩
theorem ef_18_2 (m : MethodId) (ab : Addr) (ch : Int32) : entryFrame m #[(.ref ab), (.int ch), (.int 0), (.int 2)] 6 = (mkF m 0 #[vR ab, vI ch, vI 0, vI 2, vU, vU] []) := by first | (simp [entryFrame, mkF, argsToLocals, Value.category]; done) | rfl
def Q18_2 (Z : State) (ab : Addr) (kb : ClassId) (ch : Int32) (q1 : Int32) (q2 : Int32) (h0 : Heap) (n0 : Nat) (v : Option Value) (h : Heap) (L : List Loc) : Prop := ∃ r : Int32, v = some (.int r) ∧ Fr n0 L ∧ h = h0 ∧ (¬ (r < (0 : Int32)) ↔ ch ∈ [q1, q2])
set_option maxRecDepth 65536 in
set_option maxHeartbeats 40000000 in
theorem rm18_2 (l : Launch) (Z : State) (a0 : Array Value) (hw : ∀ d ∈ tables_1, d.before a0 Z = true) (ws : List Jvm.Cond) (ab : Addr) (kb : ClassId) (ch : Int32) (q1 : Int32) (q2 : Int32) (h0 : Heap) (n0 : Nat) (Z0 : n0 ≤ h0.size) (Vb : Arv Z h0 ab kb .byte (2 : Int32) [(.int (nar .byte (q1.toInt8.toInt32))), (.int (nar .byte (q2.toInt8.toInt32)))] (.int 0)) (R1 : own_R q1) (R2 : own_R q2) (k1 : ¬ ((255 : Int32) < q1)) (k2 : ¬ ((255 : Int32) < q2)) (hc : ch = 42 ∨ ch = 63) :
    MetFree l (⟨"java/lang/StringLatin1", "indexOfChar", "([BIII)I"⟩ : MethodName) (head1 (Jvm.Cond.code (⟨"java/lang/StringLatin1", "indexOfChar", "([BIII)I"⟩ : MethodName) jdk_43_method_23_code 6 (some .int) :: ws) ({ frames := 0, cells := 0, slots := 0, locals := 0 } : Room)) (fun a U => a = #[(.ref ab), (.int ch), (.int 0), (.int 2)] ∧ Z.Warmed39 U.vm ∧ U.heap = h0) (fun _ _ _ _ _ => True) (fun _ U o U' => ∃ v L, o = .returned v ∧ Q18_2 Z ab kb ch q1 q2 h0 n0 v U'.heap L ∧ FrameEnd U o U' L ({ frames := 0, cells := 0, slots := 0, locals := 0 } : Room).cells ({ frames := 0, cells := 0, slots := 0, locals := 0 } : Room).slots) := by
  refine MetFree.of_bodySF (plainFor_of_name pn_5) hisR ?_
  intro p e s m args below meth c s₁ Bd hml0 hP hK
  obtain ⟨rfl, hZ, hh⟩ := hP
  have hx := Bd.exec
  have hby := Bd.bytes
  have hml : c.maxLocals = 6 := hml0
  have hown : s.vm.findClass "java/lang/StringLatin1" = some m.cls := findClass_of_methodNamed Bd.named
  have hnm := (name_of_methodNamed Bd.named Bd.method).1
  have X0 : Stand p l e ({ frames := 0, cells := 0, slots := 0, locals := 0 } : Room) s m #[(.ref ab), (.int ch), (.int 0), (.int 2)] below meth c s₁ [] 0 0 := Stand.of_body Bd
  have e0 : s₁.heap = h0 := by rw [← hh, Bd.state]; rfl
  have N0 := Fr.nil n0
  have pre0 : ∀ t, At p e below s₁ m 0 #[vR ab, vI ch, vI 0, vI 2, vU, vU] [] t → Steps p.tables e below (s₁.setTop (entryFrame m #[(.ref ab), (.int ch), (.int 0), (.int 2)] 6)) t := fun t k => castTop (ef_18_2 m ab ch) k
  have pre1 := fun t (kt : At p e below s₁ m 16 #[vR ab, vI ch, vI 0, vI 2, .val (.int (ch.toInt8.toInt32)), vI 0] [(.int 0), (.ref ab)] t) => pre0 t (by
    show At p e below s₁ m 0 #[vR ab, vI ch, vI 0, vI 2, vU, vU] [] _
    refine XS.iloadN X0.here hx rfl (hb hby d18_0) rfl ?_
    show At p e below s₁ m 1 #[vR ab, vI ch, vI 0, vI 2, vU, vU] [(.int ch)] _
    refine XS.i2b X0.here hx rfl (hb hby d18_1) rfl ?_
    show At p e below s₁ m 2 #[vR ab, vI ch, vI 0, vI 2, vU, vU] [(.int (ch.toInt8.toInt32))] _
    refine XS.istore X0.here hx rfl (hb hby d18_2) rfl (l' := #[vR ab, vI ch, vI 0, vI 2, .val (.int (ch.toInt8.toInt32)), vU]) rfl ?_
    show At p e below s₁ m 4 #[vR ab, vI ch, vI 0, vI 2, .val (.int (ch.toInt8.toInt32)), vU] [] _
    refine XS.iloadN X0.here hx rfl (hb hby d18_4) rfl ?_
    show At p e below s₁ m 5 #[vR ab, vI ch, vI 0, vI 2, .val (.int (ch.toInt8.toInt32)), vU] [(.int 0)] _
    refine XS.istore X0.here hx rfl (hb hby d18_5) rfl (l' := #[vR ab, vI ch, vI 0, vI 2, .val (.int (ch.toInt8.toInt32)), vI 0]) rfl ?_
    show At p e below s₁ m 7 #[vR ab, vI ch, vI 0, vI 2, .val (.int (ch.toInt8.toInt32)), vI 0] [] _
    refine XS.iload X0.here hx rfl (hb hby d18_7) rfl ?_
    show At p e below s₁ m 9 #[vR ab, vI ch, vI 0, vI 2, .val (.int (ch.toInt8.toInt32)), vI 0] [(.int 0)] _
    refine XS.iloadN X0.here hx rfl (hb hby d18_9) rfl ?_
    show At p e below s₁ m 10 #[vR ab, vI ch, vI 0, vI 2, .val (.int (ch.toInt8.toInt32)), vI 0] [(.int 2), (.int 0)] _
    refine XS.icmpNo X0.here hx rfl (hb hby d18_10) rfl (tlt (by decide : (0 : Int32) < (2 : Int32))).2.1 ?_
    show At p e below s₁ m 13 #[vR ab, vI ch, vI 0, vI 2, .val (.int (ch.toInt8.toInt32)), vI 0] [] _
    refine XS.aloadN X0.here hx rfl (hb hby d18_13) rfl rfl ?_
    show At p e below s₁ m 14 #[vR ab, vI ch, vI 0, vI 2, .val (.int (ch.toInt8.toInt32)), vI 0] [(.ref ab)] _
    refine XS.iload X0.here hx rfl (hb hby d18_14) rfl ?_
    exact kt)
  obtain ⟨cl2, Ar2, qk2, Sz2, Nn2, Hh2, Gg2⟩ := id Vb
  have hin2 : ¬ ((0 : Int32) < 0 ∨ cl2.slots.size ≤ ((0 : Int32)).toNatClampNeg) := inb_of Sz2 ⟨by decide, by decide⟩
  have hat2 : cl2.slots[((0 : Int32)).toNatClampNeg]? = some (.int (nar .byte (q1.toInt8.toInt32))) := Hh2.at hin2 rfl
  have pre3 := fun t (kt : At p e below s₁ m 19 #[vR ab, vI ch, vI 0, vI 2, .val (.int (ch.toInt8.toInt32)), vI 0] [(.int (ch.toInt8.toInt32)), (.int (nar .byte (q1.toInt8.toInt32)))] t) => pre1 t (by
    show At p e below s₁ m 16 #[vR ab, vI ch, vI 0, vI 2, .val (.int (ch.toInt8.toInt32)), vI 0] [(.int 0), (.ref ab)] _
    refine X0.baloadBytes hx (j := (0 : Int32)) (v := (.int (nar .byte (q1.toInt8.toInt32)))) (by rw [e0]; exact Ar2.1) (State.isArrayOf_alike hZ.alike Ar2.2.1) Ar2.2.2 hin2 hat2 (g := (mkF m 16 #[vR ab, vI ch, vI 0, vI 2, .val (.int (ch.toInt8.toInt32)), vI 0] [(.int 0), (.ref ab)])) rfl rfl (hb hby d18_16) _ ?_
    show At p e below s₁ m 17 #[vR ab, vI ch, vI 0, vI 2, .val (.int (ch.toInt8.toInt32)), vI 0] [(.int (nar .byte (q1.toInt8.toInt32)))] _
    refine XS.iload X0.here hx rfl (hb hby d18_17) rfl ?_
    exact kt)
  by_cases d1 : (nar .byte (q1.toInt8.toInt32)) = (ch.toInt8.toInt32)
  · have pre4 := fun t (kt : At p e below s₁ m 24 #[vR ab, vI ch, vI 0, vI 2, .val (.int (ch.toInt8.toInt32)), vI 0] [(.int 0)] t) => pre3 t (by
      show At p e below s₁ m 19 #[vR ab, vI ch, vI 0, vI 2, .val (.int (ch.toInt8.toInt32)), vI 0] [(.int (ch.toInt8.toInt32)), (.int (nar .byte (q1.toInt8.toInt32)))] _
      refine XS.icmpNo X0.here hx rfl (hb hby d18_19) rfl (teq (d1 : (nar .byte (q1.toInt8.toInt32)) = (ch.toInt8.toInt32))).2 ?_
      show At p e below s₁ m 22 #[vR ab, vI ch, vI 0, vI 2, .val (.int (ch.toInt8.toInt32)), vI 0] [] _
      refine XS.iload X0.here hx rfl (hb hby d18_22) rfl ?_
      exact kt)
    obtain ⟨fs, hr, hrun, hended, hW, hsame⟩ := X0.leave (v := (some (.int 0))) (fun h => by rw [Bd.returns] at h; cases h)
    refine ⟨_, _, pre4 _ ?_, hrun, hended, _, _, rfl, ?_, ⟨_, rfl⟩, hW, hsame.mono (by decide) (by decide)⟩
    · show At p e below s₁ m 24 #[vR ab, vI ch, vI 0, vI 2, .val (.int (ch.toInt8.toInt32)), vI 0] [(.int 0)] _
      exact retI X0 hx Bd.returns (hb hby d18_24) hr
    · show Q18_2 Z ab kb ch q1 q2 h0 n0 _ s₁.heap _
      rw [e0]
      exact ⟨_, rfl, N0, rfl, iff_of_true (by decide) (own_here ((own_by R1 k1 hc).mp d1))⟩
  · have pre5 := fun t (kt : At p e below s₁ m 16 #[vR ab, vI ch, vI 0, vI 2, .val (.int (ch.toInt8.toInt32)), vI 1] [(.int 1), (.ref ab)] t) => pre3 t (by
      show At p e below s₁ m 19 #[vR ab, vI ch, vI 0, vI 2, .val (.int (ch.toInt8.toInt32)), vI 0] [(.int (ch.toInt8.toInt32)), (.int (nar .byte (q1.toInt8.toInt32)))] _
      refine XS.icmpYes X0.here hx rfl (pc0 := 19) (pc' := 25) rfl (hb hby d18_19) rfl (feq (d1 : ¬ ((nar .byte (q1.toInt8.toInt32)) = (ch.toInt8.toInt32)))).2 (by decide) (by decide) ?_
      show At p e below s₁ m 25 #[vR ab, vI ch, vI 0, vI 2, .val (.int (ch.toInt8.toInt32)), vI 0] [] _
      refine XS.iinc X0.here hx rfl (hb hby d18_25) rfl (l' := #[vR ab, vI ch, vI 0, vI 2, .val (.int (ch.toInt8.toInt32)), .val (.int ((0 : Int32) + (1 : Int32)))]) rfl ?_
      show At p e below s₁ m 28 #[vR ab, vI ch, vI 0, vI 2, .val (.int (ch.toInt8.toInt32)), .val (.int ((0 : Int32) + (1 : Int32)))] [] _
      show At p e below s₁ m 28 #[vR ab, vI ch, vI 0, vI 2, .val (.int (ch.toInt8.toInt32)), vI 1] [] _
      refine XS.goto X0.here hx rfl (pc0 := 28) (pc' := 7) rfl (hb hby d18_28) (by decide) (by decide) ?_
      show At p e below s₁ m 7 #[vR ab, vI ch, vI 0, vI 2, .val (.int (ch.toInt8.toInt32)), vI 1] [] _
      refine XS.iload X0.here hx rfl (hb hby d18_7) rfl ?_
      show At p e below s₁ m 9 #[vR ab, vI ch, vI 0, vI 2, .val (.int (ch.toInt8.toInt32)), vI 1] [(.int 1)] _
      refine XS.iloadN X0.here hx rfl (hb hby d18_9) rfl ?_
      show At p e below s₁ m 10 #[vR ab, vI ch, vI 0, vI 2, .val (.int (ch.toInt8.toInt32)), vI 1] [(.int 2), (.int 1)] _
      refine XS.icmpNo X0.here hx rfl (hb hby d18_10) rfl (tlt (by decide : (1 : Int32) < (2 : Int32))).2.1 ?_
      show At p e below s₁ m 13 #[vR ab, vI ch, vI 0, vI 2, .val (.int (ch.toInt8.toInt32)), vI 1] [] _
      refine XS.aloadN X0.here hx rfl (hb hby d18_13) rfl rfl ?_
      show At p e below s₁ m 14 #[vR ab, vI ch, vI 0, vI 2, .val (.int (ch.toInt8.toInt32)), vI 1] [(.ref ab)] _
      refine XS.iload X0.here hx rfl (hb hby d18_14) rfl ?_
      exact kt)
    obtain ⟨cl6, Ar6, qk6, Sz6, Nn6, Hh6, Gg6⟩ := id Vb
    have hin6 : ¬ ((1 : Int32) < 0 ∨ cl6.slots.size ≤ ((1 : Int32)).toNatClampNeg) := inb_of Sz6 ⟨by decide, by decide⟩
    have hat6 : cl6.slots[((1 : Int32)).toNatClampNeg]? = some (.int (nar .byte (q2.toInt8.toInt32))) := Hh6.at hin6 rfl
    have pre7 := fun t (kt : At p e below s₁ m 19 #[vR ab, vI ch, vI 0, vI 2, .val (.int (ch.toInt8.toInt32)), vI 1] [(.int (ch.toInt8.toInt32)), (.int (nar .byte (q2.toInt8.toInt32)))] t) => pre5 t (by
      show At p e below s₁ m 16 #[vR ab, vI ch, vI 0, vI 2, .val (.int (ch.toInt8.toInt32)), vI 1] [(.int 1), (.ref ab)] _
      refine X0.baloadBytes hx (j := (1 : Int32)) (v := (.int (nar .byte (q2.toInt8.toInt32)))) (by rw [e0]; exact Ar6.1) (State.isArrayOf_alike hZ.alike Ar6.2.1) Ar6.2.2 hin6 hat6 (g := (mkF m 16 #[vR ab, vI ch, vI 0, vI 2, .val (.int (ch.toInt8.toInt32)), vI 1] [(.int 1), (.ref ab)])) rfl rfl (hb hby d18_16) _ ?_
      show At p e below s₁ m 17 #[vR ab, vI ch, vI 0, vI 2, .val (.int (ch.toInt8.toInt32)), vI 1] [(.int (nar .byte (q2.toInt8.toInt32)))] _
      refine XS.iload X0.here hx rfl (hb hby d18_17) rfl ?_
      exact kt)
    by_cases d2 : (nar .byte (q2.toInt8.toInt32)) = (ch.toInt8.toInt32)
    · have pre8 := fun t (kt : At p e below s₁ m 24 #[vR ab, vI ch, vI 0, vI 2, .val (.int (ch.toInt8.toInt32)), vI 1] [(.int 1)] t) => pre7 t (by
        show At p e below s₁ m 19 #[vR ab, vI ch, vI 0, vI 2, .val (.int (ch.toInt8.toInt32)), vI 1] [(.int (ch.toInt8.toInt32)), (.int (nar .byte (q2.toInt8.toInt32)))] _
        refine XS.icmpNo X0.here hx rfl (hb hby d18_19) rfl (teq (d2 : (nar .byte (q2.toInt8.toInt32)) = (ch.toInt8.toInt32))).2 ?_
        show At p e below s₁ m 22 #[vR ab, vI ch, vI 0, vI 2, .val (.int (ch.toInt8.toInt32)), vI 1] [] _
        refine XS.iload X0.here hx rfl (hb hby d18_22) rfl ?_
        exact kt)
      obtain ⟨fs, hr, hrun, hended, hW, hsame⟩ := X0.leave (v := (some (.int 1))) (fun h => by rw [Bd.returns] at h; cases h)
      refine ⟨_, _, pre8 _ ?_, hrun, hended, _, _, rfl, ?_, ⟨_, rfl⟩, hW, hsame.mono (by decide) (by decide)⟩
      · show At p e below s₁ m 24 #[vR ab, vI ch, vI 0, vI 2, .val (.int (ch.toInt8.toInt32)), vI 1] [(.int 1)] _
        exact retI X0 hx Bd.returns (hb hby d18_24) hr
      · show Q18_2 Z ab kb ch q1 q2 h0 n0 _ s₁.heap _
        rw [e0]
        exact ⟨_, rfl, N0, rfl, iff_of_true (by decide) (own_there (own_here ((own_by R2 k2 hc).mp d2)))⟩
    · have pre9 := fun t (kt : At p e below s₁ m 32 #[vR ab, vI ch, vI 0, vI 2, .val (.int (ch.toInt8.toInt32)), vI 2] [(.int (-1 : Int32))] t) => pre7 t (by
        show At p e below s₁ m 19 #[vR ab, vI ch, vI 0, vI 2, .val (.int (ch.toInt8.toInt32)), vI 1] [(.int (ch.toInt8.toInt32)), (.int (nar .byte (q2.toInt8.toInt32)))] _
        refine XS.icmpYes X0.here hx rfl (pc0 := 19) (pc' := 25) rfl (hb hby d18_19) rfl (feq (d2 : ¬ ((nar .byte (q2.toInt8.toInt32)) = (ch.toInt8.toInt32)))).2 (by decide) (by decide) ?_
        show At p e below s₁ m 25 #[vR ab, vI ch, vI 0, vI 2, .val (.int (ch.toInt8.toInt32)), vI 1] [] _
        refine XS.iinc X0.here hx rfl (hb hby d18_25) rfl (l' := #[vR ab, vI ch, vI 0, vI 2, .val (.int (ch.toInt8.toInt32)), .val (.int ((1 : Int32) + (1 : Int32)))]) rfl ?_
        show At p e below s₁ m 28 #[vR ab, vI ch, vI 0, vI 2, .val (.int (ch.toInt8.toInt32)), .val (.int ((1 : Int32) + (1 : Int32)))] [] _
        show At p e below s₁ m 28 #[vR ab, vI ch, vI 0, vI 2, .val (.int (ch.toInt8.toInt32)), vI 2] [] _
        refine XS.goto X0.here hx rfl (pc0 := 28) (pc' := 7) rfl (hb hby d18_28) (by decide) (by decide) ?_
        show At p e below s₁ m 7 #[vR ab, vI ch, vI 0, vI 2, .val (.int (ch.toInt8.toInt32)), vI 2] [] _
        refine XS.iload X0.here hx rfl (hb hby d18_7) rfl ?_
        show At p e below s₁ m 9 #[vR ab, vI ch, vI 0, vI 2, .val (.int (ch.toInt8.toInt32)), vI 2] [(.int 2)] _
        refine XS.iloadN X0.here hx rfl (hb hby d18_9) rfl ?_
        show At p e below s₁ m 10 #[vR ab, vI ch, vI 0, vI 2, .val (.int (ch.toInt8.toInt32)), vI 2] [(.int 2), (.int 2)] _
        refine XS.icmpYes X0.here hx rfl (pc0 := 10) (pc' := 31) rfl (hb hby d18_10) rfl (flt (by decide : ¬ ((2 : Int32) < (2 : Int32)))).2.1 (by decide) (by decide) ?_
        show At p e below s₁ m 31 #[vR ab, vI ch, vI 0, vI 2, .val (.int (ch.toInt8.toInt32)), vI 2] [] _
        refine XS.iconst X0.here hx rfl (hb hby d18_31) ?_
        exact kt)
      obtain ⟨fs, hr, hrun, hended, hW, hsame⟩ := X0.leave (v := (some (.int (-1 : Int32)))) (fun h => by rw [Bd.returns] at h; cases h)
      refine ⟨_, _, pre9 _ ?_, hrun, hended, _, _, rfl, ?_, ⟨_, rfl⟩, hW, hsame.mono (by decide) (by decide)⟩
      · show At p e below s₁ m 32 #[vR ab, vI ch, vI 0, vI 2, .val (.int (ch.toInt8.toInt32)), vI 2] [(.int (-1 : Int32))] _
        exact retI X0 hx Bd.returns (hb hby d18_32) hr
      · show Q18_2 Z ab kb ch q1 q2 h0 n0 _ s₁.heap _
        rw [e0]
        exact ⟨_, rfl, N0, rfl, iff_of_false (by decide) (own_no (fun t => d1 ((own_by R1 k1 hc).mpr t)) (own_no (fun t => d2 ((own_by R2 k2 hc).mpr t)) (own_nil)))⟩
theorem ef_18_3 (m : MethodId) (ab : Addr) (ch : Int32) : entryFrame m #[(.ref ab), (.int ch), (.int 0), (.int 3)] 6 = (mkF m 0 #[vR ab, vI ch, vI 0, vI 3, vU, vU] []) := by first | (simp [entryFrame, mkF, argsToLocals, Value.category]; done) | rfl
def Q18_3 (Z : State) (ab : Addr) (kb : ClassId) (ch : Int32) (q1 : Int32) (q2 : Int32) (q3 : Int32) (h0 : Heap) (n0 : Nat) (v : Option Value) (h : Heap) (L : List Loc) : Prop := ∃ r : Int32, v = some (.int r) ∧ Fr n0 L ∧ h = h0 ∧ (¬ (r < (0 : Int32)) ↔ ch ∈ [q1, q2, q3])
set_option maxRecDepth 65536 in
set_option maxHeartbeats 40000000 in
theorem rm18_3 (l : Launch) (Z : State) (a0 : Array Value) (hw : ∀ d ∈ tables_1, d.before a0 Z = true) (ws : List Jvm.Cond) (ab : Addr) (kb : ClassId) (ch : Int32) (q1 : Int32) (q2 : Int32) (q3 : Int32) (h0 : Heap) (n0 : Nat) (Z0 : n0 ≤ h0.size) (Vb : Arv Z h0 ab kb .byte (3 : Int32) [(.int (nar .byte (q1.toInt8.toInt32))), (.int (nar .byte (q2.toInt8.toInt32))), (.int (nar .byte (q3.toInt8.toInt32)))] (.int 0)) (R1 : own_R q1) (R2 : own_R q2) (R3 : own_R q3) (k1 : ¬ ((255 : Int32) < q1)) (k2 : ¬ ((255 : Int32) < q2)) (k3 : ¬ ((255 : Int32) < q3)) (hc : ch = 42 ∨ ch = 63) :
    MetFree l (⟨"java/lang/StringLatin1", "indexOfChar", "([BIII)I"⟩ : MethodName) (head1 (Jvm.Cond.code (⟨"java/lang/StringLatin1", "indexOfChar", "([BIII)I"⟩ : MethodName) jdk_43_method_23_code 6 (some .int) :: ws) ({ frames := 0, cells := 0, slots := 0, locals := 0 } : Room)) (fun a U => a = #[(.ref ab), (.int ch), (.int 0), (.int 3)] ∧ Z.Warmed39 U.vm ∧ U.heap = h0) (fun _ _ _ _ _ => True) (fun _ U o U' => ∃ v L, o = .returned v ∧ Q18_3 Z ab kb ch q1 q2 q3 h0 n0 v U'.heap L ∧ FrameEnd U o U' L ({ frames := 0, cells := 0, slots := 0, locals := 0 } : Room).cells ({ frames := 0, cells := 0, slots := 0, locals := 0 } : Room).slots) := by
  refine MetFree.of_bodySF (plainFor_of_name pn_5) hisR ?_
  intro p e s m args below meth c s₁ Bd hml0 hP hK
  obtain ⟨rfl, hZ, hh⟩ := hP
  have hx := Bd.exec
  have hby := Bd.bytes
  have hml : c.maxLocals = 6 := hml0
  have hown : s.vm.findClass "java/lang/StringLatin1" = some m.cls := findClass_of_methodNamed Bd.named
  have hnm := (name_of_methodNamed Bd.named Bd.method).1
  have X0 : Stand p l e ({ frames := 0, cells := 0, slots := 0, locals := 0 } : Room) s m #[(.ref ab), (.int ch), (.int 0), (.int 3)] below meth c s₁ [] 0 0 := Stand.of_body Bd
  have e0 : s₁.heap = h0 := by rw [← hh, Bd.state]; rfl
  have N0 := Fr.nil n0
  have pre0 : ∀ t, At p e below s₁ m 0 #[vR ab, vI ch, vI 0, vI 3, vU, vU] [] t → Steps p.tables e below (s₁.setTop (entryFrame m #[(.ref ab), (.int ch), (.int 0), (.int 3)] 6)) t := fun t k => castTop (ef_18_3 m ab ch) k
  have pre1 := fun t (kt : At p e below s₁ m 16 #[vR ab, vI ch, vI 0, vI 3, .val (.int (ch.toInt8.toInt32)), vI 0] [(.int 0), (.ref ab)] t) => pre0 t (by
    show At p e below s₁ m 0 #[vR ab, vI ch, vI 0, vI 3, vU, vU] [] _
    refine XS.iloadN X0.here hx rfl (hb hby d18_0) rfl ?_
    show At p e below s₁ m 1 #[vR ab, vI ch, vI 0, vI 3, vU, vU] [(.int ch)] _
    refine XS.i2b X0.here hx rfl (hb hby d18_1) rfl ?_
    show At p e below s₁ m 2 #[vR ab, vI ch, vI 0, vI 3, vU, vU] [(.int (ch.toInt8.toInt32))] _
    refine XS.istore X0.here hx rfl (hb hby d18_2) rfl (l' := #[vR ab, vI ch, vI 0, vI 3, .val (.int (ch.toInt8.toInt32)), vU]) rfl ?_
    show At p e below s₁ m 4 #[vR ab, vI ch, vI 0, vI 3, .val (.int (ch.toInt8.toInt32)), vU] [] _
    refine XS.iloadN X0.here hx rfl (hb hby d18_4) rfl ?_
    show At p e below s₁ m 5 #[vR ab, vI ch, vI 0, vI 3, .val (.int (ch.toInt8.toInt32)), vU] [(.int 0)] _
    refine XS.istore X0.here hx rfl (hb hby d18_5) rfl (l' := #[vR ab, vI ch, vI 0, vI 3, .val (.int (ch.toInt8.toInt32)), vI 0]) rfl ?_
    show At p e below s₁ m 7 #[vR ab, vI ch, vI 0, vI 3, .val (.int (ch.toInt8.toInt32)), vI 0] [] _
    refine XS.iload X0.here hx rfl (hb hby d18_7) rfl ?_
    show At p e below s₁ m 9 #[vR ab, vI ch, vI 0, vI 3, .val (.int (ch.toInt8.toInt32)), vI 0] [(.int 0)] _
    refine XS.iloadN X0.here hx rfl (hb hby d18_9) rfl ?_
    show At p e below s₁ m 10 #[vR ab, vI ch, vI 0, vI 3, .val (.int (ch.toInt8.toInt32)), vI 0] [(.int 3), (.int 0)] _
    refine XS.icmpNo X0.here hx rfl (hb hby d18_10) rfl (tlt (by decide : (0 : Int32) < (3 : Int32))).2.1 ?_
    show At p e below s₁ m 13 #[vR ab, vI ch, vI 0, vI 3, .val (.int (ch.toInt8.toInt32)), vI 0] [] _
    refine XS.aloadN X0.here hx rfl (hb hby d18_13) rfl rfl ?_
    show At p e below s₁ m 14 #[vR ab, vI ch, vI 0, vI 3, .val (.int (ch.toInt8.toInt32)), vI 0] [(.ref ab)] _
    refine XS.iload X0.here hx rfl (hb hby d18_14) rfl ?_
    exact kt)
  obtain ⟨cl2, Ar2, qk2, Sz2, Nn2, Hh2, Gg2⟩ := id Vb
  have hin2 : ¬ ((0 : Int32) < 0 ∨ cl2.slots.size ≤ ((0 : Int32)).toNatClampNeg) := inb_of Sz2 ⟨by decide, by decide⟩
  have hat2 : cl2.slots[((0 : Int32)).toNatClampNeg]? = some (.int (nar .byte (q1.toInt8.toInt32))) := Hh2.at hin2 rfl
  have pre3 := fun t (kt : At p e below s₁ m 19 #[vR ab, vI ch, vI 0, vI 3, .val (.int (ch.toInt8.toInt32)), vI 0] [(.int (ch.toInt8.toInt32)), (.int (nar .byte (q1.toInt8.toInt32)))] t) => pre1 t (by
    show At p e below s₁ m 16 #[vR ab, vI ch, vI 0, vI 3, .val (.int (ch.toInt8.toInt32)), vI 0] [(.int 0), (.ref ab)] _
    refine X0.baloadBytes hx (j := (0 : Int32)) (v := (.int (nar .byte (q1.toInt8.toInt32)))) (by rw [e0]; exact Ar2.1) (State.isArrayOf_alike hZ.alike Ar2.2.1) Ar2.2.2 hin2 hat2 (g := (mkF m 16 #[vR ab, vI ch, vI 0, vI 3, .val (.int (ch.toInt8.toInt32)), vI 0] [(.int 0), (.ref ab)])) rfl rfl (hb hby d18_16) _ ?_
    show At p e below s₁ m 17 #[vR ab, vI ch, vI 0, vI 3, .val (.int (ch.toInt8.toInt32)), vI 0] [(.int (nar .byte (q1.toInt8.toInt32)))] _
    refine XS.iload X0.here hx rfl (hb hby d18_17) rfl ?_
    exact kt)
  by_cases d1 : (nar .byte (q1.toInt8.toInt32)) = (ch.toInt8.toInt32)
  · have pre4 := fun t (kt : At p e below s₁ m 24 #[vR ab, vI ch, vI 0, vI 3, .val (.int (ch.toInt8.toInt32)), vI 0] [(.int 0)] t) => pre3 t (by
      show At p e below s₁ m 19 #[vR ab, vI ch, vI 0, vI 3, .val (.int (ch.toInt8.toInt32)), vI 0] [(.int (ch.toInt8.toInt32)), (.int (nar .byte (q1.toInt8.toInt32)))] _
      refine XS.icmpNo X0.here hx rfl (hb hby d18_19) rfl (teq (d1 : (nar .byte (q1.toInt8.toInt32)) = (ch.toInt8.toInt32))).2 ?_
      show At p e below s₁ m 22 #[vR ab, vI ch, vI 0, vI 3, .val (.int (ch.toInt8.toInt32)), vI 0] [] _
      refine XS.iload X0.here hx rfl (hb hby d18_22) rfl ?_
      exact kt)
    obtain ⟨fs, hr, hrun, hended, hW, hsame⟩ := X0.leave (v := (some (.int 0))) (fun h => by rw [Bd.returns] at h; cases h)
    refine ⟨_, _, pre4 _ ?_, hrun, hended, _, _, rfl, ?_, ⟨_, rfl⟩, hW, hsame.mono (by decide) (by decide)⟩
    · show At p e below s₁ m 24 #[vR ab, vI ch, vI 0, vI 3, .val (.int (ch.toInt8.toInt32)), vI 0] [(.int 0)] _
      exact retI X0 hx Bd.returns (hb hby d18_24) hr
    · show Q18_3 Z ab kb ch q1 q2 q3 h0 n0 _ s₁.heap _
      rw [e0]
      exact ⟨_, rfl, N0, rfl, iff_of_true (by decide) (own_here ((own_by R1 k1 hc).mp d1))⟩
  · have pre5 := fun t (kt : At p e below s₁ m 16 #[vR ab, vI ch, vI 0, vI 3, .val (.int (ch.toInt8.toInt32)), vI 1] [(.int 1), (.ref ab)] t) => pre3 t (by
      show At p e below s₁ m 19 #[vR ab, vI ch, vI 0, vI 3, .val (.int (ch.toInt8.toInt32)), vI 0] [(.int (ch.toInt8.toInt32)), (.int (nar .byte (q1.toInt8.toInt32)))] _
      refine XS.icmpYes X0.here hx rfl (pc0 := 19) (pc' := 25) rfl (hb hby d18_19) rfl (feq (d1 : ¬ ((nar .byte (q1.toInt8.toInt32)) = (ch.toInt8.toInt32)))).2 (by decide) (by decide) ?_
      show At p e below s₁ m 25 #[vR ab, vI ch, vI 0, vI 3, .val (.int (ch.toInt8.toInt32)), vI 0] [] _
      refine XS.iinc X0.here hx rfl (hb hby d18_25) rfl (l' := #[vR ab, vI ch, vI 0, vI 3, .val (.int (ch.toInt8.toInt32)), .val (.int ((0 : Int32) + (1 : Int32)))]) rfl ?_
      show At p e below s₁ m 28 #[vR ab, vI ch, vI 0, vI 3, .val (.int (ch.toInt8.toInt32)), .val (.int ((0 : Int32) + (1 : Int32)))] [] _
      show At p e below s₁ m 28 #[vR ab, vI ch, vI 0, vI 3, .val (.int (ch.toInt8.toInt32)), vI 1] [] _
      refine XS.goto X0.here hx rfl (pc0 := 28) (pc' := 7) rfl (hb hby d18_28) (by decide) (by decide) ?_
      show At p e below s₁ m 7 #[vR ab, vI ch, vI 0, vI 3, .val (.int (ch.toInt8.toInt32)), vI 1] [] _
      refine XS.iload X0.here hx rfl (hb hby d18_7) rfl ?_
      show At p e below s₁ m 9 #[vR ab, vI ch, vI 0, vI 3, .val (.int (ch.toInt8.toInt32)), vI 1] [(.int 1)] _
      refine XS.iloadN X0.here hx rfl (hb hby d18_9) rfl ?_
      show At p e below s₁ m 10 #[vR ab, vI ch, vI 0, vI 3, .val (.int (ch.toInt8.toInt32)), vI 1] [(.int 3), (.int 1)] _
      refine XS.icmpNo X0.here hx rfl (hb hby d18_10) rfl (tlt (by decide : (1 : Int32) < (3 : Int32))).2.1 ?_
      show At p e below s₁ m 13 #[vR ab, vI ch, vI 0, vI 3, .val (.int (ch.toInt8.toInt32)), vI 1] [] _
      refine XS.aloadN X0.here hx rfl (hb hby d18_13) rfl rfl ?_
      show At p e below s₁ m 14 #[vR ab, vI ch, vI 0, vI 3, .val (.int (ch.toInt8.toInt32)), vI 1] [(.ref ab)] _
      refine XS.iload X0.here hx rfl (hb hby d18_14) rfl ?_
      exact kt)
    obtain ⟨cl6, Ar6, qk6, Sz6, Nn6, Hh6, Gg6⟩ := id Vb
    have hin6 : ¬ ((1 : Int32) < 0 ∨ cl6.slots.size ≤ ((1 : Int32)).toNatClampNeg) := inb_of Sz6 ⟨by decide, by decide⟩
    have hat6 : cl6.slots[((1 : Int32)).toNatClampNeg]? = some (.int (nar .byte (q2.toInt8.toInt32))) := Hh6.at hin6 rfl
    have pre7 := fun t (kt : At p e below s₁ m 19 #[vR ab, vI ch, vI 0, vI 3, .val (.int (ch.toInt8.toInt32)), vI 1] [(.int (ch.toInt8.toInt32)), (.int (nar .byte (q2.toInt8.toInt32)))] t) => pre5 t (by
      show At p e below s₁ m 16 #[vR ab, vI ch, vI 0, vI 3, .val (.int (ch.toInt8.toInt32)), vI 1] [(.int 1), (.ref ab)] _
      refine X0.baloadBytes hx (j := (1 : Int32)) (v := (.int (nar .byte (q2.toInt8.toInt32)))) (by rw [e0]; exact Ar6.1) (State.isArrayOf_alike hZ.alike Ar6.2.1) Ar6.2.2 hin6 hat6 (g := (mkF m 16 #[vR ab, vI ch, vI 0, vI 3, .val (.int (ch.toInt8.toInt32)), vI 1] [(.int 1), (.ref ab)])) rfl rfl (hb hby d18_16) _ ?_
      show At p e below s₁ m 17 #[vR ab, vI ch, vI 0, vI 3, .val (.int (ch.toInt8.toInt32)), vI 1] [(.int (nar .byte (q2.toInt8.toInt32)))] _
      refine XS.iload X0.here hx rfl (hb hby d18_17) rfl ?_
      exact kt)
    by_cases d2 : (nar .byte (q2.toInt8.toInt32)) = (ch.toInt8.toInt32)
    · have pre8 := fun t (kt : At p e below s₁ m 24 #[vR ab, vI ch, vI 0, vI 3, .val (.int (ch.toInt8.toInt32)), vI 1] [(.int 1)] t) => pre7 t (by
        show At p e below s₁ m 19 #[vR ab, vI ch, vI 0, vI 3, .val (.int (ch.toInt8.toInt32)), vI 1] [(.int (ch.toInt8.toInt32)), (.int (nar .byte (q2.toInt8.toInt32)))] _
        refine XS.icmpNo X0.here hx rfl (hb hby d18_19) rfl (teq (d2 : (nar .byte (q2.toInt8.toInt32)) = (ch.toInt8.toInt32))).2 ?_
        show At p e below s₁ m 22 #[vR ab, vI ch, vI 0, vI 3, .val (.int (ch.toInt8.toInt32)), vI 1] [] _
        refine XS.iload X0.here hx rfl (hb hby d18_22) rfl ?_
        exact kt)
      obtain ⟨fs, hr, hrun, hended, hW, hsame⟩ := X0.leave (v := (some (.int 1))) (fun h => by rw [Bd.returns] at h; cases h)
      refine ⟨_, _, pre8 _ ?_, hrun, hended, _, _, rfl, ?_, ⟨_, rfl⟩, hW, hsame.mono (by decide) (by decide)⟩
      · show At p e below s₁ m 24 #[vR ab, vI ch, vI 0, vI 3, .val (.int (ch.toInt8.toInt32)), vI 1] [(.int 1)] _
        exact retI X0 hx Bd.returns (hb hby d18_24) hr
      · show Q18_3 Z ab kb ch q1 q2 q3 h0 n0 _ s₁.heap _
        rw [e0]
        exact ⟨_, rfl, N0, rfl, iff_of_true (by decide) (own_there (own_here ((own_by R2 k2 hc).mp d2)))⟩
    · have pre9 := fun t (kt : At p e below s₁ m 16 #[vR ab, vI ch, vI 0, vI 3, .val (.int (ch.toInt8.toInt32)), vI 2] [(.int 2), (.ref ab)] t) => pre7 t (by
        show At p e below s₁ m 19 #[vR ab, vI ch, vI 0, vI 3, .val (.int (ch.toInt8.toInt32)), vI 1] [(.int (ch.toInt8.toInt32)), (.int (nar .byte (q2.toInt8.toInt32)))] _
        refine XS.icmpYes X0.here hx rfl (pc0 := 19) (pc' := 25) rfl (hb hby d18_19) rfl (feq (d2 : ¬ ((nar .byte (q2.toInt8.toInt32)) = (ch.toInt8.toInt32)))).2 (by decide) (by decide) ?_
        show At p e below s₁ m 25 #[vR ab, vI ch, vI 0, vI 3, .val (.int (ch.toInt8.toInt32)), vI 1] [] _
        refine XS.iinc X0.here hx rfl (hb hby d18_25) rfl (l' := #[vR ab, vI ch, vI 0, vI 3, .val (.int (ch.toInt8.toInt32)), .val (.int ((1 : Int32) + (1 : Int32)))]) rfl ?_
        show At p e below s₁ m 28 #[vR ab, vI ch, vI 0, vI 3, .val (.int (ch.toInt8.toInt32)), .val (.int ((1 : Int32) + (1 : Int32)))] [] _
        show At p e below s₁ m 28 #[vR ab, vI ch, vI 0, vI 3, .val (.int (ch.toInt8.toInt32)), vI 2] [] _
        refine XS.goto X0.here hx rfl (pc0 := 28) (pc' := 7) rfl (hb hby d18_28) (by decide) (by decide) ?_
        show At p e below s₁ m 7 #[vR ab, vI ch, vI 0, vI 3, .val (.int (ch.toInt8.toInt32)), vI 2] [] _
        refine XS.iload X0.here hx rfl (hb hby d18_7) rfl ?_
        show At p e below s₁ m 9 #[vR ab, vI ch, vI 0, vI 3, .val (.int (ch.toInt8.toInt32)), vI 2] [(.int 2)] _
        refine XS.iloadN X0.here hx rfl (hb hby d18_9) rfl ?_
        show At p e below s₁ m 10 #[vR ab, vI ch, vI 0, vI 3, .val (.int (ch.toInt8.toInt32)), vI 2] [(.int 3), (.int 2)] _
        refine XS.icmpNo X0.here hx rfl (hb hby d18_10) rfl (tlt (by decide : (2 : Int32) < (3 : Int32))).2.1 ?_
        show At p e below s₁ m 13 #[vR ab, vI ch, vI 0, vI 3, .val (.int (ch.toInt8.toInt32)), vI 2] [] _
        refine XS.aloadN X0.here hx rfl (hb hby d18_13) rfl rfl ?_
        show At p e below s₁ m 14 #[vR ab, vI ch, vI 0, vI 3, .val (.int (ch.toInt8.toInt32)), vI 2] [(.ref ab)] _
        refine XS.iload X0.here hx rfl (hb hby d18_14) rfl ?_
        exact kt)
      obtain ⟨cl10, Ar10, qk10, Sz10, Nn10, Hh10, Gg10⟩ := id Vb
      have hin10 : ¬ ((2 : Int32) < 0 ∨ cl10.slots.size ≤ ((2 : Int32)).toNatClampNeg) := inb_of Sz10 ⟨by decide, by decide⟩
      have hat10 : cl10.slots[((2 : Int32)).toNatClampNeg]? = some (.int (nar .byte (q3.toInt8.toInt32))) := Hh10.at hin10 rfl
      have pre11 := fun t (kt : At p e below s₁ m 19 #[vR ab, vI ch, vI 0, vI 3, .val (.int (ch.toInt8.toInt32)), vI 2] [(.int (ch.toInt8.toInt32)), (.int (nar .byte (q3.toInt8.toInt32)))] t) => pre9 t (by
        show At p e below s₁ m 16 #[vR ab, vI ch, vI 0, vI 3, .val (.int (ch.toInt8.toInt32)), vI 2] [(.int 2), (.ref ab)] _
        refine X0.baloadBytes hx (j := (2 : Int32)) (v := (.int (nar .byte (q3.toInt8.toInt32)))) (by rw [e0]; exact Ar10.1) (State.isArrayOf_alike hZ.alike Ar10.2.1) Ar10.2.2 hin10 hat10 (g := (mkF m 16 #[vR ab, vI ch, vI 0, vI 3, .val (.int (ch.toInt8.toInt32)), vI 2] [(.int 2), (.ref ab)])) rfl rfl (hb hby d18_16) _ ?_
        show At p e below s₁ m 17 #[vR ab, vI ch, vI 0, vI 3, .val (.int (ch.toInt8.toInt32)), vI 2] [(.int (nar .byte (q3.toInt8.toInt32)))] _
        refine XS.iload X0.here hx rfl (hb hby d18_17) rfl ?_
        exact kt)
      by_cases d3 : (nar .byte (q3.toInt8.toInt32)) = (ch.toInt8.toInt32)
      · have pre12 := fun t (kt : At p e below s₁ m 24 #[vR ab, vI ch, vI 0, vI 3, .val (.int (ch.toInt8.toInt32)), vI 2] [(.int 2)] t) => pre11 t (by
          show At p e below s₁ m 19 #[vR ab, vI ch, vI 0, vI 3, .val (.int (ch.toInt8.toInt32)), vI 2] [(.int (ch.toInt8.toInt32)), (.int (nar .byte (q3.toInt8.toInt32)))] _
          refine XS.icmpNo X0.here hx rfl (hb hby d18_19) rfl (teq (d3 : (nar .byte (q3.toInt8.toInt32)) = (ch.toInt8.toInt32))).2 ?_
          show At p e below s₁ m 22 #[vR ab, vI ch, vI 0, vI 3, .val (.int (ch.toInt8.toInt32)), vI 2] [] _
          refine XS.iload X0.here hx rfl (hb hby d18_22) rfl ?_
          exact kt)
        obtain ⟨fs, hr, hrun, hended, hW, hsame⟩ := X0.leave (v := (some (.int 2))) (fun h => by rw [Bd.returns] at h; cases h)
        refine ⟨_, _, pre12 _ ?_, hrun, hended, _, _, rfl, ?_, ⟨_, rfl⟩, hW, hsame.mono (by decide) (by decide)⟩
        · show At p e below s₁ m 24 #[vR ab, vI ch, vI 0, vI 3, .val (.int (ch.toInt8.toInt32)), vI 2] [(.int 2)] _
          exact retI X0 hx Bd.returns (hb hby d18_24) hr
        · show Q18_3 Z ab kb ch q1 q2 q3 h0 n0 _ s₁.heap _
          rw [e0]
          exact ⟨_, rfl, N0, rfl, iff_of_true (by decide) (own_there (own_there (own_here ((own_by R3 k3 hc).mp d3))))⟩
      · have pre13 := fun t (kt : At p e below s₁ m 32 #[vR ab, vI ch, vI 0, vI 3, .val (.int (ch.toInt8.toInt32)), vI 3] [(.int (-1 : Int32))] t) => pre11 t (by
          show At p e below s₁ m 19 #[vR ab, vI ch, vI 0, vI 3, .val (.int (ch.toInt8.toInt32)), vI 2] [(.int (ch.toInt8.toInt32)), (.int (nar .byte (q3.toInt8.toInt32)))] _
          refine XS.icmpYes X0.here hx rfl (pc0 := 19) (pc' := 25) rfl (hb hby d18_19) rfl (feq (d3 : ¬ ((nar .byte (q3.toInt8.toInt32)) = (ch.toInt8.toInt32)))).2 (by decide) (by decide) ?_
          show At p e below s₁ m 25 #[vR ab, vI ch, vI 0, vI 3, .val (.int (ch.toInt8.toInt32)), vI 2] [] _
          refine XS.iinc X0.here hx rfl (hb hby d18_25) rfl (l' := #[vR ab, vI ch, vI 0, vI 3, .val (.int (ch.toInt8.toInt32)), .val (.int ((2 : Int32) + (1 : Int32)))]) rfl ?_
          show At p e below s₁ m 28 #[vR ab, vI ch, vI 0, vI 3, .val (.int (ch.toInt8.toInt32)), .val (.int ((2 : Int32) + (1 : Int32)))] [] _
          show At p e below s₁ m 28 #[vR ab, vI ch, vI 0, vI 3, .val (.int (ch.toInt8.toInt32)), vI 3] [] _
          refine XS.goto X0.here hx rfl (pc0 := 28) (pc' := 7) rfl (hb hby d18_28) (by decide) (by decide) ?_
          show At p e below s₁ m 7 #[vR ab, vI ch, vI 0, vI 3, .val (.int (ch.toInt8.toInt32)), vI 3] [] _
          refine XS.iload X0.here hx rfl (hb hby d18_7) rfl ?_
          show At p e below s₁ m 9 #[vR ab, vI ch, vI 0, vI 3, .val (.int (ch.toInt8.toInt32)), vI 3] [(.int 3)] _
          refine XS.iloadN X0.here hx rfl (hb hby d18_9) rfl ?_
          show At p e below s₁ m 10 #[vR ab, vI ch, vI 0, vI 3, .val (.int (ch.toInt8.toInt32)), vI 3] [(.int 3), (.int 3)] _
          refine XS.icmpYes X0.here hx rfl (pc0 := 10) (pc' := 31) rfl (hb hby d18_10) rfl (flt (by decide : ¬ ((3 : Int32) < (3 : Int32)))).2.1 (by decide) (by decide) ?_
          show At p e below s₁ m 31 #[vR ab, vI ch, vI 0, vI 3, .val (.int (ch.toInt8.toInt32)), vI 3] [] _
          refine XS.iconst X0.here hx rfl (hb hby d18_31) ?_
          exact kt)
        obtain ⟨fs, hr, hrun, hended, hW, hsame⟩ := X0.leave (v := (some (.int (-1 : Int32)))) (fun h => by rw [Bd.returns] at h; cases h)
        refine ⟨_, _, pre13 _ ?_, hrun, hended, _, _, rfl, ?_, ⟨_, rfl⟩, hW, hsame.mono (by decide) (by decide)⟩
        · show At p e below s₁ m 32 #[vR ab, vI ch, vI 0, vI 3, .val (.int (ch.toInt8.toInt32)), vI 3] [(.int (-1 : Int32))] _
          exact retI X0 hx Bd.returns (hb hby d18_32) hr
        · show Q18_3 Z ab kb ch q1 q2 q3 h0 n0 _ s₁.heap _
          rw [e0]
          exact ⟨_, rfl, N0, rfl, iff_of_false (by decide) (own_no (fun t => d1 ((own_by R1 k1 hc).mpr t)) (own_no (fun t => d2 ((own_by R2 k2 hc).mpr t)) (own_no (fun t => d3 ((own_by R3 k3 hc).mpr t)) (own_nil))))⟩
theorem ef_18_4 (m : MethodId) (ab : Addr) (ch : Int32) : entryFrame m #[(.ref ab), (.int ch), (.int 0), (.int 4)] 6 = (mkF m 0 #[vR ab, vI ch, vI 0, vI 4, vU, vU] []) := by first | (simp [entryFrame, mkF, argsToLocals, Value.category]; done) | rfl
def Q18_4 (Z : State) (ab : Addr) (kb : ClassId) (ch : Int32) (q1 : Int32) (q2 : Int32) (q3 : Int32) (q4 : Int32) (h0 : Heap) (n0 : Nat) (v : Option Value) (h : Heap) (L : List Loc) : Prop := ∃ r : Int32, v = some (.int r) ∧ Fr n0 L ∧ h = h0 ∧ (¬ (r < (0 : Int32)) ↔ ch ∈ [q1, q2, q3, q4])
set_option maxRecDepth 65536 in
set_option maxHeartbeats 40000000 in
theorem rm18_4 (l : Launch) (Z : State) (a0 : Array Value) (hw : ∀ d ∈ tables_1, d.before a0 Z = true) (ws : List Jvm.Cond) (ab : Addr) (kb : ClassId) (ch : Int32) (q1 : Int32) (q2 : Int32) (q3 : Int32) (q4 : Int32) (h0 : Heap) (n0 : Nat) (Z0 : n0 ≤ h0.size) (Vb : Arv Z h0 ab kb .byte (4 : Int32) [(.int (nar .byte (q1.toInt8.toInt32))), (.int (nar .byte (q2.toInt8.toInt32))), (.int (nar .byte (q3.toInt8.toInt32))), (.int (nar .byte (q4.toInt8.toInt32)))] (.int 0)) (R1 : own_R q1) (R2 : own_R q2) (R3 : own_R q3) (R4 : own_R q4) (k1 : ¬ ((255 : Int32) < q1)) (k2 : ¬ ((255 : Int32) < q2)) (k3 : ¬ ((255 : Int32) < q3)) (k4 : ¬ ((255 : Int32) < q4)) (hc : ch = 42 ∨ ch = 63) :
    MetFree l (⟨"java/lang/StringLatin1", "indexOfChar", "([BIII)I"⟩ : MethodName) (head1 (Jvm.Cond.code (⟨"java/lang/StringLatin1", "indexOfChar", "([BIII)I"⟩ : MethodName) jdk_43_method_23_code 6 (some .int) :: ws) ({ frames := 0, cells := 0, slots := 0, locals := 0 } : Room)) (fun a U => a = #[(.ref ab), (.int ch), (.int 0), (.int 4)] ∧ Z.Warmed39 U.vm ∧ U.heap = h0) (fun _ _ _ _ _ => True) (fun _ U o U' => ∃ v L, o = .returned v ∧ Q18_4 Z ab kb ch q1 q2 q3 q4 h0 n0 v U'.heap L ∧ FrameEnd U o U' L ({ frames := 0, cells := 0, slots := 0, locals := 0 } : Room).cells ({ frames := 0, cells := 0, slots := 0, locals := 0 } : Room).slots) := by
  refine MetFree.of_bodySF (plainFor_of_name pn_5) hisR ?_
  intro p e s m args below meth c s₁ Bd hml0 hP hK
  obtain ⟨rfl, hZ, hh⟩ := hP
  have hx := Bd.exec
  have hby := Bd.bytes
  have hml : c.maxLocals = 6 := hml0
  have hown : s.vm.findClass "java/lang/StringLatin1" = some m.cls := findClass_of_methodNamed Bd.named
  have hnm := (name_of_methodNamed Bd.named Bd.method).1
  have X0 : Stand p l e ({ frames := 0, cells := 0, slots := 0, locals := 0 } : Room) s m #[(.ref ab), (.int ch), (.int 0), (.int 4)] below meth c s₁ [] 0 0 := Stand.of_body Bd
  have e0 : s₁.heap = h0 := by rw [← hh, Bd.state]; rfl
  have N0 := Fr.nil n0
  have pre0 : ∀ t, At p e below s₁ m 0 #[vR ab, vI ch, vI 0, vI 4, vU, vU] [] t → Steps p.tables e below (s₁.setTop (entryFrame m #[(.ref ab), (.int ch), (.int 0), (.int 4)] 6)) t := fun t k => castTop (ef_18_4 m ab ch) k
  have pre1 := fun t (kt : At p e below s₁ m 16 #[vR ab, vI ch, vI 0, vI 4, .val (.int (ch.toInt8.toInt32)), vI 0] [(.int 0), (.ref ab)] t) => pre0 t (by
    show At p e below s₁ m 0 #[vR ab, vI ch, vI 0, vI 4, vU, vU] [] _
    refine XS.iloadN X0.here hx rfl (hb hby d18_0) rfl ?_
    show At p e below s₁ m 1 #[vR ab, vI ch, vI 0, vI 4, vU, vU] [(.int ch)] _
    refine XS.i2b X0.here hx rfl (hb hby d18_1) rfl ?_
    show At p e below s₁ m 2 #[vR ab, vI ch, vI 0, vI 4, vU, vU] [(.int (ch.toInt8.toInt32))] _
    refine XS.istore X0.here hx rfl (hb hby d18_2) rfl (l' := #[vR ab, vI ch, vI 0, vI 4, .val (.int (ch.toInt8.toInt32)), vU]) rfl ?_
    show At p e below s₁ m 4 #[vR ab, vI ch, vI 0, vI 4, .val (.int (ch.toInt8.toInt32)), vU] [] _
    refine XS.iloadN X0.here hx rfl (hb hby d18_4) rfl ?_
    show At p e below s₁ m 5 #[vR ab, vI ch, vI 0, vI 4, .val (.int (ch.toInt8.toInt32)), vU] [(.int 0)] _
    refine XS.istore X0.here hx rfl (hb hby d18_5) rfl (l' := #[vR ab, vI ch, vI 0, vI 4, .val (.int (ch.toInt8.toInt32)), vI 0]) rfl ?_
    show At p e below s₁ m 7 #[vR ab, vI ch, vI 0, vI 4, .val (.int (ch.toInt8.toInt32)), vI 0] [] _
    refine XS.iload X0.here hx rfl (hb hby d18_7) rfl ?_
    show At p e below s₁ m 9 #[vR ab, vI ch, vI 0, vI 4, .val (.int (ch.toInt8.toInt32)), vI 0] [(.int 0)] _
    refine XS.iloadN X0.here hx rfl (hb hby d18_9) rfl ?_
    show At p e below s₁ m 10 #[vR ab, vI ch, vI 0, vI 4, .val (.int (ch.toInt8.toInt32)), vI 0] [(.int 4), (.int 0)] _
    refine XS.icmpNo X0.here hx rfl (hb hby d18_10) rfl (tlt (by decide : (0 : Int32) < (4 : Int32))).2.1 ?_
    show At p e below s₁ m 13 #[vR ab, vI ch, vI 0, vI 4, .val (.int (ch.toInt8.toInt32)), vI 0] [] _
    refine XS.aloadN X0.here hx rfl (hb hby d18_13) rfl rfl ?_
    show At p e below s₁ m 14 #[vR ab, vI ch, vI 0, vI 4, .val (.int (ch.toInt8.toInt32)), vI 0] [(.ref ab)] _
    refine XS.iload X0.here hx rfl (hb hby d18_14) rfl ?_
    exact kt)
  obtain ⟨cl2, Ar2, qk2, Sz2, Nn2, Hh2, Gg2⟩ := id Vb
  have hin2 : ¬ ((0 : Int32) < 0 ∨ cl2.slots.size ≤ ((0 : Int32)).toNatClampNeg) := inb_of Sz2 ⟨by decide, by decide⟩
  have hat2 : cl2.slots[((0 : Int32)).toNatClampNeg]? = some (.int (nar .byte (q1.toInt8.toInt32))) := Hh2.at hin2 rfl
  have pre3 := fun t (kt : At p e below s₁ m 19 #[vR ab, vI ch, vI 0, vI 4, .val (.int (ch.toInt8.toInt32)), vI 0] [(.int (ch.toInt8.toInt32)), (.int (nar .byte (q1.toInt8.toInt32)))] t) => pre1 t (by
    show At p e below s₁ m 16 #[vR ab, vI ch, vI 0, vI 4, .val (.int (ch.toInt8.toInt32)), vI 0] [(.int 0), (.ref ab)] _
    refine X0.baloadBytes hx (j := (0 : Int32)) (v := (.int (nar .byte (q1.toInt8.toInt32)))) (by rw [e0]; exact Ar2.1) (State.isArrayOf_alike hZ.alike Ar2.2.1) Ar2.2.2 hin2 hat2 (g := (mkF m 16 #[vR ab, vI ch, vI 0, vI 4, .val (.int (ch.toInt8.toInt32)), vI 0] [(.int 0), (.ref ab)])) rfl rfl (hb hby d18_16) _ ?_
    show At p e below s₁ m 17 #[vR ab, vI ch, vI 0, vI 4, .val (.int (ch.toInt8.toInt32)), vI 0] [(.int (nar .byte (q1.toInt8.toInt32)))] _
    refine XS.iload X0.here hx rfl (hb hby d18_17) rfl ?_
    exact kt)
  by_cases d1 : (nar .byte (q1.toInt8.toInt32)) = (ch.toInt8.toInt32)
  · have pre4 := fun t (kt : At p e below s₁ m 24 #[vR ab, vI ch, vI 0, vI 4, .val (.int (ch.toInt8.toInt32)), vI 0] [(.int 0)] t) => pre3 t (by
      show At p e below s₁ m 19 #[vR ab, vI ch, vI 0, vI 4, .val (.int (ch.toInt8.toInt32)), vI 0] [(.int (ch.toInt8.toInt32)), (.int (nar .byte (q1.toInt8.toInt32)))] _
      refine XS.icmpNo X0.here hx rfl (hb hby d18_19) rfl (teq (d1 : (nar .byte (q1.toInt8.toInt32)) = (ch.toInt8.toInt32))).2 ?_
      show At p e below s₁ m 22 #[vR ab, vI ch, vI 0, vI 4, .val (.int (ch.toInt8.toInt32)), vI 0] [] _
      refine XS.iload X0.here hx rfl (hb hby d18_22) rfl ?_
      exact kt)
    obtain ⟨fs, hr, hrun, hended, hW, hsame⟩ := X0.leave (v := (some (.int 0))) (fun h => by rw [Bd.returns] at h; cases h)
    refine ⟨_, _, pre4 _ ?_, hrun, hended, _, _, rfl, ?_, ⟨_, rfl⟩, hW, hsame.mono (by decide) (by decide)⟩
    · show At p e below s₁ m 24 #[vR ab, vI ch, vI 0, vI 4, .val (.int (ch.toInt8.toInt32)), vI 0] [(.int 0)] _
      exact retI X0 hx Bd.returns (hb hby d18_24) hr
    · show Q18_4 Z ab kb ch q1 q2 q3 q4 h0 n0 _ s₁.heap _
      rw [e0]
      exact ⟨_, rfl, N0, rfl, iff_of_true (by decide) (own_here ((own_by R1 k1 hc).mp d1))⟩
  · have pre5 := fun t (kt : At p e below s₁ m 16 #[vR ab, vI ch, vI 0, vI 4, .val (.int (ch.toInt8.toInt32)), vI 1] [(.int 1), (.ref ab)] t) => pre3 t (by
      show At p e below s₁ m 19 #[vR ab, vI ch, vI 0, vI 4, .val (.int (ch.toInt8.toInt32)), vI 0] [(.int (ch.toInt8.toInt32)), (.int (nar .byte (q1.toInt8.toInt32)))] _
      refine XS.icmpYes X0.here hx rfl (pc0 := 19) (pc' := 25) rfl (hb hby d18_19) rfl (feq (d1 : ¬ ((nar .byte (q1.toInt8.toInt32)) = (ch.toInt8.toInt32)))).2 (by decide) (by decide) ?_
      show At p e below s₁ m 25 #[vR ab, vI ch, vI 0, vI 4, .val (.int (ch.toInt8.toInt32)), vI 0] [] _
      refine XS.iinc X0.here hx rfl (hb hby d18_25) rfl (l' := #[vR ab, vI ch, vI 0, vI 4, .val (.int (ch.toInt8.toInt32)), .val (.int ((0 : Int32) + (1 : Int32)))]) rfl ?_
      show At p e below s₁ m 28 #[vR ab, vI ch, vI 0, vI 4, .val (.int (ch.toInt8.toInt32)), .val (.int ((0 : Int32) + (1 : Int32)))] [] _
      show At p e below s₁ m 28 #[vR ab, vI ch, vI 0, vI 4, .val (.int (ch.toInt8.toInt32)), vI 1] [] _
      refine XS.goto X0.here hx rfl (pc0 := 28) (pc' := 7) rfl (hb hby d18_28) (by decide) (by decide) ?_
      show At p e below s₁ m 7 #[vR ab, vI ch, vI 0, vI 4, .val (.int (ch.toInt8.toInt32)), vI 1] [] _
      refine XS.iload X0.here hx rfl (hb hby d18_7) rfl ?_
      show At p e below s₁ m 9 #[vR ab, vI ch, vI 0, vI 4, .val (.int (ch.toInt8.toInt32)), vI 1] [(.int 1)] _
      refine XS.iloadN X0.here hx rfl (hb hby d18_9) rfl ?_
      show At p e below s₁ m 10 #[vR ab, vI ch, vI 0, vI 4, .val (.int (ch.toInt8.toInt32)), vI 1] [(.int 4), (.int 1)] _
      refine XS.icmpNo X0.here hx rfl (hb hby d18_10) rfl (tlt (by decide : (1 : Int32) < (4 : Int32))).2.1 ?_
      show At p e below s₁ m 13 #[vR ab, vI ch, vI 0, vI 4, .val (.int (ch.toInt8.toInt32)), vI 1] [] _
      refine XS.aloadN X0.here hx rfl (hb hby d18_13) rfl rfl ?_
      show At p e below s₁ m 14 #[vR ab, vI ch, vI 0, vI 4, .val (.int (ch.toInt8.toInt32)), vI 1] [(.ref ab)] _
      refine XS.iload X0.here hx rfl (hb hby d18_14) rfl ?_
      exact kt)
    obtain ⟨cl6, Ar6, qk6, Sz6, Nn6, Hh6, Gg6⟩ := id Vb
    have hin6 : ¬ ((1 : Int32) < 0 ∨ cl6.slots.size ≤ ((1 : Int32)).toNatClampNeg) := inb_of Sz6 ⟨by decide, by decide⟩
    have hat6 : cl6.slots[((1 : Int32)).toNatClampNeg]? = some (.int (nar .byte (q2.toInt8.toInt32))) := Hh6.at hin6 rfl
    have pre7 := fun t (kt : At p e below s₁ m 19 #[vR ab, vI ch, vI 0, vI 4, .val (.int (ch.toInt8.toInt32)), vI 1] [(.int (ch.toInt8.toInt32)), (.int (nar .byte (q2.toInt8.toInt32)))] t) => pre5 t (by
      show At p e below s₁ m 16 #[vR ab, vI ch, vI 0, vI 4, .val (.int (ch.toInt8.toInt32)), vI 1] [(.int 1), (.ref ab)] _
      refine X0.baloadBytes hx (j := (1 : Int32)) (v := (.int (nar .byte (q2.toInt8.toInt32)))) (by rw [e0]; exact Ar6.1) (State.isArrayOf_alike hZ.alike Ar6.2.1) Ar6.2.2 hin6 hat6 (g := (mkF m 16 #[vR ab, vI ch, vI 0, vI 4, .val (.int (ch.toInt8.toInt32)), vI 1] [(.int 1), (.ref ab)])) rfl rfl (hb hby d18_16) _ ?_
      show At p e below s₁ m 17 #[vR ab, vI ch, vI 0, vI 4, .val (.int (ch.toInt8.toInt32)), vI 1] [(.int (nar .byte (q2.toInt8.toInt32)))] _
      refine XS.iload X0.here hx rfl (hb hby d18_17) rfl ?_
      exact kt)
    by_cases d2 : (nar .byte (q2.toInt8.toInt32)) = (ch.toInt8.toInt32)
    · have pre8 := fun t (kt : At p e below s₁ m 24 #[vR ab, vI ch, vI 0, vI 4, .val (.int (ch.toInt8.toInt32)), vI 1] [(.int 1)] t) => pre7 t (by
        show At p e below s₁ m 19 #[vR ab, vI ch, vI 0, vI 4, .val (.int (ch.toInt8.toInt32)), vI 1] [(.int (ch.toInt8.toInt32)), (.int (nar .byte (q2.toInt8.toInt32)))] _
        refine XS.icmpNo X0.here hx rfl (hb hby d18_19) rfl (teq (d2 : (nar .byte (q2.toInt8.toInt32)) = (ch.toInt8.toInt32))).2 ?_
        show At p e below s₁ m 22 #[vR ab, vI ch, vI 0, vI 4, .val (.int (ch.toInt8.toInt32)), vI 1] [] _
        refine XS.iload X0.here hx rfl (hb hby d18_22) rfl ?_
        exact kt)
      obtain ⟨fs, hr, hrun, hended, hW, hsame⟩ := X0.leave (v := (some (.int 1))) (fun h => by rw [Bd.returns] at h; cases h)
      refine ⟨_, _, pre8 _ ?_, hrun, hended, _, _, rfl, ?_, ⟨_, rfl⟩, hW, hsame.mono (by decide) (by decide)⟩
      · show At p e below s₁ m 24 #[vR ab, vI ch, vI 0, vI 4, .val (.int (ch.toInt8.toInt32)), vI 1] [(.int 1)] _
        exact retI X0 hx Bd.returns (hb hby d18_24) hr
      · show Q18_4 Z ab kb ch q1 q2 q3 q4 h0 n0 _ s₁.heap _
        rw [e0]
        exact ⟨_, rfl, N0, rfl, iff_of_true (by decide) (own_there (own_here ((own_by R2 k2 hc).mp d2)))⟩
    · have pre9 := fun t (kt : At p e below s₁ m 16 #[vR ab, vI ch, vI 0, vI 4, .val (.int (ch.toInt8.toInt32)), vI 2] [(.int 2), (.ref ab)] t) => pre7 t (by
        show At p e below s₁ m 19 #[vR ab, vI ch, vI 0, vI 4, .val (.int (ch.toInt8.toInt32)), vI 1] [(.int (ch.toInt8.toInt32)), (.int (nar .byte (q2.toInt8.toInt32)))] _
        refine XS.icmpYes X0.here hx rfl (pc0 := 19) (pc' := 25) rfl (hb hby d18_19) rfl (feq (d2 : ¬ ((nar .byte (q2.toInt8.toInt32)) = (ch.toInt8.toInt32)))).2 (by decide) (by decide) ?_
        show At p e below s₁ m 25 #[vR ab, vI ch, vI 0, vI 4, .val (.int (ch.toInt8.toInt32)), vI 1] [] _
        refine XS.iinc X0.here hx rfl (hb hby d18_25) rfl (l' := #[vR ab, vI ch, vI 0, vI 4, .val (.int (ch.toInt8.toInt32)), .val (.int ((1 : Int32) + (1 : Int32)))]) rfl ?_
        show At p e below s₁ m 28 #[vR ab, vI ch, vI 0, vI 4, .val (.int (ch.toInt8.toInt32)), .val (.int ((1 : Int32) + (1 : Int32)))] [] _
        show At p e below s₁ m 28 #[vR ab, vI ch, vI 0, vI 4, .val (.int (ch.toInt8.toInt32)), vI 2] [] _
        refine XS.goto X0.here hx rfl (pc0 := 28) (pc' := 7) rfl (hb hby d18_28) (by decide) (by decide) ?_
        show At p e below s₁ m 7 #[vR ab, vI ch, vI 0, vI 4, .val (.int (ch.toInt8.toInt32)), vI 2] [] _
        refine XS.iload X0.here hx rfl (hb hby d18_7) rfl ?_
        show At p e below s₁ m 9 #[vR ab, vI ch, vI 0, vI 4, .val (.int (ch.toInt8.toInt32)), vI 2] [(.int 2)] _
        refine XS.iloadN X0.here hx rfl (hb hby d18_9) rfl ?_
        show At p e below s₁ m 10 #[vR ab, vI ch, vI 0, vI 4, .val (.int (ch.toInt8.toInt32)), vI 2] [(.int 4), (.int 2)] _
        refine XS.icmpNo X0.here hx rfl (hb hby d18_10) rfl (tlt (by decide : (2 : Int32) < (4 : Int32))).2.1 ?_
        show At p e below s₁ m 13 #[vR ab, vI ch, vI 0, vI 4, .val (.int (ch.toInt8.toInt32)), vI 2] [] _
        refine XS.aloadN X0.here hx rfl (hb hby d18_13) rfl rfl ?_
        show At p e below s₁ m 14 #[vR ab, vI ch, vI 0, vI 4, .val (.int (ch.toInt8.toInt32)), vI 2] [(.ref ab)] _
        refine XS.iload X0.here hx rfl (hb hby d18_14) rfl ?_
        exact kt)
      obtain ⟨cl10, Ar10, qk10, Sz10, Nn10, Hh10, Gg10⟩ := id Vb
      have hin10 : ¬ ((2 : Int32) < 0 ∨ cl10.slots.size ≤ ((2 : Int32)).toNatClampNeg) := inb_of Sz10 ⟨by decide, by decide⟩
      have hat10 : cl10.slots[((2 : Int32)).toNatClampNeg]? = some (.int (nar .byte (q3.toInt8.toInt32))) := Hh10.at hin10 rfl
      have pre11 := fun t (kt : At p e below s₁ m 19 #[vR ab, vI ch, vI 0, vI 4, .val (.int (ch.toInt8.toInt32)), vI 2] [(.int (ch.toInt8.toInt32)), (.int (nar .byte (q3.toInt8.toInt32)))] t) => pre9 t (by
        show At p e below s₁ m 16 #[vR ab, vI ch, vI 0, vI 4, .val (.int (ch.toInt8.toInt32)), vI 2] [(.int 2), (.ref ab)] _
        refine X0.baloadBytes hx (j := (2 : Int32)) (v := (.int (nar .byte (q3.toInt8.toInt32)))) (by rw [e0]; exact Ar10.1) (State.isArrayOf_alike hZ.alike Ar10.2.1) Ar10.2.2 hin10 hat10 (g := (mkF m 16 #[vR ab, vI ch, vI 0, vI 4, .val (.int (ch.toInt8.toInt32)), vI 2] [(.int 2), (.ref ab)])) rfl rfl (hb hby d18_16) _ ?_
        show At p e below s₁ m 17 #[vR ab, vI ch, vI 0, vI 4, .val (.int (ch.toInt8.toInt32)), vI 2] [(.int (nar .byte (q3.toInt8.toInt32)))] _
        refine XS.iload X0.here hx rfl (hb hby d18_17) rfl ?_
        exact kt)
      by_cases d3 : (nar .byte (q3.toInt8.toInt32)) = (ch.toInt8.toInt32)
      · have pre12 := fun t (kt : At p e below s₁ m 24 #[vR ab, vI ch, vI 0, vI 4, .val (.int (ch.toInt8.toInt32)), vI 2] [(.int 2)] t) => pre11 t (by
          show At p e below s₁ m 19 #[vR ab, vI ch, vI 0, vI 4, .val (.int (ch.toInt8.toInt32)), vI 2] [(.int (ch.toInt8.toInt32)), (.int (nar .byte (q3.toInt8.toInt32)))] _
          refine XS.icmpNo X0.here hx rfl (hb hby d18_19) rfl (teq (d3 : (nar .byte (q3.toInt8.toInt32)) = (ch.toInt8.toInt32))).2 ?_
          show At p e below s₁ m 22 #[vR ab, vI ch, vI 0, vI 4, .val (.int (ch.toInt8.toInt32)), vI 2] [] _
          refine XS.iload X0.here hx rfl (hb hby d18_22) rfl ?_
          exact kt)
        obtain ⟨fs, hr, hrun, hended, hW, hsame⟩ := X0.leave (v := (some (.int 2))) (fun h => by rw [Bd.returns] at h; cases h)
        refine ⟨_, _, pre12 _ ?_, hrun, hended, _, _, rfl, ?_, ⟨_, rfl⟩, hW, hsame.mono (by decide) (by decide)⟩
        · show At p e below s₁ m 24 #[vR ab, vI ch, vI 0, vI 4, .val (.int (ch.toInt8.toInt32)), vI 2] [(.int 2)] _
          exact retI X0 hx Bd.returns (hb hby d18_24) hr
        · show Q18_4 Z ab kb ch q1 q2 q3 q4 h0 n0 _ s₁.heap _
          rw [e0]
          exact ⟨_, rfl, N0, rfl, iff_of_true (by decide) (own_there (own_there (own_here ((own_by R3 k3 hc).mp d3))))⟩
      · have pre13 := fun t (kt : At p e below s₁ m 16 #[vR ab, vI ch, vI 0, vI 4, .val (.int (ch.toInt8.toInt32)), vI 3] [(.int 3), (.ref ab)] t) => pre11 t (by
          show At p e below s₁ m 19 #[vR ab, vI ch, vI 0, vI 4, .val (.int (ch.toInt8.toInt32)), vI 2] [(.int (ch.toInt8.toInt32)), (.int (nar .byte (q3.toInt8.toInt32)))] _
          refine XS.icmpYes X0.here hx rfl (pc0 := 19) (pc' := 25) rfl (hb hby d18_19) rfl (feq (d3 : ¬ ((nar .byte (q3.toInt8.toInt32)) = (ch.toInt8.toInt32)))).2 (by decide) (by decide) ?_
          show At p e below s₁ m 25 #[vR ab, vI ch, vI 0, vI 4, .val (.int (ch.toInt8.toInt32)), vI 2] [] _
          refine XS.iinc X0.here hx rfl (hb hby d18_25) rfl (l' := #[vR ab, vI ch, vI 0, vI 4, .val (.int (ch.toInt8.toInt32)), .val (.int ((2 : Int32) + (1 : Int32)))]) rfl ?_
          show At p e below s₁ m 28 #[vR ab, vI ch, vI 0, vI 4, .val (.int (ch.toInt8.toInt32)), .val (.int ((2 : Int32) + (1 : Int32)))] [] _
          show At p e below s₁ m 28 #[vR ab, vI ch, vI 0, vI 4, .val (.int (ch.toInt8.toInt32)), vI 3] [] _
          refine XS.goto X0.here hx rfl (pc0 := 28) (pc' := 7) rfl (hb hby d18_28) (by decide) (by decide) ?_
          show At p e below s₁ m 7 #[vR ab, vI ch, vI 0, vI 4, .val (.int (ch.toInt8.toInt32)), vI 3] [] _
          refine XS.iload X0.here hx rfl (hb hby d18_7) rfl ?_
          show At p e below s₁ m 9 #[vR ab, vI ch, vI 0, vI 4, .val (.int (ch.toInt8.toInt32)), vI 3] [(.int 3)] _
          refine XS.iloadN X0.here hx rfl (hb hby d18_9) rfl ?_
          show At p e below s₁ m 10 #[vR ab, vI ch, vI 0, vI 4, .val (.int (ch.toInt8.toInt32)), vI 3] [(.int 4), (.int 3)] _
          refine XS.icmpNo X0.here hx rfl (hb hby d18_10) rfl (tlt (by decide : (3 : Int32) < (4 : Int32))).2.1 ?_
          show At p e below s₁ m 13 #[vR ab, vI ch, vI 0, vI 4, .val (.int (ch.toInt8.toInt32)), vI 3] [] _
          refine XS.aloadN X0.here hx rfl (hb hby d18_13) rfl rfl ?_
          show At p e below s₁ m 14 #[vR ab, vI ch, vI 0, vI 4, .val (.int (ch.toInt8.toInt32)), vI 3] [(.ref ab)] _
          refine XS.iload X0.here hx rfl (hb hby d18_14) rfl ?_
          exact kt)
        obtain ⟨cl14, Ar14, qk14, Sz14, Nn14, Hh14, Gg14⟩ := id Vb
        have hin14 : ¬ ((3 : Int32) < 0 ∨ cl14.slots.size ≤ ((3 : Int32)).toNatClampNeg) := inb_of Sz14 ⟨by decide, by decide⟩
        have hat14 : cl14.slots[((3 : Int32)).toNatClampNeg]? = some (.int (nar .byte (q4.toInt8.toInt32))) := Hh14.at hin14 rfl
        have pre15 := fun t (kt : At p e below s₁ m 19 #[vR ab, vI ch, vI 0, vI 4, .val (.int (ch.toInt8.toInt32)), vI 3] [(.int (ch.toInt8.toInt32)), (.int (nar .byte (q4.toInt8.toInt32)))] t) => pre13 t (by
          show At p e below s₁ m 16 #[vR ab, vI ch, vI 0, vI 4, .val (.int (ch.toInt8.toInt32)), vI 3] [(.int 3), (.ref ab)] _
          refine X0.baloadBytes hx (j := (3 : Int32)) (v := (.int (nar .byte (q4.toInt8.toInt32)))) (by rw [e0]; exact Ar14.1) (State.isArrayOf_alike hZ.alike Ar14.2.1) Ar14.2.2 hin14 hat14 (g := (mkF m 16 #[vR ab, vI ch, vI 0, vI 4, .val (.int (ch.toInt8.toInt32)), vI 3] [(.int 3), (.ref ab)])) rfl rfl (hb hby d18_16) _ ?_
          show At p e below s₁ m 17 #[vR ab, vI ch, vI 0, vI 4, .val (.int (ch.toInt8.toInt32)), vI 3] [(.int (nar .byte (q4.toInt8.toInt32)))] _
          refine XS.iload X0.here hx rfl (hb hby d18_17) rfl ?_
          exact kt)
        by_cases d4 : (nar .byte (q4.toInt8.toInt32)) = (ch.toInt8.toInt32)
        · have pre16 := fun t (kt : At p e below s₁ m 24 #[vR ab, vI ch, vI 0, vI 4, .val (.int (ch.toInt8.toInt32)), vI 3] [(.int 3)] t) => pre15 t (by
            show At p e below s₁ m 19 #[vR ab, vI ch, vI 0, vI 4, .val (.int (ch.toInt8.toInt32)), vI 3] [(.int (ch.toInt8.toInt32)), (.int (nar .byte (q4.toInt8.toInt32)))] _
            refine XS.icmpNo X0.here hx rfl (hb hby d18_19) rfl (teq (d4 : (nar .byte (q4.toInt8.toInt32)) = (ch.toInt8.toInt32))).2 ?_
            show At p e below s₁ m 22 #[vR ab, vI ch, vI 0, vI 4, .val (.int (ch.toInt8.toInt32)), vI 3] [] _
            refine XS.iload X0.here hx rfl (hb hby d18_22) rfl ?_
            exact kt)
          obtain ⟨fs, hr, hrun, hended, hW, hsame⟩ := X0.leave (v := (some (.int 3))) (fun h => by rw [Bd.returns] at h; cases h)
          refine ⟨_, _, pre16 _ ?_, hrun, hended, _, _, rfl, ?_, ⟨_, rfl⟩, hW, hsame.mono (by decide) (by decide)⟩
          · show At p e below s₁ m 24 #[vR ab, vI ch, vI 0, vI 4, .val (.int (ch.toInt8.toInt32)), vI 3] [(.int 3)] _
            exact retI X0 hx Bd.returns (hb hby d18_24) hr
          · show Q18_4 Z ab kb ch q1 q2 q3 q4 h0 n0 _ s₁.heap _
            rw [e0]
            exact ⟨_, rfl, N0, rfl, iff_of_true (by decide) (own_there (own_there (own_there (own_here ((own_by R4 k4 hc).mp d4)))))⟩
        · have pre17 := fun t (kt : At p e below s₁ m 32 #[vR ab, vI ch, vI 0, vI 4, .val (.int (ch.toInt8.toInt32)), vI 4] [(.int (-1 : Int32))] t) => pre15 t (by
            show At p e below s₁ m 19 #[vR ab, vI ch, vI 0, vI 4, .val (.int (ch.toInt8.toInt32)), vI 3] [(.int (ch.toInt8.toInt32)), (.int (nar .byte (q4.toInt8.toInt32)))] _
            refine XS.icmpYes X0.here hx rfl (pc0 := 19) (pc' := 25) rfl (hb hby d18_19) rfl (feq (d4 : ¬ ((nar .byte (q4.toInt8.toInt32)) = (ch.toInt8.toInt32)))).2 (by decide) (by decide) ?_
            show At p e below s₁ m 25 #[vR ab, vI ch, vI 0, vI 4, .val (.int (ch.toInt8.toInt32)), vI 3] [] _
            refine XS.iinc X0.here hx rfl (hb hby d18_25) rfl (l' := #[vR ab, vI ch, vI 0, vI 4, .val (.int (ch.toInt8.toInt32)), .val (.int ((3 : Int32) + (1 : Int32)))]) rfl ?_
            show At p e below s₁ m 28 #[vR ab, vI ch, vI 0, vI 4, .val (.int (ch.toInt8.toInt32)), .val (.int ((3 : Int32) + (1 : Int32)))] [] _
            show At p e below s₁ m 28 #[vR ab, vI ch, vI 0, vI 4, .val (.int (ch.toInt8.toInt32)), vI 4] [] _
            refine XS.goto X0.here hx rfl (pc0 := 28) (pc' := 7) rfl (hb hby d18_28) (by decide) (by decide) ?_
            show At p e below s₁ m 7 #[vR ab, vI ch, vI 0, vI 4, .val (.int (ch.toInt8.toInt32)), vI 4] [] _
            refine XS.iload X0.here hx rfl (hb hby d18_7) rfl ?_
            show At p e below s₁ m 9 #[vR ab, vI ch, vI 0, vI 4, .val (.int (ch.toInt8.toInt32)), vI 4] [(.int 4)] _
            refine XS.iloadN X0.here hx rfl (hb hby d18_9) rfl ?_
            show At p e below s₁ m 10 #[vR ab, vI ch, vI 0, vI 4, .val (.int (ch.toInt8.toInt32)), vI 4] [(.int 4), (.int 4)] _
            refine XS.icmpYes X0.here hx rfl (pc0 := 10) (pc' := 31) rfl (hb hby d18_10) rfl (flt (by decide : ¬ ((4 : Int32) < (4 : Int32)))).2.1 (by decide) (by decide) ?_
            show At p e below s₁ m 31 #[vR ab, vI ch, vI 0, vI 4, .val (.int (ch.toInt8.toInt32)), vI 4] [] _
            refine XS.iconst X0.here hx rfl (hb hby d18_31) ?_
            exact kt)
          obtain ⟨fs, hr, hrun, hended, hW, hsame⟩ := X0.leave (v := (some (.int (-1 : Int32)))) (fun h => by rw [Bd.returns] at h; cases h)
          refine ⟨_, _, pre17 _ ?_, hrun, hended, _, _, rfl, ?_, ⟨_, rfl⟩, hW, hsame.mono (by decide) (by decide)⟩
          · show At p e below s₁ m 32 #[vR ab, vI ch, vI 0, vI 4, .val (.int (ch.toInt8.toInt32)), vI 4] [(.int (-1 : Int32))] _
            exact retI X0 hx Bd.returns (hb hby d18_32) hr
          · show Q18_4 Z ab kb ch q1 q2 q3 q4 h0 n0 _ s₁.heap _
            rw [e0]
            exact ⟨_, rfl, N0, rfl, iff_of_false (by decide) (own_no (fun t => d1 ((own_by R1 k1 hc).mpr t)) (own_no (fun t => d2 ((own_by R2 k2 hc).mpr t)) (own_no (fun t => d3 ((own_by R3 k3 hc).mpr t)) (own_no (fun t => d4 ((own_by R4 k4 hc).mpr t)) (own_nil)))))⟩
theorem ef_10_0 (m : MethodId) (ab : Addr) (ch : Int32) : entryFrame m #[(.ref ab), (.int ch), (.int 0), (.int 0)] 4 = (mkF m 0 #[vR ab, vI ch, vI 0, vI 0] []) := by first | (simp [entryFrame, mkF, argsToLocals, Value.category]; done) | rfl
theorem d10_0 : decode jdk_43_method_22_code 0 = .ok (.iload_n 1, 1) := by decide +kernel
theorem pd_9 : parseMethodDescriptor "(I)Z" = some ⟨[.int], some .boolean⟩ := by decide +kernel
theorem d10_1 : decode jdk_43_method_22_code 1 = .ok (.invokestatic 88, 3) := by decide +kernel
theorem d10_4 : decode jdk_43_method_22_code 4 = .ok (.ifCond .ne 5, 3) := by decide +kernel
theorem d10_9 : decode jdk_43_method_22_code 9 = .ok (.iload_n 2, 1) := by decide +kernel
theorem d10_10 : decode jdk_43_method_22_code 10 = .ok (.iconst 0, 1) := by decide +kernel
theorem pd_10 : parseMethodDescriptor "(II)I" = some ⟨[.int, .int], some .int⟩ := by decide +kernel
theorem d10_11 : decode jdk_43_method_22_code 11 = .ok (.invokestatic 92, 3) := by decide +kernel
theorem d10_14 : decode jdk_43_method_22_code 14 = .ok (.istore_n 2, 1) := by decide +kernel
theorem d10_15 : decode jdk_43_method_22_code 15 = .ok (.iload_n 3, 1) := by decide +kernel
theorem d10_16 : decode jdk_43_method_22_code 16 = .ok (.aload_n 0, 1) := by decide +kernel
theorem d10_17 : decode jdk_43_method_22_code 17 = .ok (.arraylength, 1) := by decide +kernel
theorem d10_18 : decode jdk_43_method_22_code 18 = .ok (.invokestatic 38, 3) := by decide +kernel
theorem d10_21 : decode jdk_43_method_22_code 21 = .ok (.istore_n 3, 1) := by decide +kernel
theorem d10_22 : decode jdk_43_method_22_code 22 = .ok (.iload_n 2, 1) := by decide +kernel
theorem d10_23 : decode jdk_43_method_22_code 23 = .ok (.iload_n 3, 1) := by decide +kernel
theorem d10_24 : decode jdk_43_method_22_code 24 = .ok (.if_icmp .lt 5, 3) := by decide +kernel
theorem d10_27 : decode jdk_43_method_22_code 27 = .ok (.iconst (-1), 1) := by decide +kernel
theorem d10_28 : decode jdk_43_method_22_code 28 = .ok (.ireturn, 1) := by decide +kernel
def Q10_0 (Z : State) (ab : Addr) (kb : ClassId) (ch : Int32) (vs : List Value) (h0 : Heap) (n0 : Nat) (v : Option Value) (h : Heap) (L : List Loc) : Prop := ∃ r : Int32, v = some (.int r) ∧ Fr n0 L ∧ h = h0 ∧ (¬ (r < (0 : Int32)) ↔ ch ∈ ([] : List Int32))
set_option maxRecDepth 65536 in
set_option maxHeartbeats 40000000 in
theorem rm10_0 (l : Launch) (Z : State) (a0 : Array Value) (hw : ∀ d ∈ tables_1, d.before a0 Z = true) (ws : List Jvm.Cond) (ab : Addr) (kb : ClassId) (ch : Int32) (vs : List Value) (h0 : Heap) (n0 : Nat) (Z0 : n0 ≤ h0.size) (Vb : Arv Z h0 ab kb .byte (0 : Int32) vs (.int 0)) (hc : ch = 42 ∨ ch = 63) :
    MetFree l (⟨"java/lang/StringLatin1", "indexOf", "([BIII)I"⟩ : MethodName) (head1 (Jvm.Cond.code (⟨"java/lang/StringLatin1", "indexOf", "([BIII)I"⟩ : MethodName) jdk_43_method_22_code 4 (some .int) :: ws) ({ frames := 1, cells := 0, slots := 0, locals := 17 } : Room)) (fun a U => a = #[(.ref ab), (.int ch), (.int 0), (.int 0)] ∧ Z.Warmed39 U.vm ∧ U.heap = h0) (fun _ _ _ _ _ => True) (fun _ U o U' => ∃ v L, o = .returned v ∧ Q10_0 Z ab kb ch vs h0 n0 v U'.heap L ∧ FrameEnd U o U' L ({ frames := 1, cells := 0, slots := 0, locals := 17 } : Room).cells ({ frames := 1, cells := 0, slots := 0, locals := 17 } : Room).slots) := by
  refine MetFree.of_bodySF (plainFor_of_name pn_5) hisR ?_
  intro p e s m args below meth c s₁ Bd hml0 hP hK
  obtain ⟨rfl, hZ, hh⟩ := hP
  have hx := Bd.exec
  have hby := Bd.bytes
  have hml : c.maxLocals = 4 := hml0
  have hown : s.vm.findClass "java/lang/StringLatin1" = some m.cls := findClass_of_methodNamed Bd.named
  have hnm := (name_of_methodNamed Bd.named Bd.method).1
  have X0 : Stand p l e ({ frames := 1, cells := 0, slots := 0, locals := 17 } : Room) s m #[(.ref ab), (.int ch), (.int 0), (.int 0)] below meth c s₁ [] 0 0 := Stand.of_body Bd
  have e0 : s₁.heap = h0 := by rw [← hh, Bd.state]; rfl
  have N0 := Fr.nil n0
  have pre0 : ∀ t, At p e below s₁ m 0 #[vR ab, vI ch, vI 0, vI 0] [] t → Steps p.tables e below (s₁.setTop (entryFrame m #[(.ref ab), (.int ch), (.int 0), (.int 0)] 4)) t := fun t k => castTop (ef_10_0 m ab ch) k
  have pre1 := fun t (kt : At p e below s₁ m 1 #[vR ab, vI ch, vI 0, vI 0] [(.int ch)] t) => pre0 t (by
    show At p e below s₁ m 0 #[vR ab, vI ch, vI 0, vI 0] [] _
    refine XS.iloadN X0.here hx rfl (hb hby d10_0) rfl ?_
    exact kt)
  obtain ⟨_, _, ⟨T2, L2, kc2, nc2⟩, -, X2, ⟨Lc2, hQ2, l2, y2, z2⟩, st2⟩ := Jvm.LawKit.callS X0 hx (y := (⟨"java/lang/StringLatin1", "canEncode", "(I)Z"⟩ : MethodName)) hown (mvT hZ (wd hw 58 rfl)) (mvT hZ (wd hw 59 rfl)) (mvT hZ (wd hw 56 rfl)) (mvT hZ (wd hw 60 rfl)) (by decide) (backOf (W := 0) (rm11 l Z a0 hw [] ch h0 n0 Z0 hc) hZ (wd hw 60 rfl) (wd hw 56 rfl) (by decide) (by decide)) (g := (mkF m 1 #[vR ab, vI ch, vI 0, vI 0] [(.int ch)])) rfl (by rw [hml]; rfl) (argsL := [(.int ch)]) (rest := []) (lenOf pd_9 rfl) rfl (by show 2 * 0 + _ ≤ _; exact Nat.le_of_eq rfl) (hb hby d10_1) (fun _ _ => ⟨rfl, e0, (by decide : 0 + 0 ≤ _), (by decide : 0 + 0 ≤ _)⟩)
  dsimp only [Pt.U, Pt.locs, Pt.cells, Pt.slots] at X2 l2 y2 z2 st2 hQ2
  subst l2 y2 z2
  obtain ⟨rfl, N2q, he2⟩ := hQ2
  have N2 := Fr.app N0 N2q
  have pre3 := fun t (kt : At p e below T2 m 4 #[vR ab, vI ch, vI 0, vI 0] [(.int 1)] t) => pre1 t (st2 _ kt)
  have pre4 := fun t (kt : At p e below T2 m 11 #[vR ab, vI ch, vI 0, vI 0] [(.int 0), (.int 0)] t) => pre3 t (by
    show At p e below T2 m 4 #[vR ab, vI ch, vI 0, vI 0] [(.int 1)] _
    refine XS.ifYes X2.here hx rfl (pc0 := 4) (pc' := 9) rfl (hb hby d10_4) rfl ((if0 _ _).trans (feq (by decide : ¬ ((1 : Int32) = (0 : Int32)))).2) (by decide) (by decide) ?_
    show At p e below T2 m 9 #[vR ab, vI ch, vI 0, vI 0] [] _
    refine XS.iloadN X2.here hx rfl (hb hby d10_9) rfl ?_
    show At p e below T2 m 10 #[vR ab, vI ch, vI 0, vI 0] [(.int 0)] _
    refine XS.iconst X2.here hx rfl (hb hby d10_10) ?_
    exact kt)
  obtain ⟨_, _, ⟨T5, L5, kc5, nc5⟩, -, X5, ⟨Lc5, hQ5, l5, y5, z5⟩, st5⟩ := Jvm.LawKit.callS X2 hx (y := (⟨"java/lang/Math", "max", "(II)I"⟩ : MethodName)) hown (mvT hZ (wd hw 61 rfl)) (mvT hZ (wd hw 62 rfl)) (mvT hZ (wd hw 63 rfl)) (mvT hZ (wd hw 64 rfl)) (by decide) (backOf (W := 0) (rm12 l Z a0 hw [] (0 : Int32) (0 : Int32) h0 n0 Z0) hZ (wd hw 64 rfl) (wd hw 63 rfl) (by decide) (by decide)) (g := (mkF m 11 #[vR ab, vI ch, vI 0, vI 0] [(.int 0), (.int 0)])) rfl (by rw [hml]; rfl) (argsL := [(.int 0), (.int 0)]) (rest := []) (lenOf pd_10 rfl) rfl (by show 2 * 0 + _ ≤ _; exact Nat.le_of_eq rfl) (hb hby d10_11) (fun _ _ => ⟨rfl, he2, (by decide : 0 + 0 ≤ _), (by decide : 0 + 0 ≤ _)⟩)
  dsimp only [Pt.U, Pt.locs, Pt.cells, Pt.slots] at X5 l5 y5 z5 st5 hQ5
  subst l5 y5 z5
  obtain ⟨rfl, N5q, he5⟩ := hQ5
  have N5 := Fr.app N2 N5q
  have pre6 := fun t (kt : At p e below T5 m 14 #[vR ab, vI ch, vI 0, vI 0] [(.int (own_max (0 : Int32) (0 : Int32)))] t) => pre4 t (st5 _ kt)
  have pre7 := fun t (kt : At p e below T5 m 17 #[vR ab, vI ch, vI 0, vI 0] [(.ref ab), (.int 0)] t) => pre6 t (by
    show At p e below T5 m 14 #[vR ab, vI ch, vI 0, vI 0] [(.int (own_max (0 : Int32) (0 : Int32)))] _
    rw [show (own_max (0 : Int32) (0 : Int32)) = (0 : Int32) from by decide]
    show At p e below T5 m 14 #[vR ab, vI ch, vI 0, vI 0] [(.int 0)] _
    refine XS.istoreN X5.here hx rfl (hb hby d10_14) rfl (l' := #[vR ab, vI ch, vI 0, vI 0]) rfl ?_
    show At p e below T5 m 15 #[vR ab, vI ch, vI 0, vI 0] [] _
    refine XS.iloadN X5.here hx rfl (hb hby d10_15) rfl ?_
    show At p e below T5 m 16 #[vR ab, vI ch, vI 0, vI 0] [(.int 0)] _
    refine XS.aloadN X5.here hx rfl (hb hby d10_16) rfl rfl ?_
    exact kt)
  obtain ⟨cl8, Ar8, qk8, Sz8, Nn8, Hh8, Gg8⟩ := id Vb
  have pre9 := fun t (kt : At p e below T5 m 18 #[vR ab, vI ch, vI 0, vI 0] [(.int 0), (.int 0)] t) => pre7 t (by
    show At p e below T5 m 17 #[vR ab, vI ch, vI 0, vI 0] [(.ref ab), (.int 0)] _
    refine X5.arraylength hx (by rw [he5]; exact Ar8.1) (State.isArrayOf_alike hZ.alike Ar8.2.1) (g := (mkF m 17 #[vR ab, vI ch, vI 0, vI 0] [(.ref ab), (.int 0)])) rfl rfl (hb hby d10_17) _ ?_
    rw [len_of Sz8 Nn8]
    exact kt)
  obtain ⟨_, _, ⟨T10, L10, kc10, nc10⟩, -, X10, ⟨Lc10, hQ10, l10, y10, z10⟩, st10⟩ := Jvm.LawKit.callS X5 hx (y := (⟨"java/lang/Math", "min", "(II)I"⟩ : MethodName)) hown (mvT hZ (wd hw 65 rfl)) (mvT hZ (wd hw 66 rfl)) (mvT hZ (wd hw 63 rfl)) (mvT hZ (wd hw 67 rfl)) (by decide) (backOf (W := 0) (rm13 l Z a0 hw [] (0 : Int32) (0 : Int32) h0 n0 Z0) hZ (wd hw 67 rfl) (wd hw 63 rfl) (by decide) (by decide)) (g := (mkF m 18 #[vR ab, vI ch, vI 0, vI 0] [(.int 0), (.int 0)])) rfl (by rw [hml]; rfl) (argsL := [(.int 0), (.int 0)]) (rest := []) (lenOf pd_10 rfl) rfl (by show 2 * 0 + _ ≤ _; exact Nat.le_of_eq rfl) (hb hby d10_18) (fun _ _ => ⟨rfl, he5, (by decide : 0 + 0 ≤ _), (by decide : 0 + 0 ≤ _)⟩)
  dsimp only [Pt.U, Pt.locs, Pt.cells, Pt.slots] at X10 l10 y10 z10 st10 hQ10
  subst l10 y10 z10
  obtain ⟨rfl, N10q, he10⟩ := hQ10
  have N10 := Fr.app N5 N10q
  have pre11 := fun t (kt : At p e below T10 m 21 #[vR ab, vI ch, vI 0, vI 0] [(.int (own_min (0 : Int32) (0 : Int32)))] t) => pre9 t (st10 _ kt)
  have pre12 := fun t (kt : At p e below T10 m 28 #[vR ab, vI ch, vI 0, vI 0] [(.int (-1 : Int32))] t) => pre11 t (by
    show At p e below T10 m 21 #[vR ab, vI ch, vI 0, vI 0] [(.int (own_min (0 : Int32) (0 : Int32)))] _
    rw [show (own_min (0 : Int32) (0 : Int32)) = (0 : Int32) from by decide]
    show At p e below T10 m 21 #[vR ab, vI ch, vI 0, vI 0] [(.int 0)] _
    refine XS.istoreN X10.here hx rfl (hb hby d10_21) rfl (l' := #[vR ab, vI ch, vI 0, vI 0]) rfl ?_
    show At p e below T10 m 22 #[vR ab, vI ch, vI 0, vI 0] [] _
    refine XS.iloadN X10.here hx rfl (hb hby d10_22) rfl ?_
    show At p e below T10 m 23 #[vR ab, vI ch, vI 0, vI 0] [(.int 0)] _
    refine XS.iloadN X10.here hx rfl (hb hby d10_23) rfl ?_
    show At p e below T10 m 24 #[vR ab, vI ch, vI 0, vI 0] [(.int 0), (.int 0)] _
    refine XS.icmpNo X10.here hx rfl (hb hby d10_24) rfl (flt (by decide : ¬ ((0 : Int32) < (0 : Int32)))).1 ?_
    show At p e below T10 m 27 #[vR ab, vI ch, vI 0, vI 0] [] _
    refine XS.iconst X10.here hx rfl (hb hby d10_27) ?_
    exact kt)
  obtain ⟨fs, hr, hrun, hended, hW, hsame⟩ := X10.leave (v := (some (.int (-1 : Int32)))) (fun h => by rw [Bd.returns] at h; cases h)
  refine ⟨_, _, pre12 _ ?_, hrun, hended, _, _, rfl, ?_, ⟨_, rfl⟩, hW, hsame.mono (by decide) (by decide)⟩
  · show At p e below T10 m 28 #[vR ab, vI ch, vI 0, vI 0] [(.int (-1 : Int32))] _
    exact retI X10 hx Bd.returns (hb hby d10_28) hr
  · show Q10_0 Z ab kb ch vs h0 n0 _ T10.heap _
    rw [he10]
    exact ⟨_, rfl, N10, rfl, iff_of_false (by decide) (own_nil)⟩
theorem ef_10 (m : MethodId) (ab : Addr) (ch : Int32) (n : Int32) : entryFrame m #[(.ref ab), (.int ch), (.int 0), (.int n)] 4 = (mkF m 0 #[vR ab, vI ch, vI 0, vI n] []) := by first | (simp [entryFrame, mkF, argsToLocals, Value.category]; done) | rfl
theorem d10_29 : decode jdk_43_method_22_code 29 = .ok (.aload_n 0, 1) := by decide +kernel
theorem d10_30 : decode jdk_43_method_22_code 30 = .ok (.iload_n 1, 1) := by decide +kernel
theorem d10_31 : decode jdk_43_method_22_code 31 = .ok (.iload_n 2, 1) := by decide +kernel
theorem d10_32 : decode jdk_43_method_22_code 32 = .ok (.iload_n 3, 1) := by decide +kernel
theorem pd_11 : parseMethodDescriptor "([BIII)I" = some ⟨[(.array .byte), .int, .int, .int], some .int⟩ := by decide +kernel
theorem d10_33 : decode jdk_43_method_22_code 33 = .ok (.invokestatic 95, 3) := by decide +kernel
theorem d10_36 : decode jdk_43_method_22_code 36 = .ok (.ireturn, 1) := by decide +kernel
def Q10 (Z : State) (ab : Addr) (kb : ClassId) (ch : Int32) (vs : List Value) (n : Int32) (qs : List Int32) (h0 : Heap) (n0 : Nat) (v : Option Value) (h : Heap) (L : List Loc) : Prop := ∃ r : Int32, v = some (.int r) ∧ Fr n0 L ∧ h = h0 ∧ (¬ (r < (0 : Int32)) ↔ ch ∈ qs)
set_option maxRecDepth 65536 in
set_option maxHeartbeats 40000000 in
theorem rm10 (l : Launch) (Z : State) (a0 : Array Value) (hw : ∀ d ∈ tables_1, d.before a0 Z = true) (ws : List Jvm.Cond) (ab : Addr) (kb : ClassId) (ch : Int32) (vs : List Value) (n : Int32) (qs : List Int32) (h0 : Heap) (n0 : Nat) (Z0 : n0 ≤ h0.size) (Vb : Arv Z h0 ab kb .byte n vs (.int 0)) (hpos : (0 : Int32) < n) (hM : own_I l Z (⟨"java/lang/StringLatin1", "indexOfChar", "([BIII)I"⟩ : MethodName) jdk_43_method_23_code 6 ({ frames := 0, cells := 0, slots := 0, locals := 0 } : Room) #[(.ref ab), (.int ch), (.int 0), (.int n)] h0 n0 ch qs) (hc : ch = 42 ∨ ch = 63) :
    MetFree l (⟨"java/lang/StringLatin1", "indexOf", "([BIII)I"⟩ : MethodName) (head1 (Jvm.Cond.code (⟨"java/lang/StringLatin1", "indexOf", "([BIII)I"⟩ : MethodName) jdk_43_method_22_code 4 (some .int) :: ws) ({ frames := 1, cells := 0, slots := 0, locals := 17 } : Room)) (fun a U => a = #[(.ref ab), (.int ch), (.int 0), (.int n)] ∧ Z.Warmed39 U.vm ∧ U.heap = h0) (fun _ _ _ _ _ => True) (fun _ U o U' => ∃ v L, o = .returned v ∧ Q10 Z ab kb ch vs n qs h0 n0 v U'.heap L ∧ FrameEnd U o U' L ({ frames := 1, cells := 0, slots := 0, locals := 17 } : Room).cells ({ frames := 1, cells := 0, slots := 0, locals := 17 } : Room).slots) := by
  refine MetFree.of_bodySF (plainFor_of_name pn_5) hisR ?_
  intro p e s m args below meth c s₁ Bd hml0 hP hK
  obtain ⟨rfl, hZ, hh⟩ := hP
  have hx := Bd.exec
  have hby := Bd.bytes
  have hml : c.maxLocals = 4 := hml0
  have hown : s.vm.findClass "java/lang/StringLatin1" = some m.cls := findClass_of_methodNamed Bd.named
  have hnm := (name_of_methodNamed Bd.named Bd.method).1
  have X0 : Stand p l e ({ frames := 1, cells := 0, slots := 0, locals := 17 } : Room) s m #[(.ref ab), (.int ch), (.int 0), (.int n)] below meth c s₁ [] 0 0 := Stand.of_body Bd
  have e0 : s₁.heap = h0 := by rw [← hh, Bd.state]; rfl
  have N0 := Fr.nil n0
  have pre0 : ∀ t, At p e below s₁ m 0 #[vR ab, vI ch, vI 0, vI n] [] t → Steps p.tables e below (s₁.setTop (entryFrame m #[(.ref ab), (.int ch), (.int 0), (.int n)] 4)) t := fun t k => castTop (ef_10 m ab ch n) k
  have pre1 := fun t (kt : At p e below s₁ m 1 #[vR ab, vI ch, vI 0, vI n] [(.int ch)] t) => pre0 t (by
    show At p e below s₁ m 0 #[vR ab, vI ch, vI 0, vI n] [] _
    refine XS.iloadN X0.here hx rfl (hb hby d10_0) rfl ?_
    exact kt)
  obtain ⟨_, _, ⟨T2, L2, kc2, nc2⟩, -, X2, ⟨Lc2, hQ2, l2, y2, z2⟩, st2⟩ := Jvm.LawKit.callS X0 hx (y := (⟨"java/lang/StringLatin1", "canEncode", "(I)Z"⟩ : MethodName)) hown (mvT hZ (wd hw 58 rfl)) (mvT hZ (wd hw 59 rfl)) (mvT hZ (wd hw 56 rfl)) (mvT hZ (wd hw 60 rfl)) (by decide) (backOf (W := 0) (rm11 l Z a0 hw [] ch h0 n0 Z0 hc) hZ (wd hw 60 rfl) (wd hw 56 rfl) (by decide) (by decide)) (g := (mkF m 1 #[vR ab, vI ch, vI 0, vI n] [(.int ch)])) rfl (by rw [hml]; rfl) (argsL := [(.int ch)]) (rest := []) (lenOf pd_9 rfl) rfl (by show 2 * 0 + _ ≤ _; exact Nat.le_of_eq rfl) (hb hby d10_1) (fun _ _ => ⟨rfl, e0, (by decide : 0 + 0 ≤ _), (by decide : 0 + 0 ≤ _)⟩)
  dsimp only [Pt.U, Pt.locs, Pt.cells, Pt.slots] at X2 l2 y2 z2 st2 hQ2
  subst l2 y2 z2
  obtain ⟨rfl, N2q, he2⟩ := hQ2
  have N2 := Fr.app N0 N2q
  have pre3 := fun t (kt : At p e below T2 m 4 #[vR ab, vI ch, vI 0, vI n] [(.int 1)] t) => pre1 t (st2 _ kt)
  have pre4 := fun t (kt : At p e below T2 m 11 #[vR ab, vI ch, vI 0, vI n] [(.int 0), (.int 0)] t) => pre3 t (by
    show At p e below T2 m 4 #[vR ab, vI ch, vI 0, vI n] [(.int 1)] _
    refine XS.ifYes X2.here hx rfl (pc0 := 4) (pc' := 9) rfl (hb hby d10_4) rfl ((if0 _ _).trans (feq (by decide : ¬ ((1 : Int32) = (0 : Int32)))).2) (by decide) (by decide) ?_
    show At p e below T2 m 9 #[vR ab, vI ch, vI 0, vI n] [] _
    refine XS.iloadN X2.here hx rfl (hb hby d10_9) rfl ?_
    show At p e below T2 m 10 #[vR ab, vI ch, vI 0, vI n] [(.int 0)] _
    refine XS.iconst X2.here hx rfl (hb hby d10_10) ?_
    exact kt)
  obtain ⟨_, _, ⟨T5, L5, kc5, nc5⟩, -, X5, ⟨Lc5, hQ5, l5, y5, z5⟩, st5⟩ := Jvm.LawKit.callS X2 hx (y := (⟨"java/lang/Math", "max", "(II)I"⟩ : MethodName)) hown (mvT hZ (wd hw 61 rfl)) (mvT hZ (wd hw 62 rfl)) (mvT hZ (wd hw 63 rfl)) (mvT hZ (wd hw 64 rfl)) (by decide) (backOf (W := 0) (rm12 l Z a0 hw [] (0 : Int32) (0 : Int32) h0 n0 Z0) hZ (wd hw 64 rfl) (wd hw 63 rfl) (by decide) (by decide)) (g := (mkF m 11 #[vR ab, vI ch, vI 0, vI n] [(.int 0), (.int 0)])) rfl (by rw [hml]; rfl) (argsL := [(.int 0), (.int 0)]) (rest := []) (lenOf pd_10 rfl) rfl (by show 2 * 0 + _ ≤ _; exact Nat.le_of_eq rfl) (hb hby d10_11) (fun _ _ => ⟨rfl, he2, (by decide : 0 + 0 ≤ _), (by decide : 0 + 0 ≤ _)⟩)
  dsimp only [Pt.U, Pt.locs, Pt.cells, Pt.slots] at X5 l5 y5 z5 st5 hQ5
  subst l5 y5 z5
  obtain ⟨rfl, N5q, he5⟩ := hQ5
  have N5 := Fr.app N2 N5q
  have pre6 := fun t (kt : At p e below T5 m 14 #[vR ab, vI ch, vI 0, vI n] [(.int (own_max (0 : Int32) (0 : Int32)))] t) => pre4 t (st5 _ kt)
  have pre7 := fun t (kt : At p e below T5 m 17 #[vR ab, vI ch, vI 0, vI n] [(.ref ab), (.int n)] t) => pre6 t (by
    show At p e below T5 m 14 #[vR ab, vI ch, vI 0, vI n] [(.int (own_max (0 : Int32) (0 : Int32)))] _
    rw [show (own_max (0 : Int32) (0 : Int32)) = (0 : Int32) from by decide]
    show At p e below T5 m 14 #[vR ab, vI ch, vI 0, vI n] [(.int 0)] _
    refine XS.istoreN X5.here hx rfl (hb hby d10_14) rfl (l' := #[vR ab, vI ch, vI 0, vI n]) rfl ?_
    show At p e below T5 m 15 #[vR ab, vI ch, vI 0, vI n] [] _
    refine XS.iloadN X5.here hx rfl (hb hby d10_15) rfl ?_
    show At p e below T5 m 16 #[vR ab, vI ch, vI 0, vI n] [(.int n)] _
    refine XS.aloadN X5.here hx rfl (hb hby d10_16) rfl rfl ?_
    exact kt)
  obtain ⟨cl8, Ar8, qk8, Sz8, Nn8, Hh8, Gg8⟩ := id Vb
  have pre9 := fun t (kt : At p e below T5 m 18 #[vR ab, vI ch, vI 0, vI n] [(.int n), (.int n)] t) => pre7 t (by
    show At p e below T5 m 17 #[vR ab, vI ch, vI 0, vI n] [(.ref ab), (.int n)] _
    refine X5.arraylength hx (by rw [he5]; exact Ar8.1) (State.isArrayOf_alike hZ.alike Ar8.2.1) (g := (mkF m 17 #[vR ab, vI ch, vI 0, vI n] [(.ref ab), (.int n)])) rfl rfl (hb hby d10_17) _ ?_
    rw [len_of Sz8 Nn8]
    exact kt)
  obtain ⟨_, _, ⟨T10, L10, kc10, nc10⟩, -, X10, ⟨Lc10, hQ10, l10, y10, z10⟩, st10⟩ := Jvm.LawKit.callS X5 hx (y := (⟨"java/lang/Math", "min", "(II)I"⟩ : MethodName)) hown (mvT hZ (wd hw 65 rfl)) (mvT hZ (wd hw 66 rfl)) (mvT hZ (wd hw 63 rfl)) (mvT hZ (wd hw 67 rfl)) (by decide) (backOf (W := 0) (rm13 l Z a0 hw [] n n h0 n0 Z0) hZ (wd hw 67 rfl) (wd hw 63 rfl) (by decide) (by decide)) (g := (mkF m 18 #[vR ab, vI ch, vI 0, vI n] [(.int n), (.int n)])) rfl (by rw [hml]; rfl) (argsL := [(.int n), (.int n)]) (rest := []) (lenOf pd_10 rfl) rfl (by show 2 * 0 + _ ≤ _; exact Nat.le_of_eq rfl) (hb hby d10_18) (fun _ _ => ⟨rfl, he5, (by decide : 0 + 0 ≤ _), (by decide : 0 + 0 ≤ _)⟩)
  dsimp only [Pt.U, Pt.locs, Pt.cells, Pt.slots] at X10 l10 y10 z10 st10 hQ10
  subst l10 y10 z10
  obtain ⟨rfl, N10q, he10⟩ := hQ10
  have N10 := Fr.app N5 N10q
  have pre11 := fun t (kt : At p e below T10 m 21 #[vR ab, vI ch, vI 0, vI n] [(.int (own_min n n))] t) => pre9 t (st10 _ kt)
  have pre12 := fun t (kt : At p e below T10 m 33 #[vR ab, vI ch, vI 0, vI n] [(.int n), (.int 0), (.int ch), (.ref ab)] t) => pre11 t (by
    show At p e below T10 m 21 #[vR ab, vI ch, vI 0, vI n] [(.int (own_min n n))] _
    rw [show (own_min n n) = n from own_minS n]
    show At p e below T10 m 21 #[vR ab, vI ch, vI 0, vI n] [(.int n)] _
    refine XS.istoreN X10.here hx rfl (hb hby d10_21) rfl (l' := #[vR ab, vI ch, vI 0, vI n]) rfl ?_
    show At p e below T10 m 22 #[vR ab, vI ch, vI 0, vI n] [] _
    refine XS.iloadN X10.here hx rfl (hb hby d10_22) rfl ?_
    show At p e below T10 m 23 #[vR ab, vI ch, vI 0, vI n] [(.int 0)] _
    refine XS.iloadN X10.here hx rfl (hb hby d10_23) rfl ?_
    show At p e below T10 m 24 #[vR ab, vI ch, vI 0, vI n] [(.int n), (.int 0)] _
    refine XS.icmpYes X10.here hx rfl (pc0 := 24) (pc' := 29) rfl (hb hby d10_24) rfl (tlt (hpos : (0 : Int32) < n)).1 (by decide) (by decide) ?_
    show At p e below T10 m 29 #[vR ab, vI ch, vI 0, vI n] [] _
    refine XS.aloadN X10.here hx rfl (hb hby d10_29) rfl rfl ?_
    show At p e below T10 m 30 #[vR ab, vI ch, vI 0, vI n] [(.ref ab)] _
    refine XS.iloadN X10.here hx rfl (hb hby d10_30) rfl ?_
    show At p e below T10 m 31 #[vR ab, vI ch, vI 0, vI n] [(.int ch), (.ref ab)] _
    refine XS.iloadN X10.here hx rfl (hb hby d10_31) rfl ?_
    show At p e below T10 m 32 #[vR ab, vI ch, vI 0, vI n] [(.int 0), (.int ch), (.ref ab)] _
    refine XS.iloadN X10.here hx rfl (hb hby d10_32) rfl ?_
    exact kt)
  obtain ⟨_, _, ⟨T13, L13, kc13, nc13⟩, -, X13, ⟨Lc13, hQ13, l13, y13, z13⟩, st13⟩ := Jvm.LawKit.callS X10 hx (y := (⟨"java/lang/StringLatin1", "indexOfChar", "([BIII)I"⟩ : MethodName)) hown (mvT hZ (wd hw 82 rfl)) (mvT hZ (wd hw 83 rfl)) (mvT hZ (wd hw 56 rfl)) (mvT hZ (wd hw 84 rfl)) (by decide) (backOf (W := 0) (hM) hZ (wd hw 84 rfl) (wd hw 56 rfl) (by decide) (by decide)) (g := (mkF m 33 #[vR ab, vI ch, vI 0, vI n] [(.int n), (.int 0), (.int ch), (.ref ab)])) rfl (by rw [hml]; rfl) (argsL := [(.ref ab), (.int ch), (.int 0), (.int n)]) (rest := []) (lenOf pd_11 rfl) rfl (by show 2 * 0 + _ ≤ _; exact Nat.le_of_eq rfl) (hb hby d10_33) (fun _ _ => ⟨rfl, he10, (by decide : 0 + 0 ≤ _), (by decide : 0 + 0 ≤ _)⟩)
  dsimp only [Pt.U, Pt.locs, Pt.cells, Pt.slots] at X13 l13 y13 z13 st13 hQ13
  subst l13 y13 z13
  obtain ⟨r13, rfl, N13q, he13, hr13⟩ := hQ13
  have N13 := Fr.app N10 N13q
  have pre14 := fun t (kt : At p e below T13 m 36 #[vR ab, vI ch, vI 0, vI n] [(.int r13)] t) => pre12 t (st13 _ kt)
  obtain ⟨fs, hr, hrun, hended, hW, hsame⟩ := X13.leave (v := (some (.int r13))) (fun h => by rw [Bd.returns] at h; cases h)
  refine ⟨_, _, pre14 _ ?_, hrun, hended, _, _, rfl, ?_, ⟨_, rfl⟩, hW, hsame.mono (by decide) (by decide)⟩
  · show At p e below T13 m 36 #[vR ab, vI ch, vI 0, vI n] [(.int r13)] _
    exact retI X13 hx Bd.returns (hb hby d10_36) hr
  · show Q10 Z ab kb ch vs n qs h0 n0 _ T13.heap _
    rw [he13]
    exact ⟨_, rfl, N13, rfl, hr13⟩
theorem ef_27 (m : MethodId) (ab : Addr) : entryFrame m #[(.ref ab)] 1 = (mkF m 0 #[vR ab] []) := by first | (simp [entryFrame, mkF, argsToLocals, Value.category]; done) | rfl
theorem d27_0 : decode jdk_52_method_6_code 0 = .ok (.aload_n 0, 1) := by decide +kernel
theorem d27_1 : decode jdk_52_method_6_code 1 = .ok (.arraylength, 1) := by decide +kernel
theorem d27_2 : decode jdk_52_method_6_code 2 = .ok (.iconst 1, 1) := by decide +kernel
theorem d27_3 : decode jdk_52_method_6_code 3 = .ok (.ishr, 1) := by decide +kernel
theorem d27_4 : decode jdk_52_method_6_code 4 = .ok (.ireturn, 1) := by decide +kernel
def Q27 (Z : State) (ab : Addr) (kb : ClassId) (vs : List Value) (z : Int32) (n : Int32) (h0 : Heap) (n0 : Nat) (v : Option Value) (h : Heap) (L : List Loc) : Prop := v = some (.int n) ∧ Fr n0 L ∧ h = h0
set_option maxRecDepth 65536 in
set_option maxHeartbeats 40000000 in
theorem rm27 (l : Launch) (Z : State) (a0 : Array Value) (hw : ∀ d ∈ tables_1, d.before a0 Z = true) (ws : List Jvm.Cond) (ab : Addr) (kb : ClassId) (vs : List Value) (z : Int32) (n : Int32) (h0 : Heap) (n0 : Nat) (Z0 : n0 ≤ h0.size) (Vb : Arv Z h0 ab kb .byte z vs (.int 0)) (hz : (z >>> ((1 : Int32) &&& 31)) = n) :
    MetFree l (⟨"java/lang/StringUTF16", "length", "([B)I"⟩ : MethodName) (head1 (Jvm.Cond.code (⟨"java/lang/StringUTF16", "length", "([B)I"⟩ : MethodName) jdk_52_method_6_code 1 (some .int) :: ws) ({ frames := 0, cells := 0, slots := 0, locals := 0 } : Room)) (fun a U => a = #[(.ref ab)] ∧ Z.Warmed39 U.vm ∧ U.heap = h0) (fun _ _ _ _ _ => True) (fun _ U o U' => ∃ v L, o = .returned v ∧ Q27 Z ab kb vs z n h0 n0 v U'.heap L ∧ FrameEnd U o U' L ({ frames := 0, cells := 0, slots := 0, locals := 0 } : Room).cells ({ frames := 0, cells := 0, slots := 0, locals := 0 } : Room).slots) := by
  refine MetFree.of_bodySF (plainFor_of_name pn_3) hisR ?_
  intro p e s m args below meth c s₁ Bd hml0 hP hK
  obtain ⟨rfl, hZ, hh⟩ := hP
  have hx := Bd.exec
  have hby := Bd.bytes
  have hml : c.maxLocals = 1 := hml0
  have hown : s.vm.findClass "java/lang/StringUTF16" = some m.cls := findClass_of_methodNamed Bd.named
  have hnm := (name_of_methodNamed Bd.named Bd.method).1
  have X0 : Stand p l e ({ frames := 0, cells := 0, slots := 0, locals := 0 } : Room) s m #[(.ref ab)] below meth c s₁ [] 0 0 := Stand.of_body Bd
  have e0 : s₁.heap = h0 := by rw [← hh, Bd.state]; rfl
  have N0 := Fr.nil n0
  have pre0 : ∀ t, At p e below s₁ m 0 #[vR ab] [] t → Steps p.tables e below (s₁.setTop (entryFrame m #[(.ref ab)] 1)) t := fun t k => castTop (ef_27 m ab) k
  have pre1 := fun t (kt : At p e below s₁ m 1 #[vR ab] [(.ref ab)] t) => pre0 t (by
    show At p e below s₁ m 0 #[vR ab] [] _
    refine XS.aloadN X0.here hx rfl (hb hby d27_0) rfl rfl ?_
    exact kt)
  obtain ⟨cl2, Ar2, qk2, Sz2, Nn2, Hh2, Gg2⟩ := id Vb
  have pre3 := fun t (kt : At p e below s₁ m 4 #[vR ab] [(.int n)] t) => pre1 t (by
    show At p e below s₁ m 1 #[vR ab] [(.ref ab)] _
    refine X0.arraylength hx (by rw [e0]; exact Ar2.1) (State.isArrayOf_alike hZ.alike Ar2.2.1) (g := (mkF m 1 #[vR ab] [(.ref ab)])) rfl rfl (hb hby d27_1) _ ?_
    rw [len_of Sz2 Nn2]
    show At p e below s₁ m 2 #[vR ab] [(.int z)] _
    refine XS.iconst X0.here hx rfl (hb hby d27_2) ?_
    show At p e below s₁ m 3 #[vR ab] [(.int 1), (.int z)] _
    refine XS.ishr X0.here hx rfl (hb hby d27_3) rfl ?_
    show At p e below s₁ m 4 #[vR ab] [(.int (z >>> ((1 : Int32) &&& 31)))] _
    rw [show (z >>> ((1 : Int32) &&& 31)) = n from hz]
    exact kt)
  obtain ⟨fs, hr, hrun, hended, hW, hsame⟩ := X0.leave (v := (some (.int n))) (fun h => by rw [Bd.returns] at h; cases h)
  refine ⟨_, _, pre3 _ ?_, hrun, hended, _, _, rfl, ?_, ⟨_, rfl⟩, hW, hsame.mono (by decide) (by decide)⟩
  · show At p e below s₁ m 4 #[vR ab] [(.int n)] _
    exact retI X0 hx Bd.returns (hb hby d27_4) hr
  · show Q27 Z ab kb vs z n h0 n0 _ s₁.heap _
    rw [e0]
    exact ⟨rfl, N0, rfl⟩
theorem own_cat {v : Value} (h : v.isRef = true) : v.category = 1 := by rcases ref_cases h with rfl | ⟨_, rfl⟩ <;> rfl
theorem pn_6 : plainName "jdk/internal/util/Preconditions" = true := by first | (simp [plainName, overriddenIn]; done) | decide +kernel
theorem ef_29 (m : MethodId) (u : Value) (n : Int32) (h_u : u.isRef = true) : entryFrame m #[(.int 0), (.int n), (.int n), u] 4 = (mkF m 0 #[vI 0, vI n, vI n, .val u] []) := by rcases ref_cases h_u with rfl | ⟨_, rfl⟩ <;> first | (simp [entryFrame, mkF, argsToLocals, Value.category]; done) | rfl
theorem d29_0 : decode jdk_41_method_12_code 0 = .ok (.iload_n 0, 1) := by decide +kernel
theorem d29_1 : decode jdk_41_method_12_code 1 = .ok (.ifCond .lt 13, 3) := by decide +kernel
theorem d29_4 : decode jdk_41_method_12_code 4 = .ok (.iload_n 0, 1) := by decide +kernel
theorem d29_5 : decode jdk_41_method_12_code 5 = .ok (.iload_n 1, 1) := by decide +kernel
theorem d29_6 : decode jdk_41_method_12_code 6 = .ok (.if_icmp .gt 8, 3) := by decide +kernel
theorem d29_9 : decode jdk_41_method_12_code 9 = .ok (.iload_n 1, 1) := by decide +kernel
theorem d29_10 : decode jdk_41_method_12_code 10 = .ok (.iload_n 2, 1) := by decide +kernel
theorem d29_11 : decode jdk_41_method_12_code 11 = .ok (.if_icmp .le 11, 3) := by decide +kernel
theorem d29_22 : decode jdk_41_method_12_code 22 = .ok (.iload_n 0, 1) := by decide +kernel
theorem d29_23 : decode jdk_41_method_12_code 23 = .ok (.ireturn, 1) := by decide +kernel
def Q29 (Z : State) (u : Value) (n : Int32) (h0 : Heap) (n0 : Nat) (v : Option Value) (h : Heap) (L : List Loc) : Prop := v = some (.int 0) ∧ Fr n0 L ∧ h = h0
set_option maxRecDepth 65536 in
set_option maxHeartbeats 40000000 in
theorem rm29 (l : Launch) (Z : State) (a0 : Array Value) (hw : ∀ d ∈ tables_1, d.before a0 Z = true) (ws : List Jvm.Cond) (u : Value) (n : Int32) (h0 : Heap) (n0 : Nat) (Z0 : n0 ≤ h0.size) (hu : u.isRef = true) (hn : ¬ (n < (0 : Int32))) :
    MetFree l (⟨"jdk/internal/util/Preconditions", "checkFromToIndex", "(IIILjava/util/function/BiFunction;)I"⟩ : MethodName) (head1 (Jvm.Cond.code (⟨"jdk/internal/util/Preconditions", "checkFromToIndex", "(IIILjava/util/function/BiFunction;)I"⟩ : MethodName) jdk_41_method_12_code 4 (some .int) :: ws) ({ frames := 0, cells := 0, slots := 0, locals := 0 } : Room)) (fun a U => a = #[(.int 0), (.int n), (.int n), u] ∧ Z.Warmed39 U.vm ∧ U.heap = h0) (fun _ _ _ _ _ => True) (fun _ U o U' => ∃ v L, o = .returned v ∧ Q29 Z u n h0 n0 v U'.heap L ∧ FrameEnd U o U' L ({ frames := 0, cells := 0, slots := 0, locals := 0 } : Room).cells ({ frames := 0, cells := 0, slots := 0, locals := 0 } : Room).slots) := by
  refine MetFree.of_bodySF (plainFor_of_name pn_6) hisR ?_
  intro p e s m args below meth c s₁ Bd hml0 hP hK
  obtain ⟨rfl, hZ, hh⟩ := hP
  have hx := Bd.exec
  have hby := Bd.bytes
  have hml : c.maxLocals = 4 := hml0
  have hown : s.vm.findClass "jdk/internal/util/Preconditions" = some m.cls := findClass_of_methodNamed Bd.named
  have hnm := (name_of_methodNamed Bd.named Bd.method).1
  have X0 : Stand p l e ({ frames := 0, cells := 0, slots := 0, locals := 0 } : Room) s m #[(.int 0), (.int n), (.int n), u] below meth c s₁ [] 0 0 := Stand.of_body Bd
  have e0 : s₁.heap = h0 := by rw [← hh, Bd.state]; rfl
  have N0 := Fr.nil n0
  have pre0 : ∀ t, At p e below s₁ m 0 #[vI 0, vI n, vI n, .val u] [] t → Steps p.tables e below (s₁.setTop (entryFrame m #[(.int 0), (.int n), (.int n), u] 4)) t := fun t k => castTop (ef_29 m u n hu) k
  have pre1 := fun t (kt : At p e below s₁ m 23 #[vI 0, vI n, vI n, .val u] [(.int 0)] t) => pre0 t (by
    show At p e below s₁ m 0 #[vI 0, vI n, vI n, .val u] [] _
    refine XS.iloadN X0.here hx rfl (hb hby d29_0) rfl ?_
    show At p e below s₁ m 1 #[vI 0, vI n, vI n, .val u] [(.int 0)] _
    refine XS.ifNo X0.here hx rfl (hb hby d29_1) rfl ((if0 _ _).trans (flt (by decide : ¬ ((0 : Int32) < (0 : Int32)))).1) ?_
    show At p e below s₁ m 4 #[vI 0, vI n, vI n, .val u] [] _
    refine XS.iloadN X0.here hx rfl (hb hby d29_4) rfl ?_
    show At p e below s₁ m 5 #[vI 0, vI n, vI n, .val u] [(.int 0)] _
    refine XS.iloadN X0.here hx rfl (hb hby d29_5) rfl ?_
    show At p e below s₁ m 6 #[vI 0, vI n, vI n, .val u] [(.int n), (.int 0)] _
    refine XS.icmpNo X0.here hx rfl (hb hby d29_6) rfl (flt (hn : ¬ (n < (0 : Int32)))).2.2.1 ?_
    show At p e below s₁ m 9 #[vI 0, vI n, vI n, .val u] [] _
    refine XS.iloadN X0.here hx rfl (hb hby d29_9) rfl ?_
    show At p e below s₁ m 10 #[vI 0, vI n, vI n, .val u] [(.int n)] _
    refine XS.iloadN X0.here hx rfl (hb hby d29_10) rfl ?_
    show At p e below s₁ m 11 #[vI 0, vI n, vI n, .val u] [(.int n), (.int n)] _
    refine XS.icmpYes X0.here hx rfl (pc0 := 11) (pc' := 22) rfl (hb hby d29_11) rfl (flt ((own_irr n) : ¬ (n < n))).2.2.2 (by decide) (by decide) ?_
    show At p e below s₁ m 22 #[vI 0, vI n, vI n, .val u] [] _
    refine XS.iloadN X0.here hx rfl (hb hby d29_22) rfl ?_
    exact kt)
  obtain ⟨fs, hr, hrun, hended, hW, hsame⟩ := X0.leave (v := (some (.int 0))) (fun h => by rw [Bd.returns] at h; cases h)
  refine ⟨_, _, pre1 _ ?_, hrun, hended, _, _, rfl, ?_, ⟨_, rfl⟩, hW, hsame.mono (by decide) (by decide)⟩
  · show At p e below s₁ m 23 #[vI 0, vI n, vI n, .val u] [(.int 0)] _
    exact retI X0 hx Bd.returns (hb hby d29_23) hr
  · show Q29 Z u n h0 n0 _ s₁.heap _
    rw [e0]
    exact ⟨rfl, N0, rfl⟩
theorem ef_28 (m : MethodId) (n : Int32) : entryFrame m #[(.int 0), (.int n), (.int n)] 3 = (mkF m 0 #[vI 0, vI n, vI n] []) := by first | (simp [entryFrame, mkF, argsToLocals, Value.category]; done) | rfl
theorem d28_0 : decode jdk_42_method_158_code 0 = .ok (.iload_n 0, 1) := by decide +kernel
theorem d28_1 : decode jdk_42_method_158_code 1 = .ok (.iload_n 1, 1) := by decide +kernel
theorem d28_2 : decode jdk_42_method_158_code 2 = .ok (.iload_n 2, 1) := by decide +kernel
theorem d28_3 : decode jdk_42_method_158_code 3 = .ok (.getstatic 1053, 3) := by decide +kernel
theorem pd_12 : parseMethodDescriptor "(IIILjava/util/function/BiFunction;)I" = some ⟨[.int, .int, .int, (.object "java/util/function/BiFunction")], some .int⟩ := by decide +kernel
theorem d28_6 : decode jdk_42_method_158_code 6 = .ok (.invokestatic 1062, 3) := by decide +kernel
theorem d28_9 : decode jdk_42_method_158_code 9 = .ok (.pop, 1) := by decide +kernel
theorem d28_10 : decode jdk_42_method_158_code 10 = .ok (.return_, 1) := by decide +kernel
def Q28 (Z : State) (u : Value) (n : Int32) (h0 : Heap) (n0 : Nat) (v : Option Value) (h : Heap) (L : List Loc) : Prop := v = none ∧ Fr n0 L ∧ h = h0
set_option maxRecDepth 65536 in
set_option maxHeartbeats 40000000 in
theorem rm28 (l : Launch) (Z : State) (a0 : Array Value) (hw : ∀ d ∈ tables_1, d.before a0 Z = true) (ws : List Jvm.Cond) (u : Value) (n : Int32) (h0 : Heap) (n0 : Nat) (O0 : Old Z n0 h0) (hu : u.isRef = true) (SF : Sta Z Z.heap "jdk/internal/util/Preconditions" "SIOOBE_FORMATTER" "Ljava/util/function/BiFunction;" u) (hn : ¬ (n < (0 : Int32))) :
    MetFree l (⟨"java/lang/String", "checkBoundsBeginEnd", "(III)V"⟩ : MethodName) (head1 (Jvm.Cond.code (⟨"java/lang/String", "checkBoundsBeginEnd", "(III)V"⟩ : MethodName) jdk_42_method_158_code 3 none :: ws) ({ frames := 1, cells := 0, slots := 0, locals := 15 } : Room)) (fun a U => a = #[(.int 0), (.int n), (.int n)] ∧ Z.Warmed39 U.vm ∧ U.heap = h0) (fun _ _ _ _ _ => True) (fun _ U o U' => ∃ v L, o = .returned v ∧ Q28 Z u n h0 n0 v U'.heap L ∧ FrameEnd U o U' L ({ frames := 1, cells := 0, slots := 0, locals := 15 } : Room).cells ({ frames := 1, cells := 0, slots := 0, locals := 15 } : Room).slots) := by
  refine MetFree.of_bodySF (plainFor_of_name pn_4) hisR ?_
  intro p e s m args below meth c s₁ Bd hml0 hP hK
  obtain ⟨rfl, hZ, hh⟩ := hP
  have hx := Bd.exec
  have hby := Bd.bytes
  have hml : c.maxLocals = 3 := hml0
  have hown : s.vm.findClass "java/lang/String" = some m.cls := findClass_of_methodNamed Bd.named
  have hnm := (name_of_methodNamed Bd.named Bd.method).1
  have X0 : Stand p l e ({ frames := 1, cells := 0, slots := 0, locals := 15 } : Room) s m #[(.int 0), (.int n), (.int n)] below meth c s₁ [] 0 0 := Stand.of_body Bd
  have e0 : s₁.heap = h0 := by rw [← hh, Bd.state]; rfl
  have N0 := Fr.nil n0
  have Z0 : n0 ≤ h0.size := O0.1 ▸ O0.2.1
  have pre0 : ∀ t, At p e below s₁ m 0 #[vI 0, vI n, vI n] [] t → Steps p.tables e below (s₁.setTop (entryFrame m #[(.int 0), (.int n), (.int n)] 3)) t := fun t k => castTop (ef_28 m n) k
  have pre1 := fun t (kt : At p e below s₁ m 3 #[vI 0, vI n, vI n] [(.int n), (.int n), (.int 0)] t) => pre0 t (by
    show At p e below s₁ m 0 #[vI 0, vI n, vI n] [] _
    refine XS.iloadN X0.here hx rfl (hb hby d28_0) rfl ?_
    show At p e below s₁ m 1 #[vI 0, vI n, vI n] [(.int 0)] _
    refine XS.iloadN X0.here hx rfl (hb hby d28_1) rfl ?_
    show At p e below s₁ m 2 #[vI 0, vI n, vI n] [(.int n), (.int 0)] _
    refine XS.iloadN X0.here hx rfl (hb hby d28_2) rfl ?_
    exact kt)
  obtain ⟨T2, X2, e2, st2⟩ := getS2 X0 hx hZ hown (host := "") (Or.inl (wd hw 122 rfl)) Via.refl e0 (SF.ext O0.2) (g := (mkF m 3 #[vI 0, vI n, vI n] [(.int n), (.int n), (.int 0)])) rfl (hb hby d28_3)
  have pre3 := fun t (kt : At p e below T2 m 6 #[vI 0, vI n, vI n] [u, (.int n), (.int n), (.int 0)] t) => pre1 t (st2 _ kt)
  obtain ⟨_, _, ⟨T4, L4, kc4, nc4⟩, -, X4, ⟨Lc4, hQ4, l4, y4, z4⟩, st4⟩ := Jvm.LawKit.callS X2 hx (y := (⟨"jdk/internal/util/Preconditions", "checkFromToIndex", "(IIILjava/util/function/BiFunction;)I"⟩ : MethodName)) hown (mvT hZ (wd hw 124 rfl)) (mvT hZ (wd hw 125 rfl)) (mvT hZ (wd hw 123 rfl)) (mvT hZ (wd hw 126 rfl)) (by decide) (backOf (W := 0) (rm29 l Z a0 hw [] u n h0 n0 Z0 hu hn) hZ (wd hw 126 rfl) (wd hw 123 rfl) (by decide) (by decide)) (g := (mkF m 6 #[vI 0, vI n, vI n] [u, (.int n), (.int n), (.int 0)])) rfl (by rw [hml]; rfl) (argsL := [(.int 0), (.int n), (.int n), u]) (rest := []) (lenOf pd_12 rfl) rfl (by show 2 * 0 + _ ≤ _; exact Nat.le_of_eq rfl) (hb hby d28_6) (fun _ _ => ⟨rfl, e2, (by decide : 0 + 0 ≤ _), (by decide : 0 + 0 ≤ _)⟩)
  dsimp only [Pt.U, Pt.locs, Pt.cells, Pt.slots] at X4 l4 y4 z4 st4 hQ4
  subst l4 y4 z4
  obtain ⟨rfl, N4q, he4⟩ := hQ4
  have N4 := Fr.app N0 N4q
  have pre5 := fun t (kt : At p e below T4 m 9 #[vI 0, vI n, vI n] [(.int 0)] t) => pre3 t (st4 _ kt)
  have pre6 := fun t (kt : At p e below T4 m 10 #[vI 0, vI n, vI n] [] t) => pre5 t (by
    show At p e below T4 m 9 #[vI 0, vI n, vI n] [(.int 0)] _
    refine XS.pop X4.here hx rfl (hb hby d28_9) rfl rfl ?_
    exact kt)
  obtain ⟨fs, hr, hrun, hended, hW, hsame⟩ := X4.leave (v := none) (fun _ => rfl)
  refine ⟨_, _, pre6 _ ?_, hrun, hended, _, _, rfl, ?_, ⟨_, rfl⟩, hW, hsame.mono (by decide) (by decide)⟩
  · show At p e below T4 m 10 #[vI 0, vI n, vI n] [] _
    exact X4.returnOut hx Bd.returns (hb hby d28_10) hr
  · show Q28 Z u n h0 n0 _ T4.heap _
    rw [he4]
    exact ⟨rfl, N4, rfl⟩
theorem ef_26 (m : MethodId) (ab : Addr) (n : Int32) : entryFrame m #[(.int 0), (.int n), (.ref ab)] 3 = (mkF m 0 #[vI 0, vI n, vR ab] []) := by first | (simp [entryFrame, mkF, argsToLocals, Value.category]; done) | rfl
theorem d26_0 : decode jdk_52_method_93_code 0 = .ok (.iload_n 0, 1) := by decide +kernel
theorem d26_1 : decode jdk_52_method_93_code 1 = .ok (.iload_n 1, 1) := by decide +kernel
theorem d26_2 : decode jdk_52_method_93_code 2 = .ok (.aload_n 2, 1) := by decide +kernel
theorem pd_13 : parseMethodDescriptor "([B)I" = some ⟨[(.array .byte)], some .int⟩ := by decide +kernel
theorem d26_3 : decode jdk_52_method_93_code 3 = .ok (.invokestatic 48, 3) := by decide +kernel
theorem pd_14 : parseMethodDescriptor "(III)V" = some ⟨[.int, .int, .int], none⟩ := by decide +kernel
theorem d26_6 : decode jdk_52_method_93_code 6 = .ok (.invokestatic 241, 3) := by decide +kernel
theorem d26_9 : decode jdk_52_method_93_code 9 = .ok (.return_, 1) := by decide +kernel
def Q26 (Z : State) (u : Value) (ab : Addr) (kb : ClassId) (vs : List Value) (z : Int32) (n : Int32) (h0 : Heap) (n0 : Nat) (v : Option Value) (h : Heap) (L : List Loc) : Prop := v = none ∧ Fr n0 L ∧ h = h0
set_option maxRecDepth 65536 in
set_option maxHeartbeats 40000000 in
theorem rm26 (l : Launch) (Z : State) (a0 : Array Value) (hw : ∀ d ∈ tables_1, d.before a0 Z = true) (ws : List Jvm.Cond) (u : Value) (ab : Addr) (kb : ClassId) (vs : List Value) (z : Int32) (n : Int32) (h0 : Heap) (n0 : Nat) (O0 : Old Z n0 h0) (hu : u.isRef = true) (SF : Sta Z Z.heap "jdk/internal/util/Preconditions" "SIOOBE_FORMATTER" "Ljava/util/function/BiFunction;" u) (Vb : Arv Z h0 ab kb .byte z vs (.int 0)) (hz : (z >>> ((1 : Int32) &&& 31)) = n) (hn : ¬ (n < (0 : Int32))) :
    MetFree l (⟨"java/lang/StringUTF16", "checkBoundsBeginEnd", "(II[B)V"⟩ : MethodName) (head1 (Jvm.Cond.code (⟨"java/lang/StringUTF16", "checkBoundsBeginEnd", "(II[B)V"⟩ : MethodName) jdk_52_method_93_code 3 none :: ws) ({ frames := 2, cells := 0, slots := 0, locals := 29 } : Room)) (fun a U => a = #[(.int 0), (.int n), (.ref ab)] ∧ Z.Warmed39 U.vm ∧ U.heap = h0) (fun _ _ _ _ _ => True) (fun _ U o U' => ∃ v L, o = .returned v ∧ Q26 Z u ab kb vs z n h0 n0 v U'.heap L ∧ FrameEnd U o U' L ({ frames := 2, cells := 0, slots := 0, locals := 29 } : Room).cells ({ frames := 2, cells := 0, slots := 0, locals := 29 } : Room).slots) := by
  refine MetFree.of_bodySF (plainFor_of_name pn_3) hisR ?_
  intro p e s m args below meth c s₁ Bd hml0 hP hK
  obtain ⟨rfl, hZ, hh⟩ := hP
  have hx := Bd.exec
  have hby := Bd.bytes
  have hml : c.maxLocals = 3 := hml0
  have hown : s.vm.findClass "java/lang/StringUTF16" = some m.cls := findClass_of_methodNamed Bd.named
  have hnm := (name_of_methodNamed Bd.named Bd.method).1
  have X0 : Stand p l e ({ frames := 2, cells := 0, slots := 0, locals := 29 } : Room) s m #[(.int 0), (.int n), (.ref ab)] below meth c s₁ [] 0 0 := Stand.of_body Bd
  have e0 : s₁.heap = h0 := by rw [← hh, Bd.state]; rfl
  have N0 := Fr.nil n0
  have Z0 : n0 ≤ h0.size := O0.1 ▸ O0.2.1
  have pre0 : ∀ t, At p e below s₁ m 0 #[vI 0, vI n, vR ab] [] t → Steps p.tables e below (s₁.setTop (entryFrame m #[(.int 0), (.int n), (.ref ab)] 3)) t := fun t k => castTop (ef_26 m ab n) k
  have pre1 := fun t (kt : At p e below s₁ m 3 #[vI 0, vI n, vR ab] [(.ref ab), (.int n), (.int 0)] t) => pre0 t (by
    show At p e below s₁ m 0 #[vI 0, vI n, vR ab] [] _
    refine XS.iloadN X0.here hx rfl (hb hby d26_0) rfl ?_
    show At p e below s₁ m 1 #[vI 0, vI n, vR ab] [(.int 0)] _
    refine XS.iloadN X0.here hx rfl (hb hby d26_1) rfl ?_
    show At p e below s₁ m 2 #[vI 0, vI n, vR ab] [(.int n), (.int 0)] _
    refine XS.aloadN X0.here hx rfl (hb hby d26_2) rfl rfl ?_
    exact kt)
  obtain ⟨_, _, ⟨T2, L2, kc2, nc2⟩, -, X2, ⟨Lc2, hQ2, l2, y2, z2⟩, st2⟩ := Jvm.LawKit.callS X0 hx (y := (⟨"java/lang/StringUTF16", "length", "([B)I"⟩ : MethodName)) hown (mvT hZ (wd hw 116 rfl)) (mvT hZ (wd hw 117 rfl)) (mvT hZ (wd hw 70 rfl)) (mvT hZ (wd hw 118 rfl)) (by decide) (backOf (W := 2) (rm27 l Z a0 hw [] ab kb vs z n h0 n0 Z0 Vb hz) hZ (wd hw 118 rfl) (wd hw 70 rfl) (by decide) (by decide)) (g := (mkF m 3 #[vI 0, vI n, vR ab] [(.ref ab), (.int n), (.int 0)])) rfl (by rw [hml]; rfl) (argsL := [(.ref ab)]) (rest := [(.int n), (.int 0)]) (lenOf pd_13 rfl) rfl (by show 2 * 0 + _ ≤ _; exact Nat.le_of_eq rfl) (hb hby d26_3) (fun _ _ => ⟨rfl, e0, (by decide : 0 + 0 ≤ _), (by decide : 0 + 0 ≤ _)⟩)
  dsimp only [Pt.U, Pt.locs, Pt.cells, Pt.slots] at X2 l2 y2 z2 st2 hQ2
  subst l2 y2 z2
  obtain ⟨rfl, N2q, he2⟩ := hQ2
  have N2 := Fr.app N0 N2q
  have pre3 := fun t (kt : At p e below T2 m 6 #[vI 0, vI n, vR ab] [(.int n), (.int n), (.int 0)] t) => pre1 t (st2 _ kt)
  obtain ⟨_, _, ⟨T4, L4, kc4, nc4⟩, -, X4, ⟨Lc4, hQ4, l4, y4, z4⟩, st4⟩ := Jvm.LawKit.callS X2 hx (y := (⟨"java/lang/String", "checkBoundsBeginEnd", "(III)V"⟩ : MethodName)) hown (mvT hZ (wd hw 119 rfl)) (mvT hZ (wd hw 120 rfl)) (mvT hZ (wd hw 5 rfl)) (mvT hZ (wd hw 121 rfl)) (by decide) (backOf (W := 0) (rm28 l Z a0 hw [] u n h0 n0 O0 hu SF hn) hZ (wd hw 121 rfl) (wd hw 5 rfl) (by decide) (by decide)) (g := (mkF m 6 #[vI 0, vI n, vR ab] [(.int n), (.int n), (.int 0)])) rfl (by rw [hml]; rfl) (argsL := [(.int 0), (.int n), (.int n)]) (rest := []) (lenOf pd_14 rfl) rfl (by show 2 * 0 + _ ≤ _; exact Nat.le_of_eq rfl) (hb hby d26_6) (fun _ _ => ⟨rfl, he2, (by decide : 0 + 0 ≤ _), (by decide : 0 + 0 ≤ _)⟩)
  dsimp only [Pt.U, Pt.locs, Pt.cells, Pt.slots] at X4 l4 y4 z4 st4 hQ4
  subst l4 y4 z4
  obtain ⟨rfl, N4q, he4⟩ := hQ4
  have N4 := Fr.app N2 N4q
  have pre5 := fun t (kt : At p e below T4 m 9 #[vI 0, vI n, vR ab] [] t) => pre3 t (st4 _ kt)
  obtain ⟨fs, hr, hrun, hended, hW, hsame⟩ := X4.leave (v := none) (fun _ => rfl)
  refine ⟨_, _, pre5 _ ?_, hrun, hended, _, _, rfl, ?_, ⟨_, rfl⟩, hW, hsame.mono (by decide) (by decide)⟩
  · show At p e below T4 m 9 #[vI 0, vI n, vR ab] [] _
    exact X4.returnOut hx Bd.returns (hb hby d26_9) hr
  · show Q26 Z u ab kb vs z n h0 n0 _ T4.heap _
    rw [he4]
    exact ⟨rfl, N4, rfl⟩
theorem ef_30_1 (m : MethodId) (ab : Addr) (ch : Int32) : entryFrame m #[(.ref ab), (.int ch), (.int 0), (.int 1)] 5 = (mkF m 0 #[vR ab, vI ch, vI 0, vI 1, vU] []) := by first | (simp [entryFrame, mkF, argsToLocals, Value.category]; done) | rfl
theorem d30_0 : decode jdk_52_method_48_code 0 = .ok (.iload_n 2, 1) := by decide +kernel
theorem d30_1 : decode jdk_52_method_48_code 1 = .ok (.istore 4, 2) := by decide +kernel
theorem d30_3 : decode jdk_52_method_48_code 3 = .ok (.iload 4, 2) := by decide +kernel
theorem d30_5 : decode jdk_52_method_48_code 5 = .ok (.iload_n 3, 1) := by decide +kernel
theorem d30_6 : decode jdk_52_method_48_code 6 = .ok (.if_icmp .ge 22, 3) := by decide +kernel
theorem d30_9 : decode jdk_52_method_48_code 9 = .ok (.aload_n 0, 1) := by decide +kernel
theorem d30_10 : decode jdk_52_method_48_code 10 = .ok (.iload 4, 2) := by decide +kernel
theorem d30_12 : decode jdk_52_method_48_code 12 = .ok (.invokestatic 71, 3) := by decide +kernel
theorem d30_15 : decode jdk_52_method_48_code 15 = .ok (.iload_n 1, 1) := by decide +kernel
theorem d30_16 : decode jdk_52_method_48_code 16 = .ok (.if_icmp .ne 6, 3) := by decide +kernel
theorem d30_19 : decode jdk_52_method_48_code 19 = .ok (.iload 4, 2) := by decide +kernel
theorem d30_21 : decode jdk_52_method_48_code 21 = .ok (.ireturn, 1) := by decide +kernel
theorem d30_22 : decode jdk_52_method_48_code 22 = .ok (.iinc 4 1, 3) := by decide +kernel
theorem d30_25 : decode jdk_52_method_48_code 25 = .ok (.goto (-22), 3) := by decide +kernel
theorem d30_28 : decode jdk_52_method_48_code 28 = .ok (.iconst (-1), 1) := by decide +kernel
theorem d30_29 : decode jdk_52_method_48_code 29 = .ok (.ireturn, 1) := by decide +kernel
def Q30_1 (Z : State) (ab : Addr) (kb : ClassId) (ch : Int32) (q1 : Int32) (h0 : Heap) (n0 : Nat) (v : Option Value) (h : Heap) (L : List Loc) : Prop := ∃ r : Int32, v = some (.int r) ∧ Fr n0 L ∧ h = h0 ∧ (¬ (r < (0 : Int32)) ↔ ch ∈ [q1])
set_option maxRecDepth 65536 in
set_option maxHeartbeats 40000000 in
theorem rm30_1 (l : Launch) (Z : State) (a0 : Array Value) (hw : ∀ d ∈ tables_1, d.before a0 Z = true) (ws : List Jvm.Cond) (ab : Addr) (kb : ClassId) (ch : Int32) (q1 : Int32) (h0 : Heap) (n0 : Nat) (O0 : Old Z n0 h0) (SA : Sta Z Z.heap "java/lang/StringUTF16" "$assertionsDisabled" "Z" (.int 1)) (SH : Sta Z Z.heap "java/lang/StringUTF16" "HI_BYTE_SHIFT" "I" (.int 0)) (SL : Sta Z Z.heap "java/lang/StringUTF16" "LO_BYTE_SHIFT" "I" (.int 8)) (Vb : Arv Z h0 ab kb .byte (2 : Int32) [(.int (nar .byte ((q1 >>> ((0 : Int32) &&& 31)).toInt8.toInt32))), (.int (nar .byte ((q1 >>> ((8 : Int32) &&& 31)).toInt8.toInt32)))] (.int 0)) (R1 : own_R q1) :
    MetFree l (⟨"java/lang/StringUTF16", "indexOfCharUnsafe", "([BIII)I"⟩ : MethodName) (head1 (Jvm.Cond.code (⟨"java/lang/StringUTF16", "indexOfCharUnsafe", "([BIII)I"⟩ : MethodName) jdk_52_method_48_code 5 (some .int) :: ws) ({ frames := 1, cells := 0, slots := 0, locals := 13 } : Room)) (fun a U => a = #[(.ref ab), (.int ch), (.int 0), (.int 1)] ∧ Z.Warmed39 U.vm ∧ U.heap = h0) (fun _ _ _ _ _ => True) (fun _ U o U' => ∃ v L, o = .returned v ∧ Q30_1 Z ab kb ch q1 h0 n0 v U'.heap L ∧ FrameEnd U o U' L ({ frames := 1, cells := 0, slots := 0, locals := 13 } : Room).cells ({ frames := 1, cells := 0, slots := 0, locals := 13 } : Room).slots) := by
  refine MetFree.of_bodySF (plainFor_of_name pn_3) hisR ?_
  intro p e s m args below meth c s₁ Bd hml0 hP hK
  obtain ⟨rfl, hZ, hh⟩ := hP
  have hx := Bd.exec
  have hby := Bd.bytes
  have hml : c.maxLocals = 5 := hml0
  have hown : s.vm.findClass "java/lang/StringUTF16" = some m.cls := findClass_of_methodNamed Bd.named
  have hnm := (name_of_methodNamed Bd.named Bd.method).1
  have X0 : Stand p l e ({ frames := 1, cells := 0, slots := 0, locals := 13 } : Room) s m #[(.ref ab), (.int ch), (.int 0), (.int 1)] below meth c s₁ [] 0 0 := Stand.of_body Bd
  have e0 : s₁.heap = h0 := by rw [← hh, Bd.state]; rfl
  have N0 := Fr.nil n0
  have Z0 : n0 ≤ h0.size := O0.1 ▸ O0.2.1
  have pre0 : ∀ t, At p e below s₁ m 0 #[vR ab, vI ch, vI 0, vI 1, vU] [] t → Steps p.tables e below (s₁.setTop (entryFrame m #[(.ref ab), (.int ch), (.int 0), (.int 1)] 5)) t := fun t k => castTop (ef_30_1 m ab ch) k
  have pre1 := fun t (kt : At p e below s₁ m 12 #[vR ab, vI ch, vI 0, vI 1, vI 0] [(.int 0), (.ref ab)] t) => pre0 t (by
    show At p e below s₁ m 0 #[vR ab, vI ch, vI 0, vI 1, vU] [] _
    refine XS.iloadN X0.here hx rfl (hb hby d30_0) rfl ?_
    show At p e below s₁ m 1 #[vR ab, vI ch, vI 0, vI 1, vU] [(.int 0)] _
    refine XS.istore X0.here hx rfl (hb hby d30_1) rfl (l' := #[vR ab, vI ch, vI 0, vI 1, vI 0]) rfl ?_
    show At p e below s₁ m 3 #[vR ab, vI ch, vI 0, vI 1, vI 0] [] _
    refine XS.iload X0.here hx rfl (hb hby d30_3) rfl ?_
    show At p e below s₁ m 5 #[vR ab, vI ch, vI 0, vI 1, vI 0] [(.int 0)] _
    refine XS.iloadN X0.here hx rfl (hb hby d30_5) rfl ?_
    show At p e below s₁ m 6 #[vR ab, vI ch, vI 0, vI 1, vI 0] [(.int 1), (.int 0)] _
    refine XS.icmpNo X0.here hx rfl (hb hby d30_6) rfl (tlt (by decide : (0 : Int32) < (1 : Int32))).2.1 ?_
    show At p e below s₁ m 9 #[vR ab, vI ch, vI 0, vI 1, vI 0] [] _
    refine XS.aloadN X0.here hx rfl (hb hby d30_9) rfl rfl ?_
    show At p e below s₁ m 10 #[vR ab, vI ch, vI 0, vI 1, vI 0] [(.ref ab)] _
    refine XS.iload X0.here hx rfl (hb hby d30_10) rfl ?_
    exact kt)
  obtain ⟨_, _, ⟨T2, L2, kc2, nc2⟩, -, X2, ⟨Lc2, hQ2, l2, y2, z2⟩, st2⟩ := Jvm.LawKit.callS X0 hx (y := (⟨"java/lang/StringUTF16", "getChar", "([BI)C"⟩ : MethodName)) hown (mvT hZ (wd hw 101 rfl)) (mvT hZ (wd hw 102 rfl)) (mvT hZ (wd hw 70 rfl)) (mvT hZ (wd hw 103 rfl)) (by decide) (backOf (W := 0) (rm23 l Z a0 hw [] ab kb (2 : Int32) _ (0 : Int32) (nar .byte ((q1 >>> ((0 : Int32) &&& 31)).toInt8.toInt32)) (nar .byte ((q1 >>> ((8 : Int32) &&& 31)).toInt8.toInt32)) h0 n0 O0 SA SH SL Vb ⟨by decide, by decide⟩ ⟨by decide, by decide⟩ (by rw [show ((0 : Int32) <<< ((1 : Int32) &&& 31)) = (0 : Int32) from by decide]; rfl) (by rw [show (((0 : Int32) <<< ((1 : Int32) &&& 31)) + (1 : Int32)) = (1 : Int32) from by decide]; rfl)) hZ (wd hw 103 rfl) (wd hw 70 rfl) (by decide) (by decide)) (g := (mkF m 12 #[vR ab, vI ch, vI 0, vI 1, vI 0] [(.int 0), (.ref ab)])) rfl (by rw [hml]; rfl) (argsL := [(.ref ab), (.int 0)]) (rest := []) (lenOf pd_5 rfl) rfl (by show 2 * 0 + _ ≤ _; exact Nat.le_of_eq rfl) (hb hby d30_12) (fun _ _ => ⟨rfl, e0, (by decide : 0 + 0 ≤ _), (by decide : 0 + 0 ≤ _)⟩)
  dsimp only [Pt.U, Pt.locs, Pt.cells, Pt.slots] at X2 l2 y2 z2 st2 hQ2
  subst l2 y2 z2
  obtain ⟨rfl, N2q, he2⟩ := hQ2
  have N2 := Fr.app N0 N2q
  have pre3 := fun t (kt : At p e below T2 m 15 #[vR ab, vI ch, vI 0, vI 1, vI 0] [(.int (own_gc (nar .byte ((q1 >>> ((0 : Int32) &&& 31)).toInt8.toInt32)) (nar .byte ((q1 >>> ((8 : Int32) &&& 31)).toInt8.toInt32))))] t) => pre1 t (st2 _ kt)
  have pre4 := fun t (kt : At p e below T2 m 16 #[vR ab, vI ch, vI 0, vI 1, vI 0] [(.int ch), (.int q1)] t) => pre3 t (by
    show At p e below T2 m 15 #[vR ab, vI ch, vI 0, vI 1, vI 0] [(.int (own_gc (nar .byte ((q1 >>> ((0 : Int32) &&& 31)).toInt8.toInt32)) (nar .byte ((q1 >>> ((8 : Int32) &&& 31)).toInt8.toInt32))))] _
    rw [show (own_gc (nar .byte ((q1 >>> ((0 : Int32) &&& 31)).toInt8.toInt32)) (nar .byte ((q1 >>> ((8 : Int32) &&& 31)).toInt8.toInt32))) = q1 from own_gcq R1]
    show At p e below T2 m 15 #[vR ab, vI ch, vI 0, vI 1, vI 0] [(.int q1)] _
    refine XS.iloadN X2.here hx rfl (hb hby d30_15) rfl ?_
    exact kt)
  by_cases d1 : q1 = ch
  · have pre5 := fun t (kt : At p e below T2 m 21 #[vR ab, vI ch, vI 0, vI 1, vI 0] [(.int 0)] t) => pre4 t (by
      show At p e below T2 m 16 #[vR ab, vI ch, vI 0, vI 1, vI 0] [(.int ch), (.int q1)] _
      refine XS.icmpNo X2.here hx rfl (hb hby d30_16) rfl (teq (d1 : q1 = ch)).2 ?_
      show At p e below T2 m 19 #[vR ab, vI ch, vI 0, vI 1, vI 0] [] _
      refine XS.iload X2.here hx rfl (hb hby d30_19) rfl ?_
      exact kt)
    obtain ⟨fs, hr, hrun, hended, hW, hsame⟩ := X2.leave (v := (some (.int 0))) (fun h => by rw [Bd.returns] at h; cases h)
    refine ⟨_, _, pre5 _ ?_, hrun, hended, _, _, rfl, ?_, ⟨_, rfl⟩, hW, hsame.mono (by decide) (by decide)⟩
    · show At p e below T2 m 21 #[vR ab, vI ch, vI 0, vI 1, vI 0] [(.int 0)] _
      exact retI X2 hx Bd.returns (hb hby d30_21) hr
    · show Q30_1 Z ab kb ch q1 h0 n0 _ T2.heap _
      rw [he2]
      exact ⟨_, rfl, N2, rfl, iff_of_true (by decide) (own_here d1)⟩
  · have pre6 := fun t (kt : At p e below T2 m 29 #[vR ab, vI ch, vI 0, vI 1, vI 1] [(.int (-1 : Int32))] t) => pre4 t (by
      show At p e below T2 m 16 #[vR ab, vI ch, vI 0, vI 1, vI 0] [(.int ch), (.int q1)] _
      refine XS.icmpYes X2.here hx rfl (pc0 := 16) (pc' := 22) rfl (hb hby d30_16) rfl (feq (d1 : ¬ (q1 = ch))).2 (by decide) (by decide) ?_
      show At p e below T2 m 22 #[vR ab, vI ch, vI 0, vI 1, vI 0] [] _
      refine XS.iinc X2.here hx rfl (hb hby d30_22) rfl (l' := #[vR ab, vI ch, vI 0, vI 1, .val (.int ((0 : Int32) + (1 : Int32)))]) rfl ?_
      show At p e below T2 m 25 #[vR ab, vI ch, vI 0, vI 1, .val (.int ((0 : Int32) + (1 : Int32)))] [] _
      show At p e below T2 m 25 #[vR ab, vI ch, vI 0, vI 1, vI 1] [] _
      refine XS.goto X2.here hx rfl (pc0 := 25) (pc' := 3) rfl (hb hby d30_25) (by decide) (by decide) ?_
      show At p e below T2 m 3 #[vR ab, vI ch, vI 0, vI 1, vI 1] [] _
      refine XS.iload X2.here hx rfl (hb hby d30_3) rfl ?_
      show At p e below T2 m 5 #[vR ab, vI ch, vI 0, vI 1, vI 1] [(.int 1)] _
      refine XS.iloadN X2.here hx rfl (hb hby d30_5) rfl ?_
      show At p e below T2 m 6 #[vR ab, vI ch, vI 0, vI 1, vI 1] [(.int 1), (.int 1)] _
      refine XS.icmpYes X2.here hx rfl (pc0 := 6) (pc' := 28) rfl (hb hby d30_6) rfl (flt (by decide : ¬ ((1 : Int32) < (1 : Int32)))).2.1 (by decide) (by decide) ?_
      show At p e below T2 m 28 #[vR ab, vI ch, vI 0, vI 1, vI 1] [] _
      refine XS.iconst X2.here hx rfl (hb hby d30_28) ?_
      exact kt)
    obtain ⟨fs, hr, hrun, hended, hW, hsame⟩ := X2.leave (v := (some (.int (-1 : Int32)))) (fun h => by rw [Bd.returns] at h; cases h)
    refine ⟨_, _, pre6 _ ?_, hrun, hended, _, _, rfl, ?_, ⟨_, rfl⟩, hW, hsame.mono (by decide) (by decide)⟩
    · show At p e below T2 m 29 #[vR ab, vI ch, vI 0, vI 1, vI 1] [(.int (-1 : Int32))] _
      exact retI X2 hx Bd.returns (hb hby d30_29) hr
    · show Q30_1 Z ab kb ch q1 h0 n0 _ T2.heap _
      rw [he2]
      exact ⟨_, rfl, N2, rfl, iff_of_false (by decide) (own_no d1 (own_nil))⟩
theorem ef_30_2 (m : MethodId) (ab : Addr) (ch : Int32) : entryFrame m #[(.ref ab), (.int ch), (.int 0), (.int 2)] 5 = (mkF m 0 #[vR ab, vI ch, vI 0, vI 2, vU] []) := by first | (simp [entryFrame, mkF, argsToLocals, Value.category]; done) | rfl
def Q30_2 (Z : State) (ab : Addr) (kb : ClassId) (ch : Int32) (q1 : Int32) (q2 : Int32) (h0 : Heap) (n0 : Nat) (v : Option Value) (h : Heap) (L : List Loc) : Prop := ∃ r : Int32, v = some (.int r) ∧ Fr n0 L ∧ h = h0 ∧ (¬ (r < (0 : Int32)) ↔ ch ∈ [q1, q2])
set_option maxRecDepth 65536 in
set_option maxHeartbeats 40000000 in
theorem rm30_2 (l : Launch) (Z : State) (a0 : Array Value) (hw : ∀ d ∈ tables_1, d.before a0 Z = true) (ws : List Jvm.Cond) (ab : Addr) (kb : ClassId) (ch : Int32) (q1 : Int32) (q2 : Int32) (h0 : Heap) (n0 : Nat) (O0 : Old Z n0 h0) (SA : Sta Z Z.heap "java/lang/StringUTF16" "$assertionsDisabled" "Z" (.int 1)) (SH : Sta Z Z.heap "java/lang/StringUTF16" "HI_BYTE_SHIFT" "I" (.int 0)) (SL : Sta Z Z.heap "java/lang/StringUTF16" "LO_BYTE_SHIFT" "I" (.int 8)) (Vb : Arv Z h0 ab kb .byte (4 : Int32) [(.int (nar .byte ((q1 >>> ((0 : Int32) &&& 31)).toInt8.toInt32))), (.int (nar .byte ((q1 >>> ((8 : Int32) &&& 31)).toInt8.toInt32))), (.int (nar .byte ((q2 >>> ((0 : Int32) &&& 31)).toInt8.toInt32))), (.int (nar .byte ((q2 >>> ((8 : Int32) &&& 31)).toInt8.toInt32)))] (.int 0)) (R1 : own_R q1) (R2 : own_R q2) :
    MetFree l (⟨"java/lang/StringUTF16", "indexOfCharUnsafe", "([BIII)I"⟩ : MethodName) (head1 (Jvm.Cond.code (⟨"java/lang/StringUTF16", "indexOfCharUnsafe", "([BIII)I"⟩ : MethodName) jdk_52_method_48_code 5 (some .int) :: ws) ({ frames := 1, cells := 0, slots := 0, locals := 13 } : Room)) (fun a U => a = #[(.ref ab), (.int ch), (.int 0), (.int 2)] ∧ Z.Warmed39 U.vm ∧ U.heap = h0) (fun _ _ _ _ _ => True) (fun _ U o U' => ∃ v L, o = .returned v ∧ Q30_2 Z ab kb ch q1 q2 h0 n0 v U'.heap L ∧ FrameEnd U o U' L ({ frames := 1, cells := 0, slots := 0, locals := 13 } : Room).cells ({ frames := 1, cells := 0, slots := 0, locals := 13 } : Room).slots) := by
  refine MetFree.of_bodySF (plainFor_of_name pn_3) hisR ?_
  intro p e s m args below meth c s₁ Bd hml0 hP hK
  obtain ⟨rfl, hZ, hh⟩ := hP
  have hx := Bd.exec
  have hby := Bd.bytes
  have hml : c.maxLocals = 5 := hml0
  have hown : s.vm.findClass "java/lang/StringUTF16" = some m.cls := findClass_of_methodNamed Bd.named
  have hnm := (name_of_methodNamed Bd.named Bd.method).1
  have X0 : Stand p l e ({ frames := 1, cells := 0, slots := 0, locals := 13 } : Room) s m #[(.ref ab), (.int ch), (.int 0), (.int 2)] below meth c s₁ [] 0 0 := Stand.of_body Bd
  have e0 : s₁.heap = h0 := by rw [← hh, Bd.state]; rfl
  have N0 := Fr.nil n0
  have Z0 : n0 ≤ h0.size := O0.1 ▸ O0.2.1
  have pre0 : ∀ t, At p e below s₁ m 0 #[vR ab, vI ch, vI 0, vI 2, vU] [] t → Steps p.tables e below (s₁.setTop (entryFrame m #[(.ref ab), (.int ch), (.int 0), (.int 2)] 5)) t := fun t k => castTop (ef_30_2 m ab ch) k
  have pre1 := fun t (kt : At p e below s₁ m 12 #[vR ab, vI ch, vI 0, vI 2, vI 0] [(.int 0), (.ref ab)] t) => pre0 t (by
    show At p e below s₁ m 0 #[vR ab, vI ch, vI 0, vI 2, vU] [] _
    refine XS.iloadN X0.here hx rfl (hb hby d30_0) rfl ?_
    show At p e below s₁ m 1 #[vR ab, vI ch, vI 0, vI 2, vU] [(.int 0)] _
    refine XS.istore X0.here hx rfl (hb hby d30_1) rfl (l' := #[vR ab, vI ch, vI 0, vI 2, vI 0]) rfl ?_
    show At p e below s₁ m 3 #[vR ab, vI ch, vI 0, vI 2, vI 0] [] _
    refine XS.iload X0.here hx rfl (hb hby d30_3) rfl ?_
    show At p e below s₁ m 5 #[vR ab, vI ch, vI 0, vI 2, vI 0] [(.int 0)] _
    refine XS.iloadN X0.here hx rfl (hb hby d30_5) rfl ?_
    show At p e below s₁ m 6 #[vR ab, vI ch, vI 0, vI 2, vI 0] [(.int 2), (.int 0)] _
    refine XS.icmpNo X0.here hx rfl (hb hby d30_6) rfl (tlt (by decide : (0 : Int32) < (2 : Int32))).2.1 ?_
    show At p e below s₁ m 9 #[vR ab, vI ch, vI 0, vI 2, vI 0] [] _
    refine XS.aloadN X0.here hx rfl (hb hby d30_9) rfl rfl ?_
    show At p e below s₁ m 10 #[vR ab, vI ch, vI 0, vI 2, vI 0] [(.ref ab)] _
    refine XS.iload X0.here hx rfl (hb hby d30_10) rfl ?_
    exact kt)
  obtain ⟨_, _, ⟨T2, L2, kc2, nc2⟩, -, X2, ⟨Lc2, hQ2, l2, y2, z2⟩, st2⟩ := Jvm.LawKit.callS X0 hx (y := (⟨"java/lang/StringUTF16", "getChar", "([BI)C"⟩ : MethodName)) hown (mvT hZ (wd hw 101 rfl)) (mvT hZ (wd hw 102 rfl)) (mvT hZ (wd hw 70 rfl)) (mvT hZ (wd hw 103 rfl)) (by decide) (backOf (W := 0) (rm23 l Z a0 hw [] ab kb (4 : Int32) _ (0 : Int32) (nar .byte ((q1 >>> ((0 : Int32) &&& 31)).toInt8.toInt32)) (nar .byte ((q1 >>> ((8 : Int32) &&& 31)).toInt8.toInt32)) h0 n0 O0 SA SH SL Vb ⟨by decide, by decide⟩ ⟨by decide, by decide⟩ (by rw [show ((0 : Int32) <<< ((1 : Int32) &&& 31)) = (0 : Int32) from by decide]; rfl) (by rw [show (((0 : Int32) <<< ((1 : Int32) &&& 31)) + (1 : Int32)) = (1 : Int32) from by decide]; rfl)) hZ (wd hw 103 rfl) (wd hw 70 rfl) (by decide) (by decide)) (g := (mkF m 12 #[vR ab, vI ch, vI 0, vI 2, vI 0] [(.int 0), (.ref ab)])) rfl (by rw [hml]; rfl) (argsL := [(.ref ab), (.int 0)]) (rest := []) (lenOf pd_5 rfl) rfl (by show 2 * 0 + _ ≤ _; exact Nat.le_of_eq rfl) (hb hby d30_12) (fun _ _ => ⟨rfl, e0, (by decide : 0 + 0 ≤ _), (by decide : 0 + 0 ≤ _)⟩)
  dsimp only [Pt.U, Pt.locs, Pt.cells, Pt.slots] at X2 l2 y2 z2 st2 hQ2
  subst l2 y2 z2
  obtain ⟨rfl, N2q, he2⟩ := hQ2
  have N2 := Fr.app N0 N2q
  have pre3 := fun t (kt : At p e below T2 m 15 #[vR ab, vI ch, vI 0, vI 2, vI 0] [(.int (own_gc (nar .byte ((q1 >>> ((0 : Int32) &&& 31)).toInt8.toInt32)) (nar .byte ((q1 >>> ((8 : Int32) &&& 31)).toInt8.toInt32))))] t) => pre1 t (st2 _ kt)
  have pre4 := fun t (kt : At p e below T2 m 16 #[vR ab, vI ch, vI 0, vI 2, vI 0] [(.int ch), (.int q1)] t) => pre3 t (by
    show At p e below T2 m 15 #[vR ab, vI ch, vI 0, vI 2, vI 0] [(.int (own_gc (nar .byte ((q1 >>> ((0 : Int32) &&& 31)).toInt8.toInt32)) (nar .byte ((q1 >>> ((8 : Int32) &&& 31)).toInt8.toInt32))))] _
    rw [show (own_gc (nar .byte ((q1 >>> ((0 : Int32) &&& 31)).toInt8.toInt32)) (nar .byte ((q1 >>> ((8 : Int32) &&& 31)).toInt8.toInt32))) = q1 from own_gcq R1]
    show At p e below T2 m 15 #[vR ab, vI ch, vI 0, vI 2, vI 0] [(.int q1)] _
    refine XS.iloadN X2.here hx rfl (hb hby d30_15) rfl ?_
    exact kt)
  by_cases d1 : q1 = ch
  · have pre5 := fun t (kt : At p e below T2 m 21 #[vR ab, vI ch, vI 0, vI 2, vI 0] [(.int 0)] t) => pre4 t (by
      show At p e below T2 m 16 #[vR ab, vI ch, vI 0, vI 2, vI 0] [(.int ch), (.int q1)] _
      refine XS.icmpNo X2.here hx rfl (hb hby d30_16) rfl (teq (d1 : q1 = ch)).2 ?_
      show At p e below T2 m 19 #[vR ab, vI ch, vI 0, vI 2, vI 0] [] _
      refine XS.iload X2.here hx rfl (hb hby d30_19) rfl ?_
      exact kt)
    obtain ⟨fs, hr, hrun, hended, hW, hsame⟩ := X2.leave (v := (some (.int 0))) (fun h => by rw [Bd.returns] at h; cases h)
    refine ⟨_, _, pre5 _ ?_, hrun, hended, _, _, rfl, ?_, ⟨_, rfl⟩, hW, hsame.mono (by decide) (by decide)⟩
    · show At p e below T2 m 21 #[vR ab, vI ch, vI 0, vI 2, vI 0] [(.int 0)] _
      exact retI X2 hx Bd.returns (hb hby d30_21) hr
    · show Q30_2 Z ab kb ch q1 q2 h0 n0 _ T2.heap _
      rw [he2]
      exact ⟨_, rfl, N2, rfl, iff_of_true (by decide) (own_here d1)⟩
  · have pre6 := fun t (kt : At p e below T2 m 12 #[vR ab, vI ch, vI 0, vI 2, vI 1] [(.int 1), (.ref ab)] t) => pre4 t (by
      show At p e below T2 m 16 #[vR ab, vI ch, vI 0, vI 2, vI 0] [(.int ch), (.int q1)] _
      refine XS.icmpYes X2.here hx rfl (pc0 := 16) (pc' := 22) rfl (hb hby d30_16) rfl (feq (d1 : ¬ (q1 = ch))).2 (by decide) (by decide) ?_
      show At p e below T2 m 22 #[vR ab, vI ch, vI 0, vI 2, vI 0] [] _
      refine XS.iinc X2.here hx rfl (hb hby d30_22) rfl (l' := #[vR ab, vI ch, vI 0, vI 2, .val (.int ((0 : Int32) + (1 : Int32)))]) rfl ?_
      show At p e below T2 m 25 #[vR ab, vI ch, vI 0, vI 2, .val (.int ((0 : Int32) + (1 : Int32)))] [] _
      show At p e below T2 m 25 #[vR ab, vI ch, vI 0, vI 2, vI 1] [] _
      refine XS.goto X2.here hx rfl (pc0 := 25) (pc' := 3) rfl (hb hby d30_25) (by decide) (by decide) ?_
      show At p e below T2 m 3 #[vR ab, vI ch, vI 0, vI 2, vI 1] [] _
      refine XS.iload X2.here hx rfl (hb hby d30_3) rfl ?_
      show At p e below T2 m 5 #[vR ab, vI ch, vI 0, vI 2, vI 1] [(.int 1)] _
      refine XS.iloadN X2.here hx rfl (hb hby d30_5) rfl ?_
      show At p e below T2 m 6 #[vR ab, vI ch, vI 0, vI 2, vI 1] [(.int 2), (.int 1)] _
      refine XS.icmpNo X2.here hx rfl (hb hby d30_6) rfl (tlt (by decide : (1 : Int32) < (2 : Int32))).2.1 ?_
      show At p e below T2 m 9 #[vR ab, vI ch, vI 0, vI 2, vI 1] [] _
      refine XS.aloadN X2.here hx rfl (hb hby d30_9) rfl rfl ?_
      show At p e below T2 m 10 #[vR ab, vI ch, vI 0, vI 2, vI 1] [(.ref ab)] _
      refine XS.iload X2.here hx rfl (hb hby d30_10) rfl ?_
      exact kt)
    obtain ⟨_, _, ⟨T7, L7, kc7, nc7⟩, -, X7, ⟨Lc7, hQ7, l7, y7, z7⟩, st7⟩ := Jvm.LawKit.callS X2 hx (y := (⟨"java/lang/StringUTF16", "getChar", "([BI)C"⟩ : MethodName)) hown (mvT hZ (wd hw 101 rfl)) (mvT hZ (wd hw 102 rfl)) (mvT hZ (wd hw 70 rfl)) (mvT hZ (wd hw 103 rfl)) (by decide) (backOf (W := 0) (rm23 l Z a0 hw [] ab kb (4 : Int32) _ (1 : Int32) (nar .byte ((q2 >>> ((0 : Int32) &&& 31)).toInt8.toInt32)) (nar .byte ((q2 >>> ((8 : Int32) &&& 31)).toInt8.toInt32)) h0 n0 O0 SA SH SL Vb ⟨by decide, by decide⟩ ⟨by decide, by decide⟩ (by rw [show ((1 : Int32) <<< ((1 : Int32) &&& 31)) = (2 : Int32) from by decide]; rfl) (by rw [show (((1 : Int32) <<< ((1 : Int32) &&& 31)) + (1 : Int32)) = (3 : Int32) from by decide]; rfl)) hZ (wd hw 103 rfl) (wd hw 70 rfl) (by decide) (by decide)) (g := (mkF m 12 #[vR ab, vI ch, vI 0, vI 2, vI 1] [(.int 1), (.ref ab)])) rfl (by rw [hml]; rfl) (argsL := [(.ref ab), (.int 1)]) (rest := []) (lenOf pd_5 rfl) rfl (by show 2 * 0 + _ ≤ _; exact Nat.le_of_eq rfl) (hb hby d30_12) (fun _ _ => ⟨rfl, he2, (by decide : 0 + 0 ≤ _), (by decide : 0 + 0 ≤ _)⟩)
    dsimp only [Pt.U, Pt.locs, Pt.cells, Pt.slots] at X7 l7 y7 z7 st7 hQ7
    subst l7 y7 z7
    obtain ⟨rfl, N7q, he7⟩ := hQ7
    have N7 := Fr.app N2 N7q
    have pre8 := fun t (kt : At p e below T7 m 15 #[vR ab, vI ch, vI 0, vI 2, vI 1] [(.int (own_gc (nar .byte ((q2 >>> ((0 : Int32) &&& 31)).toInt8.toInt32)) (nar .byte ((q2 >>> ((8 : Int32) &&& 31)).toInt8.toInt32))))] t) => pre6 t (st7 _ kt)
    have pre9 := fun t (kt : At p e below T7 m 16 #[vR ab, vI ch, vI 0, vI 2, vI 1] [(.int ch), (.int q2)] t) => pre8 t (by
      show At p e below T7 m 15 #[vR ab, vI ch, vI 0, vI 2, vI 1] [(.int (own_gc (nar .byte ((q2 >>> ((0 : Int32) &&& 31)).toInt8.toInt32)) (nar .byte ((q2 >>> ((8 : Int32) &&& 31)).toInt8.toInt32))))] _
      rw [show (own_gc (nar .byte ((q2 >>> ((0 : Int32) &&& 31)).toInt8.toInt32)) (nar .byte ((q2 >>> ((8 : Int32) &&& 31)).toInt8.toInt32))) = q2 from own_gcq R2]
      show At p e below T7 m 15 #[vR ab, vI ch, vI 0, vI 2, vI 1] [(.int q2)] _
      refine XS.iloadN X7.here hx rfl (hb hby d30_15) rfl ?_
      exact kt)
    by_cases d2 : q2 = ch
    · have pre10 := fun t (kt : At p e below T7 m 21 #[vR ab, vI ch, vI 0, vI 2, vI 1] [(.int 1)] t) => pre9 t (by
        show At p e below T7 m 16 #[vR ab, vI ch, vI 0, vI 2, vI 1] [(.int ch), (.int q2)] _
        refine XS.icmpNo X7.here hx rfl (hb hby d30_16) rfl (teq (d2 : q2 = ch)).2 ?_
        show At p e below T7 m 19 #[vR ab, vI ch, vI 0, vI 2, vI 1] [] _
        refine XS.iload X7.here hx rfl (hb hby d30_19) rfl ?_
        exact kt)
      obtain ⟨fs, hr, hrun, hended, hW, hsame⟩ := X7.leave (v := (some (.int 1))) (fun h => by rw [Bd.returns] at h; cases h)
      refine ⟨_, _, pre10 _ ?_, hrun, hended, _, _, rfl, ?_, ⟨_, rfl⟩, hW, hsame.mono (by decide) (by decide)⟩
      · show At p e below T7 m 21 #[vR ab, vI ch, vI 0, vI 2, vI 1] [(.int 1)] _
        exact retI X7 hx Bd.returns (hb hby d30_21) hr
      · show Q30_2 Z ab kb ch q1 q2 h0 n0 _ T7.heap _
        rw [he7]
        exact ⟨_, rfl, N7, rfl, iff_of_true (by decide) (own_there (own_here d2))⟩
    · have pre11 := fun t (kt : At p e below T7 m 29 #[vR ab, vI ch, vI 0, vI 2, vI 2] [(.int (-1 : Int32))] t) => pre9 t (by
        show At p e below T7 m 16 #[vR ab, vI ch, vI 0, vI 2, vI 1] [(.int ch), (.int q2)] _
        refine XS.icmpYes X7.here hx rfl (pc0 := 16) (pc' := 22) rfl (hb hby d30_16) rfl (feq (d2 : ¬ (q2 = ch))).2 (by decide) (by decide) ?_
        show At p e below T7 m 22 #[vR ab, vI ch, vI 0, vI 2, vI 1] [] _
        refine XS.iinc X7.here hx rfl (hb hby d30_22) rfl (l' := #[vR ab, vI ch, vI 0, vI 2, .val (.int ((1 : Int32) + (1 : Int32)))]) rfl ?_
        show At p e below T7 m 25 #[vR ab, vI ch, vI 0, vI 2, .val (.int ((1 : Int32) + (1 : Int32)))] [] _
        show At p e below T7 m 25 #[vR ab, vI ch, vI 0, vI 2, vI 2] [] _
        refine XS.goto X7.here hx rfl (pc0 := 25) (pc' := 3) rfl (hb hby d30_25) (by decide) (by decide) ?_
        show At p e below T7 m 3 #[vR ab, vI ch, vI 0, vI 2, vI 2] [] _
        refine XS.iload X7.here hx rfl (hb hby d30_3) rfl ?_
        show At p e below T7 m 5 #[vR ab, vI ch, vI 0, vI 2, vI 2] [(.int 2)] _
        refine XS.iloadN X7.here hx rfl (hb hby d30_5) rfl ?_
        show At p e below T7 m 6 #[vR ab, vI ch, vI 0, vI 2, vI 2] [(.int 2), (.int 2)] _
        refine XS.icmpYes X7.here hx rfl (pc0 := 6) (pc' := 28) rfl (hb hby d30_6) rfl (flt (by decide : ¬ ((2 : Int32) < (2 : Int32)))).2.1 (by decide) (by decide) ?_
        show At p e below T7 m 28 #[vR ab, vI ch, vI 0, vI 2, vI 2] [] _
        refine XS.iconst X7.here hx rfl (hb hby d30_28) ?_
        exact kt)
      obtain ⟨fs, hr, hrun, hended, hW, hsame⟩ := X7.leave (v := (some (.int (-1 : Int32)))) (fun h => by rw [Bd.returns] at h; cases h)
      refine ⟨_, _, pre11 _ ?_, hrun, hended, _, _, rfl, ?_, ⟨_, rfl⟩, hW, hsame.mono (by decide) (by decide)⟩
      · show At p e below T7 m 29 #[vR ab, vI ch, vI 0, vI 2, vI 2] [(.int (-1 : Int32))] _
        exact retI X7 hx Bd.returns (hb hby d30_29) hr
      · show Q30_2 Z ab kb ch q1 q2 h0 n0 _ T7.heap _
        rw [he7]
        exact ⟨_, rfl, N7, rfl, iff_of_false (by decide) (own_no d1 (own_no d2 (own_nil)))⟩
theorem ef_30_3 (m : MethodId) (ab : Addr) (ch : Int32) : entryFrame m #[(.ref ab), (.int ch), (.int 0), (.int 3)] 5 = (mkF m 0 #[vR ab, vI ch, vI 0, vI 3, vU] []) := by first | (simp [entryFrame, mkF, argsToLocals, Value.category]; done) | rfl
def Q30_3 (Z : State) (ab : Addr) (kb : ClassId) (ch : Int32) (q1 : Int32) (q2 : Int32) (q3 : Int32) (h0 : Heap) (n0 : Nat) (v : Option Value) (h : Heap) (L : List Loc) : Prop := ∃ r : Int32, v = some (.int r) ∧ Fr n0 L ∧ h = h0 ∧ (¬ (r < (0 : Int32)) ↔ ch ∈ [q1, q2, q3])
set_option maxRecDepth 65536 in
set_option maxHeartbeats 40000000 in
theorem rm30_3 (l : Launch) (Z : State) (a0 : Array Value) (hw : ∀ d ∈ tables_1, d.before a0 Z = true) (ws : List Jvm.Cond) (ab : Addr) (kb : ClassId) (ch : Int32) (q1 : Int32) (q2 : Int32) (q3 : Int32) (h0 : Heap) (n0 : Nat) (O0 : Old Z n0 h0) (SA : Sta Z Z.heap "java/lang/StringUTF16" "$assertionsDisabled" "Z" (.int 1)) (SH : Sta Z Z.heap "java/lang/StringUTF16" "HI_BYTE_SHIFT" "I" (.int 0)) (SL : Sta Z Z.heap "java/lang/StringUTF16" "LO_BYTE_SHIFT" "I" (.int 8)) (Vb : Arv Z h0 ab kb .byte (6 : Int32) [(.int (nar .byte ((q1 >>> ((0 : Int32) &&& 31)).toInt8.toInt32))), (.int (nar .byte ((q1 >>> ((8 : Int32) &&& 31)).toInt8.toInt32))), (.int (nar .byte ((q2 >>> ((0 : Int32) &&& 31)).toInt8.toInt32))), (.int (nar .byte ((q2 >>> ((8 : Int32) &&& 31)).toInt8.toInt32))), (.int (nar .byte ((q3 >>> ((0 : Int32) &&& 31)).toInt8.toInt32))), (.int (nar .byte ((q3 >>> ((8 : Int32) &&& 31)).toInt8.toInt32)))] (.int 0)) (R1 : own_R q1) (R2 : own_R q2) (R3 : own_R q3) :
    MetFree l (⟨"java/lang/StringUTF16", "indexOfCharUnsafe", "([BIII)I"⟩ : MethodName) (head1 (Jvm.Cond.code (⟨"java/lang/StringUTF16", "indexOfCharUnsafe", "([BIII)I"⟩ : MethodName) jdk_52_method_48_code 5 (some .int) :: ws) ({ frames := 1, cells := 0, slots := 0, locals := 13 } : Room)) (fun a U => a = #[(.ref ab), (.int ch), (.int 0), (.int 3)] ∧ Z.Warmed39 U.vm ∧ U.heap = h0) (fun _ _ _ _ _ => True) (fun _ U o U' => ∃ v L, o = .returned v ∧ Q30_3 Z ab kb ch q1 q2 q3 h0 n0 v U'.heap L ∧ FrameEnd U o U' L ({ frames := 1, cells := 0, slots := 0, locals := 13 } : Room).cells ({ frames := 1, cells := 0, slots := 0, locals := 13 } : Room).slots) := by
  refine MetFree.of_bodySF (plainFor_of_name pn_3) hisR ?_
  intro p e s m args below meth c s₁ Bd hml0 hP hK
  obtain ⟨rfl, hZ, hh⟩ := hP
  have hx := Bd.exec
  have hby := Bd.bytes
  have hml : c.maxLocals = 5 := hml0
  have hown : s.vm.findClass "java/lang/StringUTF16" = some m.cls := findClass_of_methodNamed Bd.named
  have hnm := (name_of_methodNamed Bd.named Bd.method).1
  have X0 : Stand p l e ({ frames := 1, cells := 0, slots := 0, locals := 13 } : Room) s m #[(.ref ab), (.int ch), (.int 0), (.int 3)] below meth c s₁ [] 0 0 := Stand.of_body Bd
  have e0 : s₁.heap = h0 := by rw [← hh, Bd.state]; rfl
  have N0 := Fr.nil n0
  have Z0 : n0 ≤ h0.size := O0.1 ▸ O0.2.1
  have pre0 : ∀ t, At p e below s₁ m 0 #[vR ab, vI ch, vI 0, vI 3, vU] [] t → Steps p.tables e below (s₁.setTop (entryFrame m #[(.ref ab), (.int ch), (.int 0), (.int 3)] 5)) t := fun t k => castTop (ef_30_3 m ab ch) k
  have pre1 := fun t (kt : At p e below s₁ m 12 #[vR ab, vI ch, vI 0, vI 3, vI 0] [(.int 0), (.ref ab)] t) => pre0 t (by
    show At p e below s₁ m 0 #[vR ab, vI ch, vI 0, vI 3, vU] [] _
    refine XS.iloadN X0.here hx rfl (hb hby d30_0) rfl ?_
    show At p e below s₁ m 1 #[vR ab, vI ch, vI 0, vI 3, vU] [(.int 0)] _
    refine XS.istore X0.here hx rfl (hb hby d30_1) rfl (l' := #[vR ab, vI ch, vI 0, vI 3, vI 0]) rfl ?_
    show At p e below s₁ m 3 #[vR ab, vI ch, vI 0, vI 3, vI 0] [] _
    refine XS.iload X0.here hx rfl (hb hby d30_3) rfl ?_
    show At p e below s₁ m 5 #[vR ab, vI ch, vI 0, vI 3, vI 0] [(.int 0)] _
    refine XS.iloadN X0.here hx rfl (hb hby d30_5) rfl ?_
    show At p e below s₁ m 6 #[vR ab, vI ch, vI 0, vI 3, vI 0] [(.int 3), (.int 0)] _
    refine XS.icmpNo X0.here hx rfl (hb hby d30_6) rfl (tlt (by decide : (0 : Int32) < (3 : Int32))).2.1 ?_
    show At p e below s₁ m 9 #[vR ab, vI ch, vI 0, vI 3, vI 0] [] _
    refine XS.aloadN X0.here hx rfl (hb hby d30_9) rfl rfl ?_
    show At p e below s₁ m 10 #[vR ab, vI ch, vI 0, vI 3, vI 0] [(.ref ab)] _
    refine XS.iload X0.here hx rfl (hb hby d30_10) rfl ?_
    exact kt)
  obtain ⟨_, _, ⟨T2, L2, kc2, nc2⟩, -, X2, ⟨Lc2, hQ2, l2, y2, z2⟩, st2⟩ := Jvm.LawKit.callS X0 hx (y := (⟨"java/lang/StringUTF16", "getChar", "([BI)C"⟩ : MethodName)) hown (mvT hZ (wd hw 101 rfl)) (mvT hZ (wd hw 102 rfl)) (mvT hZ (wd hw 70 rfl)) (mvT hZ (wd hw 103 rfl)) (by decide) (backOf (W := 0) (rm23 l Z a0 hw [] ab kb (6 : Int32) _ (0 : Int32) (nar .byte ((q1 >>> ((0 : Int32) &&& 31)).toInt8.toInt32)) (nar .byte ((q1 >>> ((8 : Int32) &&& 31)).toInt8.toInt32)) h0 n0 O0 SA SH SL Vb ⟨by decide, by decide⟩ ⟨by decide, by decide⟩ (by rw [show ((0 : Int32) <<< ((1 : Int32) &&& 31)) = (0 : Int32) from by decide]; rfl) (by rw [show (((0 : Int32) <<< ((1 : Int32) &&& 31)) + (1 : Int32)) = (1 : Int32) from by decide]; rfl)) hZ (wd hw 103 rfl) (wd hw 70 rfl) (by decide) (by decide)) (g := (mkF m 12 #[vR ab, vI ch, vI 0, vI 3, vI 0] [(.int 0), (.ref ab)])) rfl (by rw [hml]; rfl) (argsL := [(.ref ab), (.int 0)]) (rest := []) (lenOf pd_5 rfl) rfl (by show 2 * 0 + _ ≤ _; exact Nat.le_of_eq rfl) (hb hby d30_12) (fun _ _ => ⟨rfl, e0, (by decide : 0 + 0 ≤ _), (by decide : 0 + 0 ≤ _)⟩)
  dsimp only [Pt.U, Pt.locs, Pt.cells, Pt.slots] at X2 l2 y2 z2 st2 hQ2
  subst l2 y2 z2
  obtain ⟨rfl, N2q, he2⟩ := hQ2
  have N2 := Fr.app N0 N2q
  have pre3 := fun t (kt : At p e below T2 m 15 #[vR ab, vI ch, vI 0, vI 3, vI 0] [(.int (own_gc (nar .byte ((q1 >>> ((0 : Int32) &&& 31)).toInt8.toInt32)) (nar .byte ((q1 >>> ((8 : Int32) &&& 31)).toInt8.toInt32))))] t) => pre1 t (st2 _ kt)
  have pre4 := fun t (kt : At p e below T2 m 16 #[vR ab, vI ch, vI 0, vI 3, vI 0] [(.int ch), (.int q1)] t) => pre3 t (by
    show At p e below T2 m 15 #[vR ab, vI ch, vI 0, vI 3, vI 0] [(.int (own_gc (nar .byte ((q1 >>> ((0 : Int32) &&& 31)).toInt8.toInt32)) (nar .byte ((q1 >>> ((8 : Int32) &&& 31)).toInt8.toInt32))))] _
    rw [show (own_gc (nar .byte ((q1 >>> ((0 : Int32) &&& 31)).toInt8.toInt32)) (nar .byte ((q1 >>> ((8 : Int32) &&& 31)).toInt8.toInt32))) = q1 from own_gcq R1]
    show At p e below T2 m 15 #[vR ab, vI ch, vI 0, vI 3, vI 0] [(.int q1)] _
    refine XS.iloadN X2.here hx rfl (hb hby d30_15) rfl ?_
    exact kt)
  by_cases d1 : q1 = ch
  · have pre5 := fun t (kt : At p e below T2 m 21 #[vR ab, vI ch, vI 0, vI 3, vI 0] [(.int 0)] t) => pre4 t (by
      show At p e below T2 m 16 #[vR ab, vI ch, vI 0, vI 3, vI 0] [(.int ch), (.int q1)] _
      refine XS.icmpNo X2.here hx rfl (hb hby d30_16) rfl (teq (d1 : q1 = ch)).2 ?_
      show At p e below T2 m 19 #[vR ab, vI ch, vI 0, vI 3, vI 0] [] _
      refine XS.iload X2.here hx rfl (hb hby d30_19) rfl ?_
      exact kt)
    obtain ⟨fs, hr, hrun, hended, hW, hsame⟩ := X2.leave (v := (some (.int 0))) (fun h => by rw [Bd.returns] at h; cases h)
    refine ⟨_, _, pre5 _ ?_, hrun, hended, _, _, rfl, ?_, ⟨_, rfl⟩, hW, hsame.mono (by decide) (by decide)⟩
    · show At p e below T2 m 21 #[vR ab, vI ch, vI 0, vI 3, vI 0] [(.int 0)] _
      exact retI X2 hx Bd.returns (hb hby d30_21) hr
    · show Q30_3 Z ab kb ch q1 q2 q3 h0 n0 _ T2.heap _
      rw [he2]
      exact ⟨_, rfl, N2, rfl, iff_of_true (by decide) (own_here d1)⟩
  · have pre6 := fun t (kt : At p e below T2 m 12 #[vR ab, vI ch, vI 0, vI 3, vI 1] [(.int 1), (.ref ab)] t) => pre4 t (by
      show At p e below T2 m 16 #[vR ab, vI ch, vI 0, vI 3, vI 0] [(.int ch), (.int q1)] _
      refine XS.icmpYes X2.here hx rfl (pc0 := 16) (pc' := 22) rfl (hb hby d30_16) rfl (feq (d1 : ¬ (q1 = ch))).2 (by decide) (by decide) ?_
      show At p e below T2 m 22 #[vR ab, vI ch, vI 0, vI 3, vI 0] [] _
      refine XS.iinc X2.here hx rfl (hb hby d30_22) rfl (l' := #[vR ab, vI ch, vI 0, vI 3, .val (.int ((0 : Int32) + (1 : Int32)))]) rfl ?_
      show At p e below T2 m 25 #[vR ab, vI ch, vI 0, vI 3, .val (.int ((0 : Int32) + (1 : Int32)))] [] _
      show At p e below T2 m 25 #[vR ab, vI ch, vI 0, vI 3, vI 1] [] _
      refine XS.goto X2.here hx rfl (pc0 := 25) (pc' := 3) rfl (hb hby d30_25) (by decide) (by decide) ?_
      show At p e below T2 m 3 #[vR ab, vI ch, vI 0, vI 3, vI 1] [] _
      refine XS.iload X2.here hx rfl (hb hby d30_3) rfl ?_
      show At p e below T2 m 5 #[vR ab, vI ch, vI 0, vI 3, vI 1] [(.int 1)] _
      refine XS.iloadN X2.here hx rfl (hb hby d30_5) rfl ?_
      show At p e below T2 m 6 #[vR ab, vI ch, vI 0, vI 3, vI 1] [(.int 3), (.int 1)] _
      refine XS.icmpNo X2.here hx rfl (hb hby d30_6) rfl (tlt (by decide : (1 : Int32) < (3 : Int32))).2.1 ?_
      show At p e below T2 m 9 #[vR ab, vI ch, vI 0, vI 3, vI 1] [] _
      refine XS.aloadN X2.here hx rfl (hb hby d30_9) rfl rfl ?_
      show At p e below T2 m 10 #[vR ab, vI ch, vI 0, vI 3, vI 1] [(.ref ab)] _
      refine XS.iload X2.here hx rfl (hb hby d30_10) rfl ?_
      exact kt)
    obtain ⟨_, _, ⟨T7, L7, kc7, nc7⟩, -, X7, ⟨Lc7, hQ7, l7, y7, z7⟩, st7⟩ := Jvm.LawKit.callS X2 hx (y := (⟨"java/lang/StringUTF16", "getChar", "([BI)C"⟩ : MethodName)) hown (mvT hZ (wd hw 101 rfl)) (mvT hZ (wd hw 102 rfl)) (mvT hZ (wd hw 70 rfl)) (mvT hZ (wd hw 103 rfl)) (by decide) (backOf (W := 0) (rm23 l Z a0 hw [] ab kb (6 : Int32) _ (1 : Int32) (nar .byte ((q2 >>> ((0 : Int32) &&& 31)).toInt8.toInt32)) (nar .byte ((q2 >>> ((8 : Int32) &&& 31)).toInt8.toInt32)) h0 n0 O0 SA SH SL Vb ⟨by decide, by decide⟩ ⟨by decide, by decide⟩ (by rw [show ((1 : Int32) <<< ((1 : Int32) &&& 31)) = (2 : Int32) from by decide]; rfl) (by rw [show (((1 : Int32) <<< ((1 : Int32) &&& 31)) + (1 : Int32)) = (3 : Int32) from by decide]; rfl)) hZ (wd hw 103 rfl) (wd hw 70 rfl) (by decide) (by decide)) (g := (mkF m 12 #[vR ab, vI ch, vI 0, vI 3, vI 1] [(.int 1), (.ref ab)])) rfl (by rw [hml]; rfl) (argsL := [(.ref ab), (.int 1)]) (rest := []) (lenOf pd_5 rfl) rfl (by show 2 * 0 + _ ≤ _; exact Nat.le_of_eq rfl) (hb hby d30_12) (fun _ _ => ⟨rfl, he2, (by decide : 0 + 0 ≤ _), (by decide : 0 + 0 ≤ _)⟩)
    dsimp only [Pt.U, Pt.locs, Pt.cells, Pt.slots] at X7 l7 y7 z7 st7 hQ7
    subst l7 y7 z7
    obtain ⟨rfl, N7q, he7⟩ := hQ7
    have N7 := Fr.app N2 N7q
    have pre8 := fun t (kt : At p e below T7 m 15 #[vR ab, vI ch, vI 0, vI 3, vI 1] [(.int (own_gc (nar .byte ((q2 >>> ((0 : Int32) &&& 31)).toInt8.toInt32)) (nar .byte ((q2 >>> ((8 : Int32) &&& 31)).toInt8.toInt32))))] t) => pre6 t (st7 _ kt)
    have pre9 := fun t (kt : At p e below T7 m 16 #[vR ab, vI ch, vI 0, vI 3, vI 1] [(.int ch), (.int q2)] t) => pre8 t (by
      show At p e below T7 m 15 #[vR ab, vI ch, vI 0, vI 3, vI 1] [(.int (own_gc (nar .byte ((q2 >>> ((0 : Int32) &&& 31)).toInt8.toInt32)) (nar .byte ((q2 >>> ((8 : Int32) &&& 31)).toInt8.toInt32))))] _
      rw [show (own_gc (nar .byte ((q2 >>> ((0 : Int32) &&& 31)).toInt8.toInt32)) (nar .byte ((q2 >>> ((8 : Int32) &&& 31)).toInt8.toInt32))) = q2 from own_gcq R2]
      show At p e below T7 m 15 #[vR ab, vI ch, vI 0, vI 3, vI 1] [(.int q2)] _
      refine XS.iloadN X7.here hx rfl (hb hby d30_15) rfl ?_
      exact kt)
    by_cases d2 : q2 = ch
    · have pre10 := fun t (kt : At p e below T7 m 21 #[vR ab, vI ch, vI 0, vI 3, vI 1] [(.int 1)] t) => pre9 t (by
        show At p e below T7 m 16 #[vR ab, vI ch, vI 0, vI 3, vI 1] [(.int ch), (.int q2)] _
        refine XS.icmpNo X7.here hx rfl (hb hby d30_16) rfl (teq (d2 : q2 = ch)).2 ?_
        show At p e below T7 m 19 #[vR ab, vI ch, vI 0, vI 3, vI 1] [] _
        refine XS.iload X7.here hx rfl (hb hby d30_19) rfl ?_
        exact kt)
      obtain ⟨fs, hr, hrun, hended, hW, hsame⟩ := X7.leave (v := (some (.int 1))) (fun h => by rw [Bd.returns] at h; cases h)
      refine ⟨_, _, pre10 _ ?_, hrun, hended, _, _, rfl, ?_, ⟨_, rfl⟩, hW, hsame.mono (by decide) (by decide)⟩
      · show At p e below T7 m 21 #[vR ab, vI ch, vI 0, vI 3, vI 1] [(.int 1)] _
        exact retI X7 hx Bd.returns (hb hby d30_21) hr
      · show Q30_3 Z ab kb ch q1 q2 q3 h0 n0 _ T7.heap _
        rw [he7]
        exact ⟨_, rfl, N7, rfl, iff_of_true (by decide) (own_there (own_here d2))⟩
    · have pre11 := fun t (kt : At p e below T7 m 12 #[vR ab, vI ch, vI 0, vI 3, vI 2] [(.int 2), (.ref ab)] t) => pre9 t (by
        show At p e below T7 m 16 #[vR ab, vI ch, vI 0, vI 3, vI 1] [(.int ch), (.int q2)] _
        refine XS.icmpYes X7.here hx rfl (pc0 := 16) (pc' := 22) rfl (hb hby d30_16) rfl (feq (d2 : ¬ (q2 = ch))).2 (by decide) (by decide) ?_
        show At p e below T7 m 22 #[vR ab, vI ch, vI 0, vI 3, vI 1] [] _
        refine XS.iinc X7.here hx rfl (hb hby d30_22) rfl (l' := #[vR ab, vI ch, vI 0, vI 3, .val (.int ((1 : Int32) + (1 : Int32)))]) rfl ?_
        show At p e below T7 m 25 #[vR ab, vI ch, vI 0, vI 3, .val (.int ((1 : Int32) + (1 : Int32)))] [] _
        show At p e below T7 m 25 #[vR ab, vI ch, vI 0, vI 3, vI 2] [] _
        refine XS.goto X7.here hx rfl (pc0 := 25) (pc' := 3) rfl (hb hby d30_25) (by decide) (by decide) ?_
        show At p e below T7 m 3 #[vR ab, vI ch, vI 0, vI 3, vI 2] [] _
        refine XS.iload X7.here hx rfl (hb hby d30_3) rfl ?_
        show At p e below T7 m 5 #[vR ab, vI ch, vI 0, vI 3, vI 2] [(.int 2)] _
        refine XS.iloadN X7.here hx rfl (hb hby d30_5) rfl ?_
        show At p e below T7 m 6 #[vR ab, vI ch, vI 0, vI 3, vI 2] [(.int 3), (.int 2)] _
        refine XS.icmpNo X7.here hx rfl (hb hby d30_6) rfl (tlt (by decide : (2 : Int32) < (3 : Int32))).2.1 ?_
        show At p e below T7 m 9 #[vR ab, vI ch, vI 0, vI 3, vI 2] [] _
        refine XS.aloadN X7.here hx rfl (hb hby d30_9) rfl rfl ?_
        show At p e below T7 m 10 #[vR ab, vI ch, vI 0, vI 3, vI 2] [(.ref ab)] _
        refine XS.iload X7.here hx rfl (hb hby d30_10) rfl ?_
        exact kt)
      obtain ⟨_, _, ⟨T12, L12, kc12, nc12⟩, -, X12, ⟨Lc12, hQ12, l12, y12, z12⟩, st12⟩ := Jvm.LawKit.callS X7 hx (y := (⟨"java/lang/StringUTF16", "getChar", "([BI)C"⟩ : MethodName)) hown (mvT hZ (wd hw 101 rfl)) (mvT hZ (wd hw 102 rfl)) (mvT hZ (wd hw 70 rfl)) (mvT hZ (wd hw 103 rfl)) (by decide) (backOf (W := 0) (rm23 l Z a0 hw [] ab kb (6 : Int32) _ (2 : Int32) (nar .byte ((q3 >>> ((0 : Int32) &&& 31)).toInt8.toInt32)) (nar .byte ((q3 >>> ((8 : Int32) &&& 31)).toInt8.toInt32)) h0 n0 O0 SA SH SL Vb ⟨by decide, by decide⟩ ⟨by decide, by decide⟩ (by rw [show ((2 : Int32) <<< ((1 : Int32) &&& 31)) = (4 : Int32) from by decide]; rfl) (by rw [show (((2 : Int32) <<< ((1 : Int32) &&& 31)) + (1 : Int32)) = (5 : Int32) from by decide]; rfl)) hZ (wd hw 103 rfl) (wd hw 70 rfl) (by decide) (by decide)) (g := (mkF m 12 #[vR ab, vI ch, vI 0, vI 3, vI 2] [(.int 2), (.ref ab)])) rfl (by rw [hml]; rfl) (argsL := [(.ref ab), (.int 2)]) (rest := []) (lenOf pd_5 rfl) rfl (by show 2 * 0 + _ ≤ _; exact Nat.le_of_eq rfl) (hb hby d30_12) (fun _ _ => ⟨rfl, he7, (by decide : 0 + 0 ≤ _), (by decide : 0 + 0 ≤ _)⟩)
      dsimp only [Pt.U, Pt.locs, Pt.cells, Pt.slots] at X12 l12 y12 z12 st12 hQ12
      subst l12 y12 z12
      obtain ⟨rfl, N12q, he12⟩ := hQ12
      have N12 := Fr.app N7 N12q
      have pre13 := fun t (kt : At p e below T12 m 15 #[vR ab, vI ch, vI 0, vI 3, vI 2] [(.int (own_gc (nar .byte ((q3 >>> ((0 : Int32) &&& 31)).toInt8.toInt32)) (nar .byte ((q3 >>> ((8 : Int32) &&& 31)).toInt8.toInt32))))] t) => pre11 t (st12 _ kt)
      have pre14 := fun t (kt : At p e below T12 m 16 #[vR ab, vI ch, vI 0, vI 3, vI 2] [(.int ch), (.int q3)] t) => pre13 t (by
        show At p e below T12 m 15 #[vR ab, vI ch, vI 0, vI 3, vI 2] [(.int (own_gc (nar .byte ((q3 >>> ((0 : Int32) &&& 31)).toInt8.toInt32)) (nar .byte ((q3 >>> ((8 : Int32) &&& 31)).toInt8.toInt32))))] _
        rw [show (own_gc (nar .byte ((q3 >>> ((0 : Int32) &&& 31)).toInt8.toInt32)) (nar .byte ((q3 >>> ((8 : Int32) &&& 31)).toInt8.toInt32))) = q3 from own_gcq R3]
        show At p e below T12 m 15 #[vR ab, vI ch, vI 0, vI 3, vI 2] [(.int q3)] _
        refine XS.iloadN X12.here hx rfl (hb hby d30_15) rfl ?_
        exact kt)
      by_cases d3 : q3 = ch
      · have pre15 := fun t (kt : At p e below T12 m 21 #[vR ab, vI ch, vI 0, vI 3, vI 2] [(.int 2)] t) => pre14 t (by
          show At p e below T12 m 16 #[vR ab, vI ch, vI 0, vI 3, vI 2] [(.int ch), (.int q3)] _
          refine XS.icmpNo X12.here hx rfl (hb hby d30_16) rfl (teq (d3 : q3 = ch)).2 ?_
          show At p e below T12 m 19 #[vR ab, vI ch, vI 0, vI 3, vI 2] [] _
          refine XS.iload X12.here hx rfl (hb hby d30_19) rfl ?_
          exact kt)
        obtain ⟨fs, hr, hrun, hended, hW, hsame⟩ := X12.leave (v := (some (.int 2))) (fun h => by rw [Bd.returns] at h; cases h)
        refine ⟨_, _, pre15 _ ?_, hrun, hended, _, _, rfl, ?_, ⟨_, rfl⟩, hW, hsame.mono (by decide) (by decide)⟩
        · show At p e below T12 m 21 #[vR ab, vI ch, vI 0, vI 3, vI 2] [(.int 2)] _
          exact retI X12 hx Bd.returns (hb hby d30_21) hr
        · show Q30_3 Z ab kb ch q1 q2 q3 h0 n0 _ T12.heap _
          rw [he12]
          exact ⟨_, rfl, N12, rfl, iff_of_true (by decide) (own_there (own_there (own_here d3)))⟩
      · have pre16 := fun t (kt : At p e below T12 m 29 #[vR ab, vI ch, vI 0, vI 3, vI 3] [(.int (-1 : Int32))] t) => pre14 t (by
          show At p e below T12 m 16 #[vR ab, vI ch, vI 0, vI 3, vI 2] [(.int ch), (.int q3)] _
          refine XS.icmpYes X12.here hx rfl (pc0 := 16) (pc' := 22) rfl (hb hby d30_16) rfl (feq (d3 : ¬ (q3 = ch))).2 (by decide) (by decide) ?_
          show At p e below T12 m 22 #[vR ab, vI ch, vI 0, vI 3, vI 2] [] _
          refine XS.iinc X12.here hx rfl (hb hby d30_22) rfl (l' := #[vR ab, vI ch, vI 0, vI 3, .val (.int ((2 : Int32) + (1 : Int32)))]) rfl ?_
          show At p e below T12 m 25 #[vR ab, vI ch, vI 0, vI 3, .val (.int ((2 : Int32) + (1 : Int32)))] [] _
          show At p e below T12 m 25 #[vR ab, vI ch, vI 0, vI 3, vI 3] [] _
          refine XS.goto X12.here hx rfl (pc0 := 25) (pc' := 3) rfl (hb hby d30_25) (by decide) (by decide) ?_
          show At p e below T12 m 3 #[vR ab, vI ch, vI 0, vI 3, vI 3] [] _
          refine XS.iload X12.here hx rfl (hb hby d30_3) rfl ?_
          show At p e below T12 m 5 #[vR ab, vI ch, vI 0, vI 3, vI 3] [(.int 3)] _
          refine XS.iloadN X12.here hx rfl (hb hby d30_5) rfl ?_
          show At p e below T12 m 6 #[vR ab, vI ch, vI 0, vI 3, vI 3] [(.int 3), (.int 3)] _
          refine XS.icmpYes X12.here hx rfl (pc0 := 6) (pc' := 28) rfl (hb hby d30_6) rfl (flt (by decide : ¬ ((3 : Int32) < (3 : Int32)))).2.1 (by decide) (by decide) ?_
          show At p e below T12 m 28 #[vR ab, vI ch, vI 0, vI 3, vI 3] [] _
          refine XS.iconst X12.here hx rfl (hb hby d30_28) ?_
          exact kt)
        obtain ⟨fs, hr, hrun, hended, hW, hsame⟩ := X12.leave (v := (some (.int (-1 : Int32)))) (fun h => by rw [Bd.returns] at h; cases h)
        refine ⟨_, _, pre16 _ ?_, hrun, hended, _, _, rfl, ?_, ⟨_, rfl⟩, hW, hsame.mono (by decide) (by decide)⟩
        · show At p e below T12 m 29 #[vR ab, vI ch, vI 0, vI 3, vI 3] [(.int (-1 : Int32))] _
          exact retI X12 hx Bd.returns (hb hby d30_29) hr
        · show Q30_3 Z ab kb ch q1 q2 q3 h0 n0 _ T12.heap _
          rw [he12]
          exact ⟨_, rfl, N12, rfl, iff_of_false (by decide) (own_no d1 (own_no d2 (own_no d3 (own_nil))))⟩
theorem ef_30_4 (m : MethodId) (ab : Addr) (ch : Int32) : entryFrame m #[(.ref ab), (.int ch), (.int 0), (.int 4)] 5 = (mkF m 0 #[vR ab, vI ch, vI 0, vI 4, vU] []) := by first | (simp [entryFrame, mkF, argsToLocals, Value.category]; done) | rfl
def Q30_4 (Z : State) (ab : Addr) (kb : ClassId) (ch : Int32) (q1 : Int32) (q2 : Int32) (q3 : Int32) (q4 : Int32) (h0 : Heap) (n0 : Nat) (v : Option Value) (h : Heap) (L : List Loc) : Prop := ∃ r : Int32, v = some (.int r) ∧ Fr n0 L ∧ h = h0 ∧ (¬ (r < (0 : Int32)) ↔ ch ∈ [q1, q2, q3, q4])
set_option maxRecDepth 65536 in
set_option maxHeartbeats 40000000 in
theorem rm30_4 (l : Launch) (Z : State) (a0 : Array Value) (hw : ∀ d ∈ tables_1, d.before a0 Z = true) (ws : List Jvm.Cond) (ab : Addr) (kb : ClassId) (ch : Int32) (q1 : Int32) (q2 : Int32) (q3 : Int32) (q4 : Int32) (h0 : Heap) (n0 : Nat) (O0 : Old Z n0 h0) (SA : Sta Z Z.heap "java/lang/StringUTF16" "$assertionsDisabled" "Z" (.int 1)) (SH : Sta Z Z.heap "java/lang/StringUTF16" "HI_BYTE_SHIFT" "I" (.int 0)) (SL : Sta Z Z.heap "java/lang/StringUTF16" "LO_BYTE_SHIFT" "I" (.int 8)) (Vb : Arv Z h0 ab kb .byte (8 : Int32) [(.int (nar .byte ((q1 >>> ((0 : Int32) &&& 31)).toInt8.toInt32))), (.int (nar .byte ((q1 >>> ((8 : Int32) &&& 31)).toInt8.toInt32))), (.int (nar .byte ((q2 >>> ((0 : Int32) &&& 31)).toInt8.toInt32))), (.int (nar .byte ((q2 >>> ((8 : Int32) &&& 31)).toInt8.toInt32))), (.int (nar .byte ((q3 >>> ((0 : Int32) &&& 31)).toInt8.toInt32))), (.int (nar .byte ((q3 >>> ((8 : Int32) &&& 31)).toInt8.toInt32))), (.int (nar .byte ((q4 >>> ((0 : Int32) &&& 31)).toInt8.toInt32))), (.int (nar .byte ((q4 >>> ((8 : Int32) &&& 31)).toInt8.toInt32)))] (.int 0)) (R1 : own_R q1) (R2 : own_R q2) (R3 : own_R q3) (R4 : own_R q4) :
    MetFree l (⟨"java/lang/StringUTF16", "indexOfCharUnsafe", "([BIII)I"⟩ : MethodName) (head1 (Jvm.Cond.code (⟨"java/lang/StringUTF16", "indexOfCharUnsafe", "([BIII)I"⟩ : MethodName) jdk_52_method_48_code 5 (some .int) :: ws) ({ frames := 1, cells := 0, slots := 0, locals := 13 } : Room)) (fun a U => a = #[(.ref ab), (.int ch), (.int 0), (.int 4)] ∧ Z.Warmed39 U.vm ∧ U.heap = h0) (fun _ _ _ _ _ => True) (fun _ U o U' => ∃ v L, o = .returned v ∧ Q30_4 Z ab kb ch q1 q2 q3 q4 h0 n0 v U'.heap L ∧ FrameEnd U o U' L ({ frames := 1, cells := 0, slots := 0, locals := 13 } : Room).cells ({ frames := 1, cells := 0, slots := 0, locals := 13 } : Room).slots) := by
  refine MetFree.of_bodySF (plainFor_of_name pn_3) hisR ?_
  intro p e s m args below meth c s₁ Bd hml0 hP hK
  obtain ⟨rfl, hZ, hh⟩ := hP
  have hx := Bd.exec
  have hby := Bd.bytes
  have hml : c.maxLocals = 5 := hml0
  have hown : s.vm.findClass "java/lang/StringUTF16" = some m.cls := findClass_of_methodNamed Bd.named
  have hnm := (name_of_methodNamed Bd.named Bd.method).1
  have X0 : Stand p l e ({ frames := 1, cells := 0, slots := 0, locals := 13 } : Room) s m #[(.ref ab), (.int ch), (.int 0), (.int 4)] below meth c s₁ [] 0 0 := Stand.of_body Bd
  have e0 : s₁.heap = h0 := by rw [← hh, Bd.state]; rfl
  have N0 := Fr.nil n0
  have Z0 : n0 ≤ h0.size := O0.1 ▸ O0.2.1
  have pre0 : ∀ t, At p e below s₁ m 0 #[vR ab, vI ch, vI 0, vI 4, vU] [] t → Steps p.tables e below (s₁.setTop (entryFrame m #[(.ref ab), (.int ch), (.int 0), (.int 4)] 5)) t := fun t k => castTop (ef_30_4 m ab ch) k
  have pre1 := fun t (kt : At p e below s₁ m 12 #[vR ab, vI ch, vI 0, vI 4, vI 0] [(.int 0), (.ref ab)] t) => pre0 t (by
    show At p e below s₁ m 0 #[vR ab, vI ch, vI 0, vI 4, vU] [] _
    refine XS.iloadN X0.here hx rfl (hb hby d30_0) rfl ?_
    show At p e below s₁ m 1 #[vR ab, vI ch, vI 0, vI 4, vU] [(.int 0)] _
    refine XS.istore X0.here hx rfl (hb hby d30_1) rfl (l' := #[vR ab, vI ch, vI 0, vI 4, vI 0]) rfl ?_
    show At p e below s₁ m 3 #[vR ab, vI ch, vI 0, vI 4, vI 0] [] _
    refine XS.iload X0.here hx rfl (hb hby d30_3) rfl ?_
    show At p e below s₁ m 5 #[vR ab, vI ch, vI 0, vI 4, vI 0] [(.int 0)] _
    refine XS.iloadN X0.here hx rfl (hb hby d30_5) rfl ?_
    show At p e below s₁ m 6 #[vR ab, vI ch, vI 0, vI 4, vI 0] [(.int 4), (.int 0)] _
    refine XS.icmpNo X0.here hx rfl (hb hby d30_6) rfl (tlt (by decide : (0 : Int32) < (4 : Int32))).2.1 ?_
    show At p e below s₁ m 9 #[vR ab, vI ch, vI 0, vI 4, vI 0] [] _
    refine XS.aloadN X0.here hx rfl (hb hby d30_9) rfl rfl ?_
    show At p e below s₁ m 10 #[vR ab, vI ch, vI 0, vI 4, vI 0] [(.ref ab)] _
    refine XS.iload X0.here hx rfl (hb hby d30_10) rfl ?_
    exact kt)
  obtain ⟨_, _, ⟨T2, L2, kc2, nc2⟩, -, X2, ⟨Lc2, hQ2, l2, y2, z2⟩, st2⟩ := Jvm.LawKit.callS X0 hx (y := (⟨"java/lang/StringUTF16", "getChar", "([BI)C"⟩ : MethodName)) hown (mvT hZ (wd hw 101 rfl)) (mvT hZ (wd hw 102 rfl)) (mvT hZ (wd hw 70 rfl)) (mvT hZ (wd hw 103 rfl)) (by decide) (backOf (W := 0) (rm23 l Z a0 hw [] ab kb (8 : Int32) _ (0 : Int32) (nar .byte ((q1 >>> ((0 : Int32) &&& 31)).toInt8.toInt32)) (nar .byte ((q1 >>> ((8 : Int32) &&& 31)).toInt8.toInt32)) h0 n0 O0 SA SH SL Vb ⟨by decide, by decide⟩ ⟨by decide, by decide⟩ (by rw [show ((0 : Int32) <<< ((1 : Int32) &&& 31)) = (0 : Int32) from by decide]; rfl) (by rw [show (((0 : Int32) <<< ((1 : Int32) &&& 31)) + (1 : Int32)) = (1 : Int32) from by decide]; rfl)) hZ (wd hw 103 rfl) (wd hw 70 rfl) (by decide) (by decide)) (g := (mkF m 12 #[vR ab, vI ch, vI 0, vI 4, vI 0] [(.int 0), (.ref ab)])) rfl (by rw [hml]; rfl) (argsL := [(.ref ab), (.int 0)]) (rest := []) (lenOf pd_5 rfl) rfl (by show 2 * 0 + _ ≤ _; exact Nat.le_of_eq rfl) (hb hby d30_12) (fun _ _ => ⟨rfl, e0, (by decide : 0 + 0 ≤ _), (by decide : 0 + 0 ≤ _)⟩)
  dsimp only [Pt.U, Pt.locs, Pt.cells, Pt.slots] at X2 l2 y2 z2 st2 hQ2
  subst l2 y2 z2
  obtain ⟨rfl, N2q, he2⟩ := hQ2
  have N2 := Fr.app N0 N2q
  have pre3 := fun t (kt : At p e below T2 m 15 #[vR ab, vI ch, vI 0, vI 4, vI 0] [(.int (own_gc (nar .byte ((q1 >>> ((0 : Int32) &&& 31)).toInt8.toInt32)) (nar .byte ((q1 >>> ((8 : Int32) &&& 31)).toInt8.toInt32))))] t) => pre1 t (st2 _ kt)
  have pre4 := fun t (kt : At p e below T2 m 16 #[vR ab, vI ch, vI 0, vI 4, vI 0] [(.int ch), (.int q1)] t) => pre3 t (by
    show At p e below T2 m 15 #[vR ab, vI ch, vI 0, vI 4, vI 0] [(.int (own_gc (nar .byte ((q1 >>> ((0 : Int32) &&& 31)).toInt8.toInt32)) (nar .byte ((q1 >>> ((8 : Int32) &&& 31)).toInt8.toInt32))))] _
    rw [show (own_gc (nar .byte ((q1 >>> ((0 : Int32) &&& 31)).toInt8.toInt32)) (nar .byte ((q1 >>> ((8 : Int32) &&& 31)).toInt8.toInt32))) = q1 from own_gcq R1]
    show At p e below T2 m 15 #[vR ab, vI ch, vI 0, vI 4, vI 0] [(.int q1)] _
    refine XS.iloadN X2.here hx rfl (hb hby d30_15) rfl ?_
    exact kt)
  by_cases d1 : q1 = ch
  · have pre5 := fun t (kt : At p e below T2 m 21 #[vR ab, vI ch, vI 0, vI 4, vI 0] [(.int 0)] t) => pre4 t (by
      show At p e below T2 m 16 #[vR ab, vI ch, vI 0, vI 4, vI 0] [(.int ch), (.int q1)] _
      refine XS.icmpNo X2.here hx rfl (hb hby d30_16) rfl (teq (d1 : q1 = ch)).2 ?_
      show At p e below T2 m 19 #[vR ab, vI ch, vI 0, vI 4, vI 0] [] _
      refine XS.iload X2.here hx rfl (hb hby d30_19) rfl ?_
      exact kt)
    obtain ⟨fs, hr, hrun, hended, hW, hsame⟩ := X2.leave (v := (some (.int 0))) (fun h => by rw [Bd.returns] at h; cases h)
    refine ⟨_, _, pre5 _ ?_, hrun, hended, _, _, rfl, ?_, ⟨_, rfl⟩, hW, hsame.mono (by decide) (by decide)⟩
    · show At p e below T2 m 21 #[vR ab, vI ch, vI 0, vI 4, vI 0] [(.int 0)] _
      exact retI X2 hx Bd.returns (hb hby d30_21) hr
    · show Q30_4 Z ab kb ch q1 q2 q3 q4 h0 n0 _ T2.heap _
      rw [he2]
      exact ⟨_, rfl, N2, rfl, iff_of_true (by decide) (own_here d1)⟩
  · have pre6 := fun t (kt : At p e below T2 m 12 #[vR ab, vI ch, vI 0, vI 4, vI 1] [(.int 1), (.ref ab)] t) => pre4 t (by
      show At p e below T2 m 16 #[vR ab, vI ch, vI 0, vI 4, vI 0] [(.int ch), (.int q1)] _
      refine XS.icmpYes X2.here hx rfl (pc0 := 16) (pc' := 22) rfl (hb hby d30_16) rfl (feq (d1 : ¬ (q1 = ch))).2 (by decide) (by decide) ?_
      show At p e below T2 m 22 #[vR ab, vI ch, vI 0, vI 4, vI 0] [] _
      refine XS.iinc X2.here hx rfl (hb hby d30_22) rfl (l' := #[vR ab, vI ch, vI 0, vI 4, .val (.int ((0 : Int32) + (1 : Int32)))]) rfl ?_
      show At p e below T2 m 25 #[vR ab, vI ch, vI 0, vI 4, .val (.int ((0 : Int32) + (1 : Int32)))] [] _
      show At p e below T2 m 25 #[vR ab, vI ch, vI 0, vI 4, vI 1] [] _
      refine XS.goto X2.here hx rfl (pc0 := 25) (pc' := 3) rfl (hb hby d30_25) (by decide) (by decide) ?_
      show At p e below T2 m 3 #[vR ab, vI ch, vI 0, vI 4, vI 1] [] _
      refine XS.iload X2.here hx rfl (hb hby d30_3) rfl ?_
      show At p e below T2 m 5 #[vR ab, vI ch, vI 0, vI 4, vI 1] [(.int 1)] _
      refine XS.iloadN X2.here hx rfl (hb hby d30_5) rfl ?_
      show At p e below T2 m 6 #[vR ab, vI ch, vI 0, vI 4, vI 1] [(.int 4), (.int 1)] _
      refine XS.icmpNo X2.here hx rfl (hb hby d30_6) rfl (tlt (by decide : (1 : Int32) < (4 : Int32))).2.1 ?_
      show At p e below T2 m 9 #[vR ab, vI ch, vI 0, vI 4, vI 1] [] _
      refine XS.aloadN X2.here hx rfl (hb hby d30_9) rfl rfl ?_
      show At p e below T2 m 10 #[vR ab, vI ch, vI 0, vI 4, vI 1] [(.ref ab)] _
      refine XS.iload X2.here hx rfl (hb hby d30_10) rfl ?_
      exact kt)
    obtain ⟨_, _, ⟨T7, L7, kc7, nc7⟩, -, X7, ⟨Lc7, hQ7, l7, y7, z7⟩, st7⟩ := Jvm.LawKit.callS X2 hx (y := (⟨"java/lang/StringUTF16", "getChar", "([BI)C"⟩ : MethodName)) hown (mvT hZ (wd hw 101 rfl)) (mvT hZ (wd hw 102 rfl)) (mvT hZ (wd hw 70 rfl)) (mvT hZ (wd hw 103 rfl)) (by decide) (backOf (W := 0) (rm23 l Z a0 hw [] ab kb (8 : Int32) _ (1 : Int32) (nar .byte ((q2 >>> ((0 : Int32) &&& 31)).toInt8.toInt32)) (nar .byte ((q2 >>> ((8 : Int32) &&& 31)).toInt8.toInt32)) h0 n0 O0 SA SH SL Vb ⟨by decide, by decide⟩ ⟨by decide, by decide⟩ (by rw [show ((1 : Int32) <<< ((1 : Int32) &&& 31)) = (2 : Int32) from by decide]; rfl) (by rw [show (((1 : Int32) <<< ((1 : Int32) &&& 31)) + (1 : Int32)) = (3 : Int32) from by decide]; rfl)) hZ (wd hw 103 rfl) (wd hw 70 rfl) (by decide) (by decide)) (g := (mkF m 12 #[vR ab, vI ch, vI 0, vI 4, vI 1] [(.int 1), (.ref ab)])) rfl (by rw [hml]; rfl) (argsL := [(.ref ab), (.int 1)]) (rest := []) (lenOf pd_5 rfl) rfl (by show 2 * 0 + _ ≤ _; exact Nat.le_of_eq rfl) (hb hby d30_12) (fun _ _ => ⟨rfl, he2, (by decide : 0 + 0 ≤ _), (by decide : 0 + 0 ≤ _)⟩)
    dsimp only [Pt.U, Pt.locs, Pt.cells, Pt.slots] at X7 l7 y7 z7 st7 hQ7
    subst l7 y7 z7
    obtain ⟨rfl, N7q, he7⟩ := hQ7
    have N7 := Fr.app N2 N7q
    have pre8 := fun t (kt : At p e below T7 m 15 #[vR ab, vI ch, vI 0, vI 4, vI 1] [(.int (own_gc (nar .byte ((q2 >>> ((0 : Int32) &&& 31)).toInt8.toInt32)) (nar .byte ((q2 >>> ((8 : Int32) &&& 31)).toInt8.toInt32))))] t) => pre6 t (st7 _ kt)
    have pre9 := fun t (kt : At p e below T7 m 16 #[vR ab, vI ch, vI 0, vI 4, vI 1] [(.int ch), (.int q2)] t) => pre8 t (by
      show At p e below T7 m 15 #[vR ab, vI ch, vI 0, vI 4, vI 1] [(.int (own_gc (nar .byte ((q2 >>> ((0 : Int32) &&& 31)).toInt8.toInt32)) (nar .byte ((q2 >>> ((8 : Int32) &&& 31)).toInt8.toInt32))))] _
      rw [show (own_gc (nar .byte ((q2 >>> ((0 : Int32) &&& 31)).toInt8.toInt32)) (nar .byte ((q2 >>> ((8 : Int32) &&& 31)).toInt8.toInt32))) = q2 from own_gcq R2]
      show At p e below T7 m 15 #[vR ab, vI ch, vI 0, vI 4, vI 1] [(.int q2)] _
      refine XS.iloadN X7.here hx rfl (hb hby d30_15) rfl ?_
      exact kt)
    by_cases d2 : q2 = ch
    · have pre10 := fun t (kt : At p e below T7 m 21 #[vR ab, vI ch, vI 0, vI 4, vI 1] [(.int 1)] t) => pre9 t (by
        show At p e below T7 m 16 #[vR ab, vI ch, vI 0, vI 4, vI 1] [(.int ch), (.int q2)] _
        refine XS.icmpNo X7.here hx rfl (hb hby d30_16) rfl (teq (d2 : q2 = ch)).2 ?_
        show At p e below T7 m 19 #[vR ab, vI ch, vI 0, vI 4, vI 1] [] _
        refine XS.iload X7.here hx rfl (hb hby d30_19) rfl ?_
        exact kt)
      obtain ⟨fs, hr, hrun, hended, hW, hsame⟩ := X7.leave (v := (some (.int 1))) (fun h => by rw [Bd.returns] at h; cases h)
      refine ⟨_, _, pre10 _ ?_, hrun, hended, _, _, rfl, ?_, ⟨_, rfl⟩, hW, hsame.mono (by decide) (by decide)⟩
      · show At p e below T7 m 21 #[vR ab, vI ch, vI 0, vI 4, vI 1] [(.int 1)] _
        exact retI X7 hx Bd.returns (hb hby d30_21) hr
      · show Q30_4 Z ab kb ch q1 q2 q3 q4 h0 n0 _ T7.heap _
        rw [he7]
        exact ⟨_, rfl, N7, rfl, iff_of_true (by decide) (own_there (own_here d2))⟩
    · have pre11 := fun t (kt : At p e below T7 m 12 #[vR ab, vI ch, vI 0, vI 4, vI 2] [(.int 2), (.ref ab)] t) => pre9 t (by
        show At p e below T7 m 16 #[vR ab, vI ch, vI 0, vI 4, vI 1] [(.int ch), (.int q2)] _
        refine XS.icmpYes X7.here hx rfl (pc0 := 16) (pc' := 22) rfl (hb hby d30_16) rfl (feq (d2 : ¬ (q2 = ch))).2 (by decide) (by decide) ?_
        show At p e below T7 m 22 #[vR ab, vI ch, vI 0, vI 4, vI 1] [] _
        refine XS.iinc X7.here hx rfl (hb hby d30_22) rfl (l' := #[vR ab, vI ch, vI 0, vI 4, .val (.int ((1 : Int32) + (1 : Int32)))]) rfl ?_
        show At p e below T7 m 25 #[vR ab, vI ch, vI 0, vI 4, .val (.int ((1 : Int32) + (1 : Int32)))] [] _
        show At p e below T7 m 25 #[vR ab, vI ch, vI 0, vI 4, vI 2] [] _
        refine XS.goto X7.here hx rfl (pc0 := 25) (pc' := 3) rfl (hb hby d30_25) (by decide) (by decide) ?_
        show At p e below T7 m 3 #[vR ab, vI ch, vI 0, vI 4, vI 2] [] _
        refine XS.iload X7.here hx rfl (hb hby d30_3) rfl ?_
        show At p e below T7 m 5 #[vR ab, vI ch, vI 0, vI 4, vI 2] [(.int 2)] _
        refine XS.iloadN X7.here hx rfl (hb hby d30_5) rfl ?_
        show At p e below T7 m 6 #[vR ab, vI ch, vI 0, vI 4, vI 2] [(.int 4), (.int 2)] _
        refine XS.icmpNo X7.here hx rfl (hb hby d30_6) rfl (tlt (by decide : (2 : Int32) < (4 : Int32))).2.1 ?_
        show At p e below T7 m 9 #[vR ab, vI ch, vI 0, vI 4, vI 2] [] _
        refine XS.aloadN X7.here hx rfl (hb hby d30_9) rfl rfl ?_
        show At p e below T7 m 10 #[vR ab, vI ch, vI 0, vI 4, vI 2] [(.ref ab)] _
        refine XS.iload X7.here hx rfl (hb hby d30_10) rfl ?_
        exact kt)
      obtain ⟨_, _, ⟨T12, L12, kc12, nc12⟩, -, X12, ⟨Lc12, hQ12, l12, y12, z12⟩, st12⟩ := Jvm.LawKit.callS X7 hx (y := (⟨"java/lang/StringUTF16", "getChar", "([BI)C"⟩ : MethodName)) hown (mvT hZ (wd hw 101 rfl)) (mvT hZ (wd hw 102 rfl)) (mvT hZ (wd hw 70 rfl)) (mvT hZ (wd hw 103 rfl)) (by decide) (backOf (W := 0) (rm23 l Z a0 hw [] ab kb (8 : Int32) _ (2 : Int32) (nar .byte ((q3 >>> ((0 : Int32) &&& 31)).toInt8.toInt32)) (nar .byte ((q3 >>> ((8 : Int32) &&& 31)).toInt8.toInt32)) h0 n0 O0 SA SH SL Vb ⟨by decide, by decide⟩ ⟨by decide, by decide⟩ (by rw [show ((2 : Int32) <<< ((1 : Int32) &&& 31)) = (4 : Int32) from by decide]; rfl) (by rw [show (((2 : Int32) <<< ((1 : Int32) &&& 31)) + (1 : Int32)) = (5 : Int32) from by decide]; rfl)) hZ (wd hw 103 rfl) (wd hw 70 rfl) (by decide) (by decide)) (g := (mkF m 12 #[vR ab, vI ch, vI 0, vI 4, vI 2] [(.int 2), (.ref ab)])) rfl (by rw [hml]; rfl) (argsL := [(.ref ab), (.int 2)]) (rest := []) (lenOf pd_5 rfl) rfl (by show 2 * 0 + _ ≤ _; exact Nat.le_of_eq rfl) (hb hby d30_12) (fun _ _ => ⟨rfl, he7, (by decide : 0 + 0 ≤ _), (by decide : 0 + 0 ≤ _)⟩)
      dsimp only [Pt.U, Pt.locs, Pt.cells, Pt.slots] at X12 l12 y12 z12 st12 hQ12
      subst l12 y12 z12
      obtain ⟨rfl, N12q, he12⟩ := hQ12
      have N12 := Fr.app N7 N12q
      have pre13 := fun t (kt : At p e below T12 m 15 #[vR ab, vI ch, vI 0, vI 4, vI 2] [(.int (own_gc (nar .byte ((q3 >>> ((0 : Int32) &&& 31)).toInt8.toInt32)) (nar .byte ((q3 >>> ((8 : Int32) &&& 31)).toInt8.toInt32))))] t) => pre11 t (st12 _ kt)
      have pre14 := fun t (kt : At p e below T12 m 16 #[vR ab, vI ch, vI 0, vI 4, vI 2] [(.int ch), (.int q3)] t) => pre13 t (by
        show At p e below T12 m 15 #[vR ab, vI ch, vI 0, vI 4, vI 2] [(.int (own_gc (nar .byte ((q3 >>> ((0 : Int32) &&& 31)).toInt8.toInt32)) (nar .byte ((q3 >>> ((8 : Int32) &&& 31)).toInt8.toInt32))))] _
        rw [show (own_gc (nar .byte ((q3 >>> ((0 : Int32) &&& 31)).toInt8.toInt32)) (nar .byte ((q3 >>> ((8 : Int32) &&& 31)).toInt8.toInt32))) = q3 from own_gcq R3]
        show At p e below T12 m 15 #[vR ab, vI ch, vI 0, vI 4, vI 2] [(.int q3)] _
        refine XS.iloadN X12.here hx rfl (hb hby d30_15) rfl ?_
        exact kt)
      by_cases d3 : q3 = ch
      · have pre15 := fun t (kt : At p e below T12 m 21 #[vR ab, vI ch, vI 0, vI 4, vI 2] [(.int 2)] t) => pre14 t (by
          show At p e below T12 m 16 #[vR ab, vI ch, vI 0, vI 4, vI 2] [(.int ch), (.int q3)] _
          refine XS.icmpNo X12.here hx rfl (hb hby d30_16) rfl (teq (d3 : q3 = ch)).2 ?_
          show At p e below T12 m 19 #[vR ab, vI ch, vI 0, vI 4, vI 2] [] _
          refine XS.iload X12.here hx rfl (hb hby d30_19) rfl ?_
          exact kt)
        obtain ⟨fs, hr, hrun, hended, hW, hsame⟩ := X12.leave (v := (some (.int 2))) (fun h => by rw [Bd.returns] at h; cases h)
        refine ⟨_, _, pre15 _ ?_, hrun, hended, _, _, rfl, ?_, ⟨_, rfl⟩, hW, hsame.mono (by decide) (by decide)⟩
        · show At p e below T12 m 21 #[vR ab, vI ch, vI 0, vI 4, vI 2] [(.int 2)] _
          exact retI X12 hx Bd.returns (hb hby d30_21) hr
        · show Q30_4 Z ab kb ch q1 q2 q3 q4 h0 n0 _ T12.heap _
          rw [he12]
          exact ⟨_, rfl, N12, rfl, iff_of_true (by decide) (own_there (own_there (own_here d3)))⟩
      · have pre16 := fun t (kt : At p e below T12 m 12 #[vR ab, vI ch, vI 0, vI 4, vI 3] [(.int 3), (.ref ab)] t) => pre14 t (by
          show At p e below T12 m 16 #[vR ab, vI ch, vI 0, vI 4, vI 2] [(.int ch), (.int q3)] _
          refine XS.icmpYes X12.here hx rfl (pc0 := 16) (pc' := 22) rfl (hb hby d30_16) rfl (feq (d3 : ¬ (q3 = ch))).2 (by decide) (by decide) ?_
          show At p e below T12 m 22 #[vR ab, vI ch, vI 0, vI 4, vI 2] [] _
          refine XS.iinc X12.here hx rfl (hb hby d30_22) rfl (l' := #[vR ab, vI ch, vI 0, vI 4, .val (.int ((2 : Int32) + (1 : Int32)))]) rfl ?_
          show At p e below T12 m 25 #[vR ab, vI ch, vI 0, vI 4, .val (.int ((2 : Int32) + (1 : Int32)))] [] _
          show At p e below T12 m 25 #[vR ab, vI ch, vI 0, vI 4, vI 3] [] _
          refine XS.goto X12.here hx rfl (pc0 := 25) (pc' := 3) rfl (hb hby d30_25) (by decide) (by decide) ?_
          show At p e below T12 m 3 #[vR ab, vI ch, vI 0, vI 4, vI 3] [] _
          refine XS.iload X12.here hx rfl (hb hby d30_3) rfl ?_
          show At p e below T12 m 5 #[vR ab, vI ch, vI 0, vI 4, vI 3] [(.int 3)] _
          refine XS.iloadN X12.here hx rfl (hb hby d30_5) rfl ?_
          show At p e below T12 m 6 #[vR ab, vI ch, vI 0, vI 4, vI 3] [(.int 4), (.int 3)] _
          refine XS.icmpNo X12.here hx rfl (hb hby d30_6) rfl (tlt (by decide : (3 : Int32) < (4 : Int32))).2.1 ?_
          show At p e below T12 m 9 #[vR ab, vI ch, vI 0, vI 4, vI 3] [] _
          refine XS.aloadN X12.here hx rfl (hb hby d30_9) rfl rfl ?_
          show At p e below T12 m 10 #[vR ab, vI ch, vI 0, vI 4, vI 3] [(.ref ab)] _
          refine XS.iload X12.here hx rfl (hb hby d30_10) rfl ?_
          exact kt)
        obtain ⟨_, _, ⟨T17, L17, kc17, nc17⟩, -, X17, ⟨Lc17, hQ17, l17, y17, z17⟩, st17⟩ := Jvm.LawKit.callS X12 hx (y := (⟨"java/lang/StringUTF16", "getChar", "([BI)C"⟩ : MethodName)) hown (mvT hZ (wd hw 101 rfl)) (mvT hZ (wd hw 102 rfl)) (mvT hZ (wd hw 70 rfl)) (mvT hZ (wd hw 103 rfl)) (by decide) (backOf (W := 0) (rm23 l Z a0 hw [] ab kb (8 : Int32) _ (3 : Int32) (nar .byte ((q4 >>> ((0 : Int32) &&& 31)).toInt8.toInt32)) (nar .byte ((q4 >>> ((8 : Int32) &&& 31)).toInt8.toInt32)) h0 n0 O0 SA SH SL Vb ⟨by decide, by decide⟩ ⟨by decide, by decide⟩ (by rw [show ((3 : Int32) <<< ((1 : Int32) &&& 31)) = (6 : Int32) from by decide]; rfl) (by rw [show (((3 : Int32) <<< ((1 : Int32) &&& 31)) + (1 : Int32)) = (7 : Int32) from by decide]; rfl)) hZ (wd hw 103 rfl) (wd hw 70 rfl) (by decide) (by decide)) (g := (mkF m 12 #[vR ab, vI ch, vI 0, vI 4, vI 3] [(.int 3), (.ref ab)])) rfl (by rw [hml]; rfl) (argsL := [(.ref ab), (.int 3)]) (rest := []) (lenOf pd_5 rfl) rfl (by show 2 * 0 + _ ≤ _; exact Nat.le_of_eq rfl) (hb hby d30_12) (fun _ _ => ⟨rfl, he12, (by decide : 0 + 0 ≤ _), (by decide : 0 + 0 ≤ _)⟩)
        dsimp only [Pt.U, Pt.locs, Pt.cells, Pt.slots] at X17 l17 y17 z17 st17 hQ17
        subst l17 y17 z17
        obtain ⟨rfl, N17q, he17⟩ := hQ17
        have N17 := Fr.app N12 N17q
        have pre18 := fun t (kt : At p e below T17 m 15 #[vR ab, vI ch, vI 0, vI 4, vI 3] [(.int (own_gc (nar .byte ((q4 >>> ((0 : Int32) &&& 31)).toInt8.toInt32)) (nar .byte ((q4 >>> ((8 : Int32) &&& 31)).toInt8.toInt32))))] t) => pre16 t (st17 _ kt)
        have pre19 := fun t (kt : At p e below T17 m 16 #[vR ab, vI ch, vI 0, vI 4, vI 3] [(.int ch), (.int q4)] t) => pre18 t (by
          show At p e below T17 m 15 #[vR ab, vI ch, vI 0, vI 4, vI 3] [(.int (own_gc (nar .byte ((q4 >>> ((0 : Int32) &&& 31)).toInt8.toInt32)) (nar .byte ((q4 >>> ((8 : Int32) &&& 31)).toInt8.toInt32))))] _
          rw [show (own_gc (nar .byte ((q4 >>> ((0 : Int32) &&& 31)).toInt8.toInt32)) (nar .byte ((q4 >>> ((8 : Int32) &&& 31)).toInt8.toInt32))) = q4 from own_gcq R4]
          show At p e below T17 m 15 #[vR ab, vI ch, vI 0, vI 4, vI 3] [(.int q4)] _
          refine XS.iloadN X17.here hx rfl (hb hby d30_15) rfl ?_
          exact kt)
        by_cases d4 : q4 = ch
        · have pre20 := fun t (kt : At p e below T17 m 21 #[vR ab, vI ch, vI 0, vI 4, vI 3] [(.int 3)] t) => pre19 t (by
            show At p e below T17 m 16 #[vR ab, vI ch, vI 0, vI 4, vI 3] [(.int ch), (.int q4)] _
            refine XS.icmpNo X17.here hx rfl (hb hby d30_16) rfl (teq (d4 : q4 = ch)).2 ?_
            show At p e below T17 m 19 #[vR ab, vI ch, vI 0, vI 4, vI 3] [] _
            refine XS.iload X17.here hx rfl (hb hby d30_19) rfl ?_
            exact kt)
          obtain ⟨fs, hr, hrun, hended, hW, hsame⟩ := X17.leave (v := (some (.int 3))) (fun h => by rw [Bd.returns] at h; cases h)
          refine ⟨_, _, pre20 _ ?_, hrun, hended, _, _, rfl, ?_, ⟨_, rfl⟩, hW, hsame.mono (by decide) (by decide)⟩
          · show At p e below T17 m 21 #[vR ab, vI ch, vI 0, vI 4, vI 3] [(.int 3)] _
            exact retI X17 hx Bd.returns (hb hby d30_21) hr
          · show Q30_4 Z ab kb ch q1 q2 q3 q4 h0 n0 _ T17.heap _
            rw [he17]
            exact ⟨_, rfl, N17, rfl, iff_of_true (by decide) (own_there (own_there (own_there (own_here d4))))⟩
        · have pre21 := fun t (kt : At p e below T17 m 29 #[vR ab, vI ch, vI 0, vI 4, vI 4] [(.int (-1 : Int32))] t) => pre19 t (by
            show At p e below T17 m 16 #[vR ab, vI ch, vI 0, vI 4, vI 3] [(.int ch), (.int q4)] _
            refine XS.icmpYes X17.here hx rfl (pc0 := 16) (pc' := 22) rfl (hb hby d30_16) rfl (feq (d4 : ¬ (q4 = ch))).2 (by decide) (by decide) ?_
            show At p e below T17 m 22 #[vR ab, vI ch, vI 0, vI 4, vI 3] [] _
            refine XS.iinc X17.here hx rfl (hb hby d30_22) rfl (l' := #[vR ab, vI ch, vI 0, vI 4, .val (.int ((3 : Int32) + (1 : Int32)))]) rfl ?_
            show At p e below T17 m 25 #[vR ab, vI ch, vI 0, vI 4, .val (.int ((3 : Int32) + (1 : Int32)))] [] _
            show At p e below T17 m 25 #[vR ab, vI ch, vI 0, vI 4, vI 4] [] _
            refine XS.goto X17.here hx rfl (pc0 := 25) (pc' := 3) rfl (hb hby d30_25) (by decide) (by decide) ?_
            show At p e below T17 m 3 #[vR ab, vI ch, vI 0, vI 4, vI 4] [] _
            refine XS.iload X17.here hx rfl (hb hby d30_3) rfl ?_
            show At p e below T17 m 5 #[vR ab, vI ch, vI 0, vI 4, vI 4] [(.int 4)] _
            refine XS.iloadN X17.here hx rfl (hb hby d30_5) rfl ?_
            show At p e below T17 m 6 #[vR ab, vI ch, vI 0, vI 4, vI 4] [(.int 4), (.int 4)] _
            refine XS.icmpYes X17.here hx rfl (pc0 := 6) (pc' := 28) rfl (hb hby d30_6) rfl (flt (by decide : ¬ ((4 : Int32) < (4 : Int32)))).2.1 (by decide) (by decide) ?_
            show At p e below T17 m 28 #[vR ab, vI ch, vI 0, vI 4, vI 4] [] _
            refine XS.iconst X17.here hx rfl (hb hby d30_28) ?_
            exact kt)
          obtain ⟨fs, hr, hrun, hended, hW, hsame⟩ := X17.leave (v := (some (.int (-1 : Int32)))) (fun h => by rw [Bd.returns] at h; cases h)
          refine ⟨_, _, pre21 _ ?_, hrun, hended, _, _, rfl, ?_, ⟨_, rfl⟩, hW, hsame.mono (by decide) (by decide)⟩
          · show At p e below T17 m 29 #[vR ab, vI ch, vI 0, vI 4, vI 4] [(.int (-1 : Int32))] _
            exact retI X17 hx Bd.returns (hb hby d30_29) hr
          · show Q30_4 Z ab kb ch q1 q2 q3 q4 h0 n0 _ T17.heap _
            rw [he17]
            exact ⟨_, rfl, N17, rfl, iff_of_false (by decide) (own_no d1 (own_no d2 (own_no d3 (own_no d4 (own_nil)))))⟩
theorem ef_25 (m : MethodId) (ab : Addr) (ch : Int32) (n : Int32) : entryFrame m #[(.ref ab), (.int ch), (.int 0), (.int n)] 4 = (mkF m 0 #[vR ab, vI ch, vI 0, vI n] []) := by first | (simp [entryFrame, mkF, argsToLocals, Value.category]; done) | rfl
theorem d25_0 : decode jdk_52_method_47_code 0 = .ok (.iload_n 2, 1) := by decide +kernel
theorem d25_1 : decode jdk_52_method_47_code 1 = .ok (.iload_n 3, 1) := by decide +kernel
theorem d25_2 : decode jdk_52_method_47_code 2 = .ok (.aload_n 0, 1) := by decide +kernel
theorem pd_15 : parseMethodDescriptor "(II[B)V" = some ⟨[.int, .int, (.array .byte)], none⟩ := by decide +kernel
theorem d25_3 : decode jdk_52_method_47_code 3 = .ok (.invokestatic 96, 3) := by decide +kernel
theorem d25_6 : decode jdk_52_method_47_code 6 = .ok (.aload_n 0, 1) := by decide +kernel
theorem d25_7 : decode jdk_52_method_47_code 7 = .ok (.iload_n 1, 1) := by decide +kernel
theorem d25_8 : decode jdk_52_method_47_code 8 = .ok (.iload_n 2, 1) := by decide +kernel
theorem d25_9 : decode jdk_52_method_47_code 9 = .ok (.iload_n 3, 1) := by decide +kernel
theorem d25_10 : decode jdk_52_method_47_code 10 = .ok (.invokestatic 244, 3) := by decide +kernel
theorem d25_13 : decode jdk_52_method_47_code 13 = .ok (.ireturn, 1) := by decide +kernel
def Q25 (Z : State) (ab : Addr) (kb : ClassId) (ch : Int32) (u : Value) (vs : List Value) (z : Int32) (n : Int32) (qs : List Int32) (h0 : Heap) (n0 : Nat) (v : Option Value) (h : Heap) (L : List Loc) : Prop := ∃ r : Int32, v = some (.int r) ∧ Fr n0 L ∧ h = h0 ∧ (¬ (r < (0 : Int32)) ↔ ch ∈ qs)
set_option maxRecDepth 65536 in
set_option maxHeartbeats 40000000 in
theorem rm25 (l : Launch) (Z : State) (a0 : Array Value) (hw : ∀ d ∈ tables_1, d.before a0 Z = true) (ws : List Jvm.Cond) (ab : Addr) (kb : ClassId) (ch : Int32) (u : Value) (vs : List Value) (z : Int32) (n : Int32) (qs : List Int32) (h0 : Heap) (n0 : Nat) (O0 : Old Z n0 h0) (hu : u.isRef = true) (SF : Sta Z Z.heap "jdk/internal/util/Preconditions" "SIOOBE_FORMATTER" "Ljava/util/function/BiFunction;" u) (Vb : Arv Z h0 ab kb .byte z vs (.int 0)) (hz : (z >>> ((1 : Int32) &&& 31)) = n) (hn : ¬ (n < (0 : Int32))) (hM : own_I l Z (⟨"java/lang/StringUTF16", "indexOfCharUnsafe", "([BIII)I"⟩ : MethodName) jdk_52_method_48_code 5 ({ frames := 1, cells := 0, slots := 0, locals := 13 } : Room) #[(.ref ab), (.int ch), (.int 0), (.int n)] h0 n0 ch qs) :
    MetFree l (⟨"java/lang/StringUTF16", "indexOfChar", "([BIII)I"⟩ : MethodName) (head1 (Jvm.Cond.code (⟨"java/lang/StringUTF16", "indexOfChar", "([BIII)I"⟩ : MethodName) jdk_52_method_47_code 4 (some .int) :: ws) ({ frames := 3, cells := 0, slots := 0, locals := 43 } : Room)) (fun a U => a = #[(.ref ab), (.int ch), (.int 0), (.int n)] ∧ Z.Warmed39 U.vm ∧ U.heap = h0) (fun _ _ _ _ _ => True) (fun _ U o U' => ∃ v L, o = .returned v ∧ Q25 Z ab kb ch u vs z n qs h0 n0 v U'.heap L ∧ FrameEnd U o U' L ({ frames := 3, cells := 0, slots := 0, locals := 43 } : Room).cells ({ frames := 3, cells := 0, slots := 0, locals := 43 } : Room).slots) := by
  refine MetFree.of_bodySF (plainFor_of_name pn_3) hisR ?_
  intro p e s m args below meth c s₁ Bd hml0 hP hK
  obtain ⟨rfl, hZ, hh⟩ := hP
  have hx := Bd.exec
  have hby := Bd.bytes
  have hml : c.maxLocals = 4 := hml0
  have hown : s.vm.findClass "java/lang/StringUTF16" = some m.cls := findClass_of_methodNamed Bd.named
  have hnm := (name_of_methodNamed Bd.named Bd.method).1
  have X0 : Stand p l e ({ frames := 3, cells := 0, slots := 0, locals := 43 } : Room) s m #[(.ref ab), (.int ch), (.int 0), (.int n)] below meth c s₁ [] 0 0 := Stand.of_body Bd
  have e0 : s₁.heap = h0 := by rw [← hh, Bd.state]; rfl
  have N0 := Fr.nil n0
  have Z0 : n0 ≤ h0.size := O0.1 ▸ O0.2.1
  have pre0 : ∀ t, At p e below s₁ m 0 #[vR ab, vI ch, vI 0, vI n] [] t → Steps p.tables e below (s₁.setTop (entryFrame m #[(.ref ab), (.int ch), (.int 0), (.int n)] 4)) t := fun t k => castTop (ef_25 m ab ch n) k
  have pre1 := fun t (kt : At p e below s₁ m 3 #[vR ab, vI ch, vI 0, vI n] [(.ref ab), (.int n), (.int 0)] t) => pre0 t (by
    show At p e below s₁ m 0 #[vR ab, vI ch, vI 0, vI n] [] _
    refine XS.iloadN X0.here hx rfl (hb hby d25_0) rfl ?_
    show At p e below s₁ m 1 #[vR ab, vI ch, vI 0, vI n] [(.int 0)] _
    refine XS.iloadN X0.here hx rfl (hb hby d25_1) rfl ?_
    show At p e below s₁ m 2 #[vR ab, vI ch, vI 0, vI n] [(.int n), (.int 0)] _
    refine XS.aloadN X0.here hx rfl (hb hby d25_2) rfl rfl ?_
    exact kt)
  obtain ⟨_, _, ⟨T2, L2, kc2, nc2⟩, -, X2, ⟨Lc2, hQ2, l2, y2, z2⟩, st2⟩ := Jvm.LawKit.callS X0 hx (y := (⟨"java/lang/StringUTF16", "checkBoundsBeginEnd", "(II[B)V"⟩ : MethodName)) hown (mvT hZ (wd hw 113 rfl)) (mvT hZ (wd hw 114 rfl)) (mvT hZ (wd hw 70 rfl)) (mvT hZ (wd hw 115 rfl)) (by decide) (backOf (W := 0) (rm26 l Z a0 hw [] u ab kb vs z n h0 n0 O0 hu SF Vb hz hn) hZ (wd hw 115 rfl) (wd hw 70 rfl) (by decide) (by decide)) (g := (mkF m 3 #[vR ab, vI ch, vI 0, vI n] [(.ref ab), (.int n), (.int 0)])) rfl (by rw [hml]; rfl) (argsL := [(.int 0), (.int n), (.ref ab)]) (rest := []) (lenOf pd_15 rfl) rfl (by show 2 * 0 + _ ≤ _; exact Nat.le_of_eq rfl) (hb hby d25_3) (fun _ _ => ⟨rfl, e0, (by decide : 0 + 0 ≤ _), (by decide : 0 + 0 ≤ _)⟩)
  dsimp only [Pt.U, Pt.locs, Pt.cells, Pt.slots] at X2 l2 y2 z2 st2 hQ2
  subst l2 y2 z2
  obtain ⟨rfl, N2q, he2⟩ := hQ2
  have N2 := Fr.app N0 N2q
  have pre3 := fun t (kt : At p e below T2 m 6 #[vR ab, vI ch, vI 0, vI n] [] t) => pre1 t (st2 _ kt)
  have pre4 := fun t (kt : At p e below T2 m 10 #[vR ab, vI ch, vI 0, vI n] [(.int n), (.int 0), (.int ch), (.ref ab)] t) => pre3 t (by
    show At p e below T2 m 6 #[vR ab, vI ch, vI 0, vI n] [] _
    refine XS.aloadN X2.here hx rfl (hb hby d25_6) rfl rfl ?_
    show At p e below T2 m 7 #[vR ab, vI ch, vI 0, vI n] [(.ref ab)] _
    refine XS.iloadN X2.here hx rfl (hb hby d25_7) rfl ?_
    show At p e below T2 m 8 #[vR ab, vI ch, vI 0, vI n] [(.int ch), (.ref ab)] _
    refine XS.iloadN X2.here hx rfl (hb hby d25_8) rfl ?_
    show At p e below T2 m 9 #[vR ab, vI ch, vI 0, vI n] [(.int 0), (.int ch), (.ref ab)] _
    refine XS.iloadN X2.here hx rfl (hb hby d25_9) rfl ?_
    exact kt)
  obtain ⟨_, _, ⟨T5, L5, kc5, nc5⟩, -, X5, ⟨Lc5, hQ5, l5, y5, z5⟩, st5⟩ := Jvm.LawKit.callS X2 hx (y := (⟨"java/lang/StringUTF16", "indexOfCharUnsafe", "([BIII)I"⟩ : MethodName)) hown (mvT hZ (wd hw 127 rfl)) (mvT hZ (wd hw 128 rfl)) (mvT hZ (wd hw 70 rfl)) (mvT hZ (wd hw 129 rfl)) (by decide) (backOf (W := 0) (hM) hZ (wd hw 129 rfl) (wd hw 70 rfl) (by decide) (by decide)) (g := (mkF m 10 #[vR ab, vI ch, vI 0, vI n] [(.int n), (.int 0), (.int ch), (.ref ab)])) rfl (by rw [hml]; rfl) (argsL := [(.ref ab), (.int ch), (.int 0), (.int n)]) (rest := []) (lenOf pd_11 rfl) rfl (by show 2 * 0 + _ ≤ _; exact Nat.le_of_eq rfl) (hb hby d25_10) (fun _ _ => ⟨rfl, he2, (by decide : 0 + 0 ≤ _), (by decide : 0 + 0 ≤ _)⟩)
  dsimp only [Pt.U, Pt.locs, Pt.cells, Pt.slots] at X5 l5 y5 z5 st5 hQ5
  subst l5 y5 z5
  obtain ⟨r5, rfl, N5q, he5, hr5⟩ := hQ5
  have N5 := Fr.app N2 N5q
  have pre6 := fun t (kt : At p e below T5 m 13 #[vR ab, vI ch, vI 0, vI n] [(.int r5)] t) => pre4 t (st5 _ kt)
  obtain ⟨fs, hr, hrun, hended, hW, hsame⟩ := X5.leave (v := (some (.int r5))) (fun h => by rw [Bd.returns] at h; cases h)
  refine ⟨_, _, pre6 _ ?_, hrun, hended, _, _, rfl, ?_, ⟨_, rfl⟩, hW, hsame.mono (by decide) (by decide)⟩
  · show At p e below T5 m 13 #[vR ab, vI ch, vI 0, vI n] [(.int r5)] _
    exact retI X5 hx Bd.returns (hb hby d25_13) hr
  · show Q25 Z ab kb ch u vs z n qs h0 n0 _ T5.heap _
    rw [he5]
    exact ⟨_, rfl, N5, rfl, hr5⟩
theorem ef_24 (m : MethodId) (ab : Addr) (ch : Int32) (n : Int32) : entryFrame m #[(.ref ab), (.int ch), (.int 0), (.int n)] 4 = (mkF m 0 #[vR ab, vI ch, vI 0, vI n] []) := by first | (simp [entryFrame, mkF, argsToLocals, Value.category]; done) | rfl
theorem d24_0 : decode jdk_52_method_40_code 0 = .ok (.iload_n 2, 1) := by decide +kernel
theorem d24_1 : decode jdk_52_method_40_code 1 = .ok (.iconst 0, 1) := by decide +kernel
theorem d24_2 : decode jdk_52_method_40_code 2 = .ok (.invokestatic 224, 3) := by decide +kernel
theorem d24_5 : decode jdk_52_method_40_code 5 = .ok (.istore_n 2, 1) := by decide +kernel
theorem d24_6 : decode jdk_52_method_40_code 6 = .ok (.iload_n 3, 1) := by decide +kernel
theorem d24_7 : decode jdk_52_method_40_code 7 = .ok (.aload_n 0, 1) := by decide +kernel
theorem d24_8 : decode jdk_52_method_40_code 8 = .ok (.arraylength, 1) := by decide +kernel
theorem d24_9 : decode jdk_52_method_40_code 9 = .ok (.iconst 1, 1) := by decide +kernel
theorem d24_10 : decode jdk_52_method_40_code 10 = .ok (.ishr, 1) := by decide +kernel
theorem d24_11 : decode jdk_52_method_40_code 11 = .ok (.invokestatic 183, 3) := by decide +kernel
theorem d24_14 : decode jdk_52_method_40_code 14 = .ok (.istore_n 3, 1) := by decide +kernel
theorem d24_15 : decode jdk_52_method_40_code 15 = .ok (.iload_n 2, 1) := by decide +kernel
theorem d24_16 : decode jdk_52_method_40_code 16 = .ok (.iload_n 3, 1) := by decide +kernel
theorem d24_17 : decode jdk_52_method_40_code 17 = .ok (.if_icmp .lt 5, 3) := by decide +kernel
theorem d24_22 : decode jdk_52_method_40_code 22 = .ok (.iload_n 1, 1) := by decide +kernel
theorem d24_23 : decode jdk_52_method_40_code 23 = .ok (.ldc 227, 2) := by decide +kernel
theorem d24_25 : decode jdk_52_method_40_code 25 = .ok (.if_icmp .ge 11, 3) := by decide +kernel
theorem d24_28 : decode jdk_52_method_40_code 28 = .ok (.aload_n 0, 1) := by decide +kernel
theorem d24_29 : decode jdk_52_method_40_code 29 = .ok (.iload_n 1, 1) := by decide +kernel
theorem d24_30 : decode jdk_52_method_40_code 30 = .ok (.iload_n 2, 1) := by decide +kernel
theorem d24_31 : decode jdk_52_method_40_code 31 = .ok (.iload_n 3, 1) := by decide +kernel
theorem d24_32 : decode jdk_52_method_40_code 32 = .ok (.invokestatic 228, 3) := by decide +kernel
theorem d24_35 : decode jdk_52_method_40_code 35 = .ok (.ireturn, 1) := by decide +kernel
def Q24 (Z : State) (ab : Addr) (kb : ClassId) (ch : Int32) (u : Value) (vs : List Value) (z : Int32) (n : Int32) (qs : List Int32) (h0 : Heap) (n0 : Nat) (v : Option Value) (h : Heap) (L : List Loc) : Prop := ∃ r : Int32, v = some (.int r) ∧ Fr n0 L ∧ h = h0 ∧ (¬ (r < (0 : Int32)) ↔ ch ∈ qs)
set_option maxRecDepth 65536 in
set_option maxHeartbeats 40000000 in
theorem rm24 (l : Launch) (Z : State) (a0 : Array Value) (hw : ∀ d ∈ tables_1, d.before a0 Z = true) (ws : List Jvm.Cond) (ab : Addr) (kb : ClassId) (ch : Int32) (u : Value) (vs : List Value) (z : Int32) (n : Int32) (qs : List Int32) (h0 : Heap) (n0 : Nat) (O0 : Old Z n0 h0) (hu : u.isRef = true) (SF : Sta Z Z.heap "jdk/internal/util/Preconditions" "SIOOBE_FORMATTER" "Ljava/util/function/BiFunction;" u) (Vb : Arv Z h0 ab kb .byte z vs (.int 0)) (hz : (z >>> ((1 : Int32) &&& 31)) = n) (hn : ¬ (n < (0 : Int32))) (hpos : (0 : Int32) < n) (hM : own_I l Z (⟨"java/lang/StringUTF16", "indexOfCharUnsafe", "([BIII)I"⟩ : MethodName) jdk_52_method_48_code 5 ({ frames := 1, cells := 0, slots := 0, locals := 13 } : Room) #[(.ref ab), (.int ch), (.int 0), (.int n)] h0 n0 ch qs) (hc : ch = 42 ∨ ch = 63) :
    MetFree l (⟨"java/lang/StringUTF16", "indexOf", "([BIII)I"⟩ : MethodName) (head1 (Jvm.Cond.code (⟨"java/lang/StringUTF16", "indexOf", "([BIII)I"⟩ : MethodName) jdk_52_method_40_code 4 (some .int) :: ws) ({ frames := 4, cells := 0, slots := 0, locals := 58 } : Room)) (fun a U => a = #[(.ref ab), (.int ch), (.int 0), (.int n)] ∧ Z.Warmed39 U.vm ∧ U.heap = h0) (fun _ _ _ _ _ => True) (fun _ U o U' => ∃ v L, o = .returned v ∧ Q24 Z ab kb ch u vs z n qs h0 n0 v U'.heap L ∧ FrameEnd U o U' L ({ frames := 4, cells := 0, slots := 0, locals := 58 } : Room).cells ({ frames := 4, cells := 0, slots := 0, locals := 58 } : Room).slots) := by
  refine MetFree.of_bodySF (plainFor_of_name pn_3) hisR ?_
  intro p e s m args below meth c s₁ Bd hml0 hP hK
  obtain ⟨rfl, hZ, hh⟩ := hP
  have hx := Bd.exec
  have hby := Bd.bytes
  have hml : c.maxLocals = 4 := hml0
  have hown : s.vm.findClass "java/lang/StringUTF16" = some m.cls := findClass_of_methodNamed Bd.named
  have hnm := (name_of_methodNamed Bd.named Bd.method).1
  have X0 : Stand p l e ({ frames := 4, cells := 0, slots := 0, locals := 58 } : Room) s m #[(.ref ab), (.int ch), (.int 0), (.int n)] below meth c s₁ [] 0 0 := Stand.of_body Bd
  have e0 : s₁.heap = h0 := by rw [← hh, Bd.state]; rfl
  have N0 := Fr.nil n0
  have Z0 : n0 ≤ h0.size := O0.1 ▸ O0.2.1
  have pre0 : ∀ t, At p e below s₁ m 0 #[vR ab, vI ch, vI 0, vI n] [] t → Steps p.tables e below (s₁.setTop (entryFrame m #[(.ref ab), (.int ch), (.int 0), (.int n)] 4)) t := fun t k => castTop (ef_24 m ab ch n) k
  have pre1 := fun t (kt : At p e below s₁ m 2 #[vR ab, vI ch, vI 0, vI n] [(.int 0), (.int 0)] t) => pre0 t (by
    show At p e below s₁ m 0 #[vR ab, vI ch, vI 0, vI n] [] _
    refine XS.iloadN X0.here hx rfl (hb hby d24_0) rfl ?_
    show At p e below s₁ m 1 #[vR ab, vI ch, vI 0, vI n] [(.int 0)] _
    refine XS.iconst X0.here hx rfl (hb hby d24_1) ?_
    exact kt)
  obtain ⟨_, _, ⟨T2, L2, kc2, nc2⟩, -, X2, ⟨Lc2, hQ2, l2, y2, z2⟩, st2⟩ := Jvm.LawKit.callS X0 hx (y := (⟨"java/lang/Math", "max", "(II)I"⟩ : MethodName)) hown (mvT hZ (wd hw 107 rfl)) (mvT hZ (wd hw 62 rfl)) (mvT hZ (wd hw 63 rfl)) (mvT hZ (wd hw 64 rfl)) (by decide) (backOf (W := 0) (rm12 l Z a0 hw [] (0 : Int32) (0 : Int32) h0 n0 Z0) hZ (wd hw 64 rfl) (wd hw 63 rfl) (by decide) (by decide)) (g := (mkF m 2 #[vR ab, vI ch, vI 0, vI n] [(.int 0), (.int 0)])) rfl (by rw [hml]; rfl) (argsL := [(.int 0), (.int 0)]) (rest := []) (lenOf pd_10 rfl) rfl (by show 2 * 0 + _ ≤ _; exact Nat.le_of_eq rfl) (hb hby d24_2) (fun _ _ => ⟨rfl, e0, (by decide : 0 + 0 ≤ _), (by decide : 0 + 0 ≤ _)⟩)
  dsimp only [Pt.U, Pt.locs, Pt.cells, Pt.slots] at X2 l2 y2 z2 st2 hQ2
  subst l2 y2 z2
  obtain ⟨rfl, N2q, he2⟩ := hQ2
  have N2 := Fr.app N0 N2q
  have pre3 := fun t (kt : At p e below T2 m 5 #[vR ab, vI ch, vI 0, vI n] [(.int (own_max (0 : Int32) (0 : Int32)))] t) => pre1 t (st2 _ kt)
  have pre4 := fun t (kt : At p e below T2 m 8 #[vR ab, vI ch, vI 0, vI n] [(.ref ab), (.int n)] t) => pre3 t (by
    show At p e below T2 m 5 #[vR ab, vI ch, vI 0, vI n] [(.int (own_max (0 : Int32) (0 : Int32)))] _
    rw [show (own_max (0 : Int32) (0 : Int32)) = (0 : Int32) from by decide]
    show At p e below T2 m 5 #[vR ab, vI ch, vI 0, vI n] [(.int 0)] _
    refine XS.istoreN X2.here hx rfl (hb hby d24_5) rfl (l' := #[vR ab, vI ch, vI 0, vI n]) rfl ?_
    show At p e below T2 m 6 #[vR ab, vI ch, vI 0, vI n] [] _
    refine XS.iloadN X2.here hx rfl (hb hby d24_6) rfl ?_
    show At p e below T2 m 7 #[vR ab, vI ch, vI 0, vI n] [(.int n)] _
    refine XS.aloadN X2.here hx rfl (hb hby d24_7) rfl rfl ?_
    exact kt)
  obtain ⟨cl5, Ar5, qk5, Sz5, Nn5, Hh5, Gg5⟩ := id Vb
  have pre6 := fun t (kt : At p e below T2 m 11 #[vR ab, vI ch, vI 0, vI n] [(.int n), (.int n)] t) => pre4 t (by
    show At p e below T2 m 8 #[vR ab, vI ch, vI 0, vI n] [(.ref ab), (.int n)] _
    refine X2.arraylength hx (by rw [he2]; exact Ar5.1) (State.isArrayOf_alike hZ.alike Ar5.2.1) (g := (mkF m 8 #[vR ab, vI ch, vI 0, vI n] [(.ref ab), (.int n)])) rfl rfl (hb hby d24_8) _ ?_
    rw [len_of Sz5 Nn5]
    show At p e below T2 m 9 #[vR ab, vI ch, vI 0, vI n] [(.int z), (.int n)] _
    refine XS.iconst X2.here hx rfl (hb hby d24_9) ?_
    show At p e below T2 m 10 #[vR ab, vI ch, vI 0, vI n] [(.int 1), (.int z), (.int n)] _
    refine XS.ishr X2.here hx rfl (hb hby d24_10) rfl ?_
    show At p e below T2 m 11 #[vR ab, vI ch, vI 0, vI n] [(.int (z >>> ((1 : Int32) &&& 31))), (.int n)] _
    rw [show (z >>> ((1 : Int32) &&& 31)) = n from hz]
    exact kt)
  obtain ⟨_, _, ⟨T7, L7, kc7, nc7⟩, -, X7, ⟨Lc7, hQ7, l7, y7, z7⟩, st7⟩ := Jvm.LawKit.callS X2 hx (y := (⟨"java/lang/Math", "min", "(II)I"⟩ : MethodName)) hown (mvT hZ (wd hw 108 rfl)) (mvT hZ (wd hw 66 rfl)) (mvT hZ (wd hw 63 rfl)) (mvT hZ (wd hw 67 rfl)) (by decide) (backOf (W := 0) (rm13 l Z a0 hw [] n n h0 n0 Z0) hZ (wd hw 67 rfl) (wd hw 63 rfl) (by decide) (by decide)) (g := (mkF m 11 #[vR ab, vI ch, vI 0, vI n] [(.int n), (.int n)])) rfl (by rw [hml]; rfl) (argsL := [(.int n), (.int n)]) (rest := []) (lenOf pd_10 rfl) rfl (by show 2 * 0 + _ ≤ _; exact Nat.le_of_eq rfl) (hb hby d24_11) (fun _ _ => ⟨rfl, he2, (by decide : 0 + 0 ≤ _), (by decide : 0 + 0 ≤ _)⟩)
  dsimp only [Pt.U, Pt.locs, Pt.cells, Pt.slots] at X7 l7 y7 z7 st7 hQ7
  subst l7 y7 z7
  obtain ⟨rfl, N7q, he7⟩ := hQ7
  have N7 := Fr.app N2 N7q
  have pre8 := fun t (kt : At p e below T7 m 14 #[vR ab, vI ch, vI 0, vI n] [(.int (own_min n n))] t) => pre6 t (st7 _ kt)
  have pre9 := fun t (kt : At p e below T7 m 32 #[vR ab, vI ch, vI 0, vI n] [(.int n), (.int 0), (.int ch), (.ref ab)] t) => pre8 t (by
    show At p e below T7 m 14 #[vR ab, vI ch, vI 0, vI n] [(.int (own_min n n))] _
    rw [show (own_min n n) = n from own_minS n]
    show At p e below T7 m 14 #[vR ab, vI ch, vI 0, vI n] [(.int n)] _
    refine XS.istoreN X7.here hx rfl (hb hby d24_14) rfl (l' := #[vR ab, vI ch, vI 0, vI n]) rfl ?_
    show At p e below T7 m 15 #[vR ab, vI ch, vI 0, vI n] [] _
    refine XS.iloadN X7.here hx rfl (hb hby d24_15) rfl ?_
    show At p e below T7 m 16 #[vR ab, vI ch, vI 0, vI n] [(.int 0)] _
    refine XS.iloadN X7.here hx rfl (hb hby d24_16) rfl ?_
    show At p e below T7 m 17 #[vR ab, vI ch, vI 0, vI n] [(.int n), (.int 0)] _
    refine XS.icmpYes X7.here hx rfl (pc0 := 17) (pc' := 22) rfl (hb hby d24_17) rfl (tlt (hpos : (0 : Int32) < n)).1 (by decide) (by decide) ?_
    show At p e below T7 m 22 #[vR ab, vI ch, vI 0, vI n] [] _
    refine XS.iloadN X7.here hx rfl (hb hby d24_22) rfl ?_
    show At p e below T7 m 23 #[vR ab, vI ch, vI 0, vI n] [(.int ch)] _
    refine X7.ldcInt hx hown (mvT hZ (wd hw 109 rfl)) (g := (mkF m 23 #[vR ab, vI ch, vI 0, vI n] [(.int ch)])) rfl (hb hby d24_23) _ ?_
    show At p e below T7 m 25 #[vR ab, vI ch, vI 0, vI n] [(.int 65536), (.int ch)] _
    refine XS.icmpNo X7.here hx rfl (hb hby d24_25) rfl (tlt ((own_c2 hc) : ch < (65536 : Int32))).2.1 ?_
    show At p e below T7 m 28 #[vR ab, vI ch, vI 0, vI n] [] _
    refine XS.aloadN X7.here hx rfl (hb hby d24_28) rfl rfl ?_
    show At p e below T7 m 29 #[vR ab, vI ch, vI 0, vI n] [(.ref ab)] _
    refine XS.iloadN X7.here hx rfl (hb hby d24_29) rfl ?_
    show At p e below T7 m 30 #[vR ab, vI ch, vI 0, vI n] [(.int ch), (.ref ab)] _
    refine XS.iloadN X7.here hx rfl (hb hby d24_30) rfl ?_
    show At p e below T7 m 31 #[vR ab, vI ch, vI 0, vI n] [(.int 0), (.int ch), (.ref ab)] _
    refine XS.iloadN X7.here hx rfl (hb hby d24_31) rfl ?_
    exact kt)
  obtain ⟨_, _, ⟨T10, L10, kc10, nc10⟩, -, X10, ⟨Lc10, hQ10, l10, y10, z10⟩, st10⟩ := Jvm.LawKit.callS X7 hx (y := (⟨"java/lang/StringUTF16", "indexOfChar", "([BIII)I"⟩ : MethodName)) hown (mvT hZ (wd hw 110 rfl)) (mvT hZ (wd hw 111 rfl)) (mvT hZ (wd hw 70 rfl)) (mvT hZ (wd hw 112 rfl)) (by decide) (backOf (W := 0) (rm25 l Z a0 hw [] ab kb ch u vs z n qs h0 n0 O0 hu SF Vb hz hn hM) hZ (wd hw 112 rfl) (wd hw 70 rfl) (by decide) (by decide)) (g := (mkF m 32 #[vR ab, vI ch, vI 0, vI n] [(.int n), (.int 0), (.int ch), (.ref ab)])) rfl (by rw [hml]; rfl) (argsL := [(.ref ab), (.int ch), (.int 0), (.int n)]) (rest := []) (lenOf pd_11 rfl) rfl (by show 2 * 0 + _ ≤ _; exact Nat.le_of_eq rfl) (hb hby d24_32) (fun _ _ => ⟨rfl, he7, (by decide : 0 + 0 ≤ _), (by decide : 0 + 0 ≤ _)⟩)
  dsimp only [Pt.U, Pt.locs, Pt.cells, Pt.slots] at X10 l10 y10 z10 st10 hQ10
  subst l10 y10 z10
  obtain ⟨r10, rfl, N10q, he10, hr10⟩ := hQ10
  have N10 := Fr.app N7 N10q
  have pre11 := fun t (kt : At p e below T10 m 35 #[vR ab, vI ch, vI 0, vI n] [(.int r10)] t) => pre9 t (st10 _ kt)
  obtain ⟨fs, hr, hrun, hended, hW, hsame⟩ := X10.leave (v := (some (.int r10))) (fun h => by rw [Bd.returns] at h; cases h)
  refine ⟨_, _, pre11 _ ?_, hrun, hended, _, _, rfl, ?_, ⟨_, rfl⟩, hW, hsame.mono (by decide) (by decide)⟩
  · show At p e below T10 m 35 #[vR ab, vI ch, vI 0, vI n] [(.int r10)] _
    exact retI X10 hx Bd.returns (hb hby d24_35) hr
  · show Q24 Z ab kb ch u vs z n qs h0 n0 _ T10.heap _
    rw [he10]
    exact ⟨_, rfl, N10, rfl, hr10⟩
theorem ef_6_0 (m : MethodId) (a1 : Addr) (ch : Int32) : entryFrame m #[(.ref a1), (.int ch), (.int 0)] 3 = (mkF m 0 #[vR a1, vI ch, vI 0] []) := by first | (simp [entryFrame, mkF, argsToLocals, Value.category]; done) | rfl
theorem d6_0 : decode jdk_42_method_80_code 0 = .ok (.aload_n 0, 1) := by decide +kernel
theorem pd_16 : parseMethodDescriptor "()Z" = some ⟨[], some .boolean⟩ := by decide +kernel
theorem d6_1 : decode jdk_42_method_80_code 1 = .ok (.invokevirtual 492, 3) := by decide +kernel
theorem d6_4 : decode jdk_42_method_80_code 4 = .ok (.ifCond .eq 19, 3) := by decide +kernel
theorem d6_7 : decode jdk_42_method_80_code 7 = .ok (.aload_n 0, 1) := by decide +kernel
theorem d6_8 : decode jdk_42_method_80_code 8 = .ok (.getfield 9, 3) := by decide +kernel
theorem d6_11 : decode jdk_42_method_80_code 11 = .ok (.iload_n 1, 1) := by decide +kernel
theorem d6_12 : decode jdk_42_method_80_code 12 = .ok (.iload_n 2, 1) := by decide +kernel
theorem d6_13 : decode jdk_42_method_80_code 13 = .ok (.aload_n 0, 1) := by decide +kernel
theorem pd_17 : parseMethodDescriptor "()I" = some ⟨[], some .int⟩ := by decide +kernel
theorem d6_14 : decode jdk_42_method_80_code 14 = .ok (.invokevirtual 505, 3) := by decide +kernel
theorem d6_17 : decode jdk_42_method_80_code 17 = .ok (.invokestatic 637, 3) := by decide +kernel
theorem d6_20 : decode jdk_42_method_80_code 20 = .ok (.goto 16, 3) := by decide +kernel
theorem d6_36 : decode jdk_42_method_80_code 36 = .ok (.ireturn, 1) := by decide +kernel
def Q6_0 (Z : State) (a1 : Addr) (cs : Int32) (ab : Addr) (kb : ClassId) (ch : Int32) (vs : List Value) (z : Int32) (n : Int32) (qs : List Int32) (h0 : Heap) (n0 : Nat) (v : Option Value) (h : Heap) (L : List Loc) : Prop := ∃ r : Int32, v = some (.int r) ∧ Fr n0 L ∧ h = h0 ∧ (¬ (r < (0 : Int32)) ↔ ch ∈ qs)
set_option maxRecDepth 65536 in
set_option maxHeartbeats 40000000 in
theorem rm6_0 (l : Launch) (Z : State) (a0 : Array Value) (hw : ∀ d ∈ tables_1, d.before a0 Z = true) (ws : List Jvm.Cond) (a1 : Addr) (cs : Int32) (ab : Addr) (kb : ClassId) (ch : Int32) (vs : List Value) (z : Int32) (n : Int32) (qs : List Int32) (h0 : Heap) (n0 : Nat) (O0 : Old Z n0 h0) (SC : Sta Z Z.heap "java/lang/String" "COMPACT_STRINGS" "Z" (.int cs)) (hcs : ¬ (cs = (0 : Int32))) (E1 : Exa Z h0 a1 "java/lang/String") (Fc : Fld Z h0 a1 "java/lang/String" "coder" "B" (.int 0)) (Fv : Fld Z h0 a1 "java/lang/String" "value" "[B" (.ref ab)) (Vb : Arv Z h0 ab kb .byte z vs (.int 0)) (hz : (z >>> ((0 : Int32) &&& 31)) = n) (hM : own_I l Z (⟨"java/lang/StringLatin1", "indexOf", "([BIII)I"⟩ : MethodName) jdk_43_method_22_code 4 ({ frames := 1, cells := 0, slots := 0, locals := 17 } : Room) #[(.ref ab), (.int ch), (.int 0), (.int n)] h0 n0 ch qs) :
    MetFree l (⟨"java/lang/String", "indexOf", "(II)I"⟩ : MethodName) (head1 (Jvm.Cond.code (⟨"java/lang/String", "indexOf", "(II)I"⟩ : MethodName) jdk_42_method_80_code 3 (some .int) :: ws) ({ frames := 5, cells := 0, slots := 0, locals := 73 } : Room)) (fun a U => a = #[(.ref a1), (.int ch), (.int 0)] ∧ Z.Warmed39 U.vm ∧ U.heap = h0) (fun _ _ _ _ _ => True) (fun _ U o U' => ∃ v L, o = .returned v ∧ Q6_0 Z a1 cs ab kb ch vs z n qs h0 n0 v U'.heap L ∧ FrameEnd U o U' L ({ frames := 5, cells := 0, slots := 0, locals := 73 } : Room).cells ({ frames := 5, cells := 0, slots := 0, locals := 73 } : Room).slots) := by
  refine MetFree.of_bodySF (plainFor_of_name pn_4) hisR ?_
  intro p e s m args below meth c s₁ Bd hml0 hP hK
  obtain ⟨rfl, hZ, hh⟩ := hP
  have hx := Bd.exec
  have hby := Bd.bytes
  have hml : c.maxLocals = 3 := hml0
  have hown : s.vm.findClass "java/lang/String" = some m.cls := findClass_of_methodNamed Bd.named
  have hnm := (name_of_methodNamed Bd.named Bd.method).1
  have X0 : Stand p l e ({ frames := 5, cells := 0, slots := 0, locals := 73 } : Room) s m #[(.ref a1), (.int ch), (.int 0)] below meth c s₁ [] 0 0 := Stand.of_body Bd
  have e0 : s₁.heap = h0 := by rw [← hh, Bd.state]; rfl
  have N0 := Fr.nil n0
  have Z0 : n0 ≤ h0.size := O0.1 ▸ O0.2.1
  have pre0 : ∀ t, At p e below s₁ m 0 #[vR a1, vI ch, vI 0] [] t → Steps p.tables e below (s₁.setTop (entryFrame m #[(.ref a1), (.int ch), (.int 0)] 3)) t := fun t k => castTop (ef_6_0 m a1 ch) k
  have pre1 := fun t (kt : At p e below s₁ m 1 #[vR a1, vI ch, vI 0] [(.ref a1)] t) => pre0 t (by
    show At p e below s₁ m 0 #[vR a1, vI ch, vI 0] [] _
    refine XS.aloadN X0.here hx rfl (hb hby d6_0) rfl rfl ?_
    exact kt)
  obtain ⟨cq2, kq2, q2a, q2b, q2c⟩ := isOf hZ e0 E1
  obtain ⟨_, _, ⟨T3, L3, kc3, nc3⟩, -, X3, ⟨Lc3, hQ3, l3, y3, z3⟩, st3⟩ := X0.virtualBack hx (y := (⟨"java/lang/String", "isLatin1", "()Z"⟩ : MethodName)) (z := (⟨"java/lang/String", "isLatin1", "()Z"⟩ : MethodName)) hown (mvT hZ (wd hw 38 rfl)) (mvT hZ (wd hw 39 rfl)) (notFace_of_selects (args := #[]) (mvT hZ (wd hw 41 rfl))) (mvT hZ (wd hw 41 rfl)) (mvT hZ (wd hw 40 rfl)) (by decide) (backOf (W := 0) (rm7_0 l Z a0 hw [] a1 cs h0 n0 O0 SC hcs Fc) hZ (wd hw 42 rfl) (wd hw 5 rfl) (by decide) (by decide)) q2a q2c (g := (mkF m 1 #[vR a1, vI ch, vI 0] [(.ref a1)])) rfl (by rw [hml]; rfl) (Steps.refl _) (argsL := []) (rest := []) (lenOf pd_16 rfl) rfl (by show 2 * 0 + _ ≤ _; exact Nat.le_of_eq rfl) (hb hby d6_1) (fun _ _ => ⟨rfl, e0, (by decide : 0 + 0 ≤ _), (by decide : 0 + 0 ≤ _)⟩)
  dsimp only [Pt.U, Pt.locs, Pt.cells, Pt.slots] at X3 l3 y3 z3 st3 hQ3
  subst l3 y3 z3
  obtain ⟨rfl, N3q, he3⟩ := hQ3
  have N3 := Fr.app N0 N3q
  have pre4 := fun t (kt : At p e below T3 m 4 #[vR a1, vI ch, vI 0] [(.int 1)] t) => pre1 t (st3.trans kt)
  have pre5 := fun t (kt : At p e below T3 m 8 #[vR a1, vI ch, vI 0] [(.ref a1)] t) => pre4 t (by
    show At p e below T3 m 4 #[vR a1, vI ch, vI 0] [(.int 1)] _
    refine XS.ifNo X3.here hx rfl (hb hby d6_4) rfl ((if0 _ _).trans (feq (by decide : ¬ ((1 : Int32) = (0 : Int32)))).1) ?_
    show At p e below T3 m 7 #[vR a1, vI ch, vI 0] [] _
    refine XS.aloadN X3.here hx rfl (hb hby d6_7) rfl rfl ?_
    exact kt)
  obtain ⟨T6, X6, e6, st6⟩ := getF X3 hx hZ hown (host := "") (Or.inl (wd hw 22 rfl)) Via.refl he3 Fv (g := (mkF m 8 #[vR a1, vI ch, vI 0] [(.ref a1)])) rfl rfl (hb hby d6_8)
  have pre7 := fun t (kt : At p e below T6 m 11 #[vR a1, vI ch, vI 0] [(.ref ab)] t) => pre5 t (st6 _ kt)
  have pre8 := fun t (kt : At p e below T6 m 14 #[vR a1, vI ch, vI 0] [(.ref a1), (.int 0), (.int ch), (.ref ab)] t) => pre7 t (by
    show At p e below T6 m 11 #[vR a1, vI ch, vI 0] [(.ref ab)] _
    refine XS.iloadN X6.here hx rfl (hb hby d6_11) rfl ?_
    show At p e below T6 m 12 #[vR a1, vI ch, vI 0] [(.int ch), (.ref ab)] _
    refine XS.iloadN X6.here hx rfl (hb hby d6_12) rfl ?_
    show At p e below T6 m 13 #[vR a1, vI ch, vI 0] [(.int 0), (.int ch), (.ref ab)] _
    refine XS.aloadN X6.here hx rfl (hb hby d6_13) rfl rfl ?_
    exact kt)
  obtain ⟨cq9, kq9, q9a, q9b, q9c⟩ := isOf hZ e6 E1
  obtain ⟨_, _, ⟨T10, L10, kc10, nc10⟩, -, X10, ⟨Lc10, hQ10, l10, y10, z10⟩, st10⟩ := X6.virtualBack hx (y := (⟨"java/lang/String", "length", "()I"⟩ : MethodName)) (z := (⟨"java/lang/String", "length", "()I"⟩ : MethodName)) hown (mvT hZ (wd hw 44 rfl)) (mvT hZ (wd hw 45 rfl)) (notFace_of_selects (args := #[]) (mvT hZ (wd hw 47 rfl))) (mvT hZ (wd hw 47 rfl)) (mvT hZ (wd hw 46 rfl)) (by decide) (backOf (W := 3) (rm8_0 l Z a0 hw [] a1 cs ab kb vs z n h0 n0 O0 SC hcs Fc E1 Fv Vb hz) hZ (wd hw 48 rfl) (wd hw 5 rfl) (by decide) (by decide)) q9a q9c (g := (mkF m 14 #[vR a1, vI ch, vI 0] [(.ref a1), (.int 0), (.int ch), (.ref ab)])) rfl (by rw [hml]; rfl) (Steps.refl _) (argsL := []) (rest := [(.int 0), (.int ch), (.ref ab)]) (lenOf pd_17 rfl) rfl (by show 2 * 0 + _ ≤ _; exact Nat.le_of_eq rfl) (hb hby d6_14) (fun _ _ => ⟨rfl, e6, (by decide : 0 + 0 ≤ _), (by decide : 0 + 0 ≤ _)⟩)
  dsimp only [Pt.U, Pt.locs, Pt.cells, Pt.slots] at X10 l10 y10 z10 st10 hQ10
  subst l10 y10 z10
  obtain ⟨rfl, N10q, he10⟩ := hQ10
  have N10 := Fr.app N3 N10q
  have pre11 := fun t (kt : At p e below T10 m 17 #[vR a1, vI ch, vI 0] [(.int n), (.int 0), (.int ch), (.ref ab)] t) => pre8 t (st10.trans kt)
  obtain ⟨_, _, ⟨T12, L12, kc12, nc12⟩, -, X12, ⟨Lc12, hQ12, l12, y12, z12⟩, st12⟩ := Jvm.LawKit.callS X10 hx (y := (⟨"java/lang/StringLatin1", "indexOf", "([BIII)I"⟩ : MethodName)) hown (mvT hZ (wd hw 54 rfl)) (mvT hZ (wd hw 55 rfl)) (mvT hZ (wd hw 56 rfl)) (mvT hZ (wd hw 57 rfl)) (by decide) (backOf (W := 0) (hM) hZ (wd hw 57 rfl) (wd hw 56 rfl) (by decide) (by decide)) (g := (mkF m 17 #[vR a1, vI ch, vI 0] [(.int n), (.int 0), (.int ch), (.ref ab)])) rfl (by rw [hml]; rfl) (argsL := [(.ref ab), (.int ch), (.int 0), (.int n)]) (rest := []) (lenOf pd_11 rfl) rfl (by show 2 * 0 + _ ≤ _; exact Nat.le_of_eq rfl) (hb hby d6_17) (fun _ _ => ⟨rfl, he10, (by decide : 0 + 0 ≤ _), (by decide : 0 + 0 ≤ _)⟩)
  dsimp only [Pt.U, Pt.locs, Pt.cells, Pt.slots] at X12 l12 y12 z12 st12 hQ12
  subst l12 y12 z12
  obtain ⟨r12, rfl, N12q, he12, hr12⟩ := hQ12
  have N12 := Fr.app N10 N12q
  have pre13 := fun t (kt : At p e below T12 m 20 #[vR a1, vI ch, vI 0] [(.int r12)] t) => pre11 t (st12 _ kt)
  have pre14 := fun t (kt : At p e below T12 m 36 #[vR a1, vI ch, vI 0] [(.int r12)] t) => pre13 t (by
    show At p e below T12 m 20 #[vR a1, vI ch, vI 0] [(.int r12)] _
    refine XS.goto X12.here hx rfl (pc0 := 20) (pc' := 36) rfl (hb hby d6_20) (by decide) (by decide) ?_
    exact kt)
  obtain ⟨fs, hr, hrun, hended, hW, hsame⟩ := X12.leave (v := (some (.int r12))) (fun h => by rw [Bd.returns] at h; cases h)
  refine ⟨_, _, pre14 _ ?_, hrun, hended, _, _, rfl, ?_, ⟨_, rfl⟩, hW, hsame.mono (by decide) (by decide)⟩
  · show At p e below T12 m 36 #[vR a1, vI ch, vI 0] [(.int r12)] _
    exact retI X12 hx Bd.returns (hb hby d6_36) hr
  · show Q6_0 Z a1 cs ab kb ch vs z n qs h0 n0 _ T12.heap _
    rw [he12]
    exact ⟨_, rfl, N12, rfl, hr12⟩
theorem ef_5_0 (m : MethodId) (a1 : Addr) (ch : Int32) : entryFrame m #[(.ref a1), (.int ch)] 2 = (mkF m 0 #[vR a1, vI ch] []) := by first | (simp [entryFrame, mkF, argsToLocals, Value.category]; done) | rfl
theorem d5_0 : decode jdk_42_method_79_code 0 = .ok (.aload_n 0, 1) := by decide +kernel
theorem d5_1 : decode jdk_42_method_79_code 1 = .ok (.iload_n 1, 1) := by decide +kernel
theorem d5_2 : decode jdk_42_method_79_code 2 = .ok (.iconst 0, 1) := by decide +kernel
theorem d5_3 : decode jdk_42_method_79_code 3 = .ok (.invokevirtual 633, 3) := by decide +kernel
theorem d5_6 : decode jdk_42_method_79_code 6 = .ok (.ireturn, 1) := by decide +kernel
def Q5_0 (Z : State) (a1 : Addr) (cs : Int32) (ab : Addr) (kb : ClassId) (ch : Int32) (vs : List Value) (z : Int32) (n : Int32) (qs : List Int32) (h0 : Heap) (n0 : Nat) (v : Option Value) (h : Heap) (L : List Loc) : Prop := ∃ r : Int32, v = some (.int r) ∧ Fr n0 L ∧ h = h0 ∧ (¬ (r < (0 : Int32)) ↔ ch ∈ qs)
set_option maxRecDepth 65536 in
set_option maxHeartbeats 40000000 in
theorem rm5_0 (l : Launch) (Z : State) (a0 : Array Value) (hw : ∀ d ∈ tables_1, d.before a0 Z = true) (ws : List Jvm.Cond) (a1 : Addr) (cs : Int32) (ab : Addr) (kb : ClassId) (ch : Int32) (vs : List Value) (z : Int32) (n : Int32) (qs : List Int32) (h0 : Heap) (n0 : Nat) (O0 : Old Z n0 h0) (SC : Sta Z Z.heap "java/lang/String" "COMPACT_STRINGS" "Z" (.int cs)) (hcs : ¬ (cs = (0 : Int32))) (E1 : Exa Z h0 a1 "java/lang/String") (Fc : Fld Z h0 a1 "java/lang/String" "coder" "B" (.int 0)) (Fv : Fld Z h0 a1 "java/lang/String" "value" "[B" (.ref ab)) (Vb : Arv Z h0 ab kb .byte z vs (.int 0)) (hz : (z >>> ((0 : Int32) &&& 31)) = n) (hM : own_I l Z (⟨"java/lang/StringLatin1", "indexOf", "([BIII)I"⟩ : MethodName) jdk_43_method_22_code 4 ({ frames := 1, cells := 0, slots := 0, locals := 17 } : Room) #[(.ref ab), (.int ch), (.int 0), (.int n)] h0 n0 ch qs) :
    MetFree l (⟨"java/lang/String", "indexOf", "(I)I"⟩ : MethodName) (head1 (Jvm.Cond.code (⟨"java/lang/String", "indexOf", "(I)I"⟩ : MethodName) jdk_42_method_79_code 2 (some .int) :: ws) ({ frames := 6, cells := 0, slots := 0, locals := 87 } : Room)) (fun a U => a = #[(.ref a1), (.int ch)] ∧ Z.Warmed39 U.vm ∧ U.heap = h0) (fun _ _ _ _ _ => True) (fun _ U o U' => ∃ v L, o = .returned v ∧ Q5_0 Z a1 cs ab kb ch vs z n qs h0 n0 v U'.heap L ∧ FrameEnd U o U' L ({ frames := 6, cells := 0, slots := 0, locals := 87 } : Room).cells ({ frames := 6, cells := 0, slots := 0, locals := 87 } : Room).slots) := by
  refine MetFree.of_bodySF (plainFor_of_name pn_4) hisR ?_
  intro p e s m args below meth c s₁ Bd hml0 hP hK
  obtain ⟨rfl, hZ, hh⟩ := hP
  have hx := Bd.exec
  have hby := Bd.bytes
  have hml : c.maxLocals = 2 := hml0
  have hown : s.vm.findClass "java/lang/String" = some m.cls := findClass_of_methodNamed Bd.named
  have hnm := (name_of_methodNamed Bd.named Bd.method).1
  have X0 : Stand p l e ({ frames := 6, cells := 0, slots := 0, locals := 87 } : Room) s m #[(.ref a1), (.int ch)] below meth c s₁ [] 0 0 := Stand.of_body Bd
  have e0 : s₁.heap = h0 := by rw [← hh, Bd.state]; rfl
  have N0 := Fr.nil n0
  have Z0 : n0 ≤ h0.size := O0.1 ▸ O0.2.1
  have pre0 : ∀ t, At p e below s₁ m 0 #[vR a1, vI ch] [] t → Steps p.tables e below (s₁.setTop (entryFrame m #[(.ref a1), (.int ch)] 2)) t := fun t k => castTop (ef_5_0 m a1 ch) k
  have pre1 := fun t (kt : At p e below s₁ m 3 #[vR a1, vI ch] [(.int 0), (.int ch), (.ref a1)] t) => pre0 t (by
    show At p e below s₁ m 0 #[vR a1, vI ch] [] _
    refine XS.aloadN X0.here hx rfl (hb hby d5_0) rfl rfl ?_
    show At p e below s₁ m 1 #[vR a1, vI ch] [(.ref a1)] _
    refine XS.iloadN X0.here hx rfl (hb hby d5_1) rfl ?_
    show At p e below s₁ m 2 #[vR a1, vI ch] [(.int ch), (.ref a1)] _
    refine XS.iconst X0.here hx rfl (hb hby d5_2) ?_
    exact kt)
  obtain ⟨cq2, kq2, q2a, q2b, q2c⟩ := isOf hZ e0 E1
  obtain ⟨_, _, ⟨T3, L3, kc3, nc3⟩, -, X3, ⟨Lc3, hQ3, l3, y3, z3⟩, st3⟩ := X0.virtualBack hx (y := (⟨"java/lang/String", "indexOf", "(II)I"⟩ : MethodName)) (z := (⟨"java/lang/String", "indexOf", "(II)I"⟩ : MethodName)) hown (mvT hZ (wd hw 33 rfl)) (mvT hZ (wd hw 34 rfl)) (notFace_of_selects (args := #[]) (mvT hZ (wd hw 36 rfl))) (mvT hZ (wd hw 36 rfl)) (mvT hZ (wd hw 35 rfl)) (by decide) (backOf (W := 0) (rm6_0 l Z a0 hw [] a1 cs ab kb ch vs z n qs h0 n0 O0 SC hcs E1 Fc Fv Vb hz hM) hZ (wd hw 37 rfl) (wd hw 5 rfl) (by decide) (by decide)) q2a q2c (g := (mkF m 3 #[vR a1, vI ch] [(.int 0), (.int ch), (.ref a1)])) rfl (by rw [hml]; rfl) (Steps.refl _) (argsL := [(.int ch), (.int 0)]) (rest := []) (lenOf pd_10 rfl) rfl (by show 2 * 0 + _ ≤ _; exact Nat.le_of_eq rfl) (hb hby d5_3) (fun _ _ => ⟨rfl, e0, (by decide : 0 + 0 ≤ _), (by decide : 0 + 0 ≤ _)⟩)
  dsimp only [Pt.U, Pt.locs, Pt.cells, Pt.slots] at X3 l3 y3 z3 st3 hQ3
  subst l3 y3 z3
  obtain ⟨r3, rfl, N3q, he3, hr3⟩ := hQ3
  have N3 := Fr.app N0 N3q
  have pre4 := fun t (kt : At p e below T3 m 6 #[vR a1, vI ch] [(.int r3)] t) => pre1 t (st3.trans kt)
  obtain ⟨fs, hr, hrun, hended, hW, hsame⟩ := X3.leave (v := (some (.int r3))) (fun h => by rw [Bd.returns] at h; cases h)
  refine ⟨_, _, pre4 _ ?_, hrun, hended, _, _, rfl, ?_, ⟨_, rfl⟩, hW, hsame.mono (by decide) (by decide)⟩
  · show At p e below T3 m 6 #[vR a1, vI ch] [(.int r3)] _
    exact retI X3 hx Bd.returns (hb hby d5_6) hr
  · show Q5_0 Z a1 cs ab kb ch vs z n qs h0 n0 _ T3.heap _
    rw [he3]
    exact ⟨_, rfl, N3, rfl, hr3⟩
theorem ef_6_1 (m : MethodId) (a1 : Addr) (ch : Int32) : entryFrame m #[(.ref a1), (.int ch), (.int 0)] 3 = (mkF m 0 #[vR a1, vI ch, vI 0] []) := by first | (simp [entryFrame, mkF, argsToLocals, Value.category]; done) | rfl
theorem d6_23 : decode jdk_42_method_80_code 23 = .ok (.aload_n 0, 1) := by decide +kernel
theorem d6_24 : decode jdk_42_method_80_code 24 = .ok (.getfield 9, 3) := by decide +kernel
theorem d6_27 : decode jdk_42_method_80_code 27 = .ok (.iload_n 1, 1) := by decide +kernel
theorem d6_28 : decode jdk_42_method_80_code 28 = .ok (.iload_n 2, 1) := by decide +kernel
theorem d6_29 : decode jdk_42_method_80_code 29 = .ok (.aload_n 0, 1) := by decide +kernel
theorem d6_30 : decode jdk_42_method_80_code 30 = .ok (.invokevirtual 505, 3) := by decide +kernel
theorem d6_33 : decode jdk_42_method_80_code 33 = .ok (.invokestatic 640, 3) := by decide +kernel
def Q6_1 (Z : State) (a1 : Addr) (cs : Int32) (ab : Addr) (kb : ClassId) (ch : Int32) (vs : List Value) (z : Int32) (n : Int32) (qs : List Int32) (h0 : Heap) (n0 : Nat) (v : Option Value) (h : Heap) (L : List Loc) : Prop := ∃ r : Int32, v = some (.int r) ∧ Fr n0 L ∧ h = h0 ∧ (¬ (r < (0 : Int32)) ↔ ch ∈ qs)
set_option maxRecDepth 65536 in
set_option maxHeartbeats 40000000 in
theorem rm6_1 (l : Launch) (Z : State) (a0 : Array Value) (hw : ∀ d ∈ tables_1, d.before a0 Z = true) (ws : List Jvm.Cond) (a1 : Addr) (cs : Int32) (ab : Addr) (kb : ClassId) (ch : Int32) (vs : List Value) (z : Int32) (n : Int32) (qs : List Int32) (h0 : Heap) (n0 : Nat) (O0 : Old Z n0 h0) (SC : Sta Z Z.heap "java/lang/String" "COMPACT_STRINGS" "Z" (.int cs)) (hcs : ¬ (cs = (0 : Int32))) (E1 : Exa Z h0 a1 "java/lang/String") (Fc : Fld Z h0 a1 "java/lang/String" "coder" "B" (.int 1)) (Fv : Fld Z h0 a1 "java/lang/String" "value" "[B" (.ref ab)) (Vb : Arv Z h0 ab kb .byte z vs (.int 0)) (hz : (z >>> ((1 : Int32) &&& 31)) = n) (hM : own_I l Z (⟨"java/lang/StringUTF16", "indexOf", "([BIII)I"⟩ : MethodName) jdk_52_method_40_code 4 ({ frames := 4, cells := 0, slots := 0, locals := 58 } : Room) #[(.ref ab), (.int ch), (.int 0), (.int n)] h0 n0 ch qs) :
    MetFree l (⟨"java/lang/String", "indexOf", "(II)I"⟩ : MethodName) (head1 (Jvm.Cond.code (⟨"java/lang/String", "indexOf", "(II)I"⟩ : MethodName) jdk_42_method_80_code 3 (some .int) :: ws) ({ frames := 5, cells := 0, slots := 0, locals := 73 } : Room)) (fun a U => a = #[(.ref a1), (.int ch), (.int 0)] ∧ Z.Warmed39 U.vm ∧ U.heap = h0) (fun _ _ _ _ _ => True) (fun _ U o U' => ∃ v L, o = .returned v ∧ Q6_1 Z a1 cs ab kb ch vs z n qs h0 n0 v U'.heap L ∧ FrameEnd U o U' L ({ frames := 5, cells := 0, slots := 0, locals := 73 } : Room).cells ({ frames := 5, cells := 0, slots := 0, locals := 73 } : Room).slots) := by
  refine MetFree.of_bodySF (plainFor_of_name pn_4) hisR ?_
  intro p e s m args below meth c s₁ Bd hml0 hP hK
  obtain ⟨rfl, hZ, hh⟩ := hP
  have hx := Bd.exec
  have hby := Bd.bytes
  have hml : c.maxLocals = 3 := hml0
  have hown : s.vm.findClass "java/lang/String" = some m.cls := findClass_of_methodNamed Bd.named
  have hnm := (name_of_methodNamed Bd.named Bd.method).1
  have X0 : Stand p l e ({ frames := 5, cells := 0, slots := 0, locals := 73 } : Room) s m #[(.ref a1), (.int ch), (.int 0)] below meth c s₁ [] 0 0 := Stand.of_body Bd
  have e0 : s₁.heap = h0 := by rw [← hh, Bd.state]; rfl
  have N0 := Fr.nil n0
  have Z0 : n0 ≤ h0.size := O0.1 ▸ O0.2.1
  have pre0 : ∀ t, At p e below s₁ m 0 #[vR a1, vI ch, vI 0] [] t → Steps p.tables e below (s₁.setTop (entryFrame m #[(.ref a1), (.int ch), (.int 0)] 3)) t := fun t k => castTop (ef_6_1 m a1 ch) k
  have pre1 := fun t (kt : At p e below s₁ m 1 #[vR a1, vI ch, vI 0] [(.ref a1)] t) => pre0 t (by
    show At p e below s₁ m 0 #[vR a1, vI ch, vI 0] [] _
    refine XS.aloadN X0.here hx rfl (hb hby d6_0) rfl rfl ?_
    exact kt)
  obtain ⟨cq2, kq2, q2a, q2b, q2c⟩ := isOf hZ e0 E1
  obtain ⟨_, _, ⟨T3, L3, kc3, nc3⟩, -, X3, ⟨Lc3, hQ3, l3, y3, z3⟩, st3⟩ := X0.virtualBack hx (y := (⟨"java/lang/String", "isLatin1", "()Z"⟩ : MethodName)) (z := (⟨"java/lang/String", "isLatin1", "()Z"⟩ : MethodName)) hown (mvT hZ (wd hw 38 rfl)) (mvT hZ (wd hw 39 rfl)) (notFace_of_selects (args := #[]) (mvT hZ (wd hw 41 rfl))) (mvT hZ (wd hw 41 rfl)) (mvT hZ (wd hw 40 rfl)) (by decide) (backOf (W := 0) (rm7_1 l Z a0 hw [] a1 cs h0 n0 O0 SC hcs Fc) hZ (wd hw 42 rfl) (wd hw 5 rfl) (by decide) (by decide)) q2a q2c (g := (mkF m 1 #[vR a1, vI ch, vI 0] [(.ref a1)])) rfl (by rw [hml]; rfl) (Steps.refl _) (argsL := []) (rest := []) (lenOf pd_16 rfl) rfl (by show 2 * 0 + _ ≤ _; exact Nat.le_of_eq rfl) (hb hby d6_1) (fun _ _ => ⟨rfl, e0, (by decide : 0 + 0 ≤ _), (by decide : 0 + 0 ≤ _)⟩)
  dsimp only [Pt.U, Pt.locs, Pt.cells, Pt.slots] at X3 l3 y3 z3 st3 hQ3
  subst l3 y3 z3
  obtain ⟨rfl, N3q, he3⟩ := hQ3
  have N3 := Fr.app N0 N3q
  have pre4 := fun t (kt : At p e below T3 m 4 #[vR a1, vI ch, vI 0] [(.int 0)] t) => pre1 t (st3.trans kt)
  have pre5 := fun t (kt : At p e below T3 m 24 #[vR a1, vI ch, vI 0] [(.ref a1)] t) => pre4 t (by
    show At p e below T3 m 4 #[vR a1, vI ch, vI 0] [(.int 0)] _
    refine XS.ifYes X3.here hx rfl (pc0 := 4) (pc' := 23) rfl (hb hby d6_4) rfl ((if0 _ _).trans (teq (by decide : (0 : Int32) = (0 : Int32))).1) (by decide) (by decide) ?_
    show At p e below T3 m 23 #[vR a1, vI ch, vI 0] [] _
    refine XS.aloadN X3.here hx rfl (hb hby d6_23) rfl rfl ?_
    exact kt)
  obtain ⟨T6, X6, e6, st6⟩ := getF X3 hx hZ hown (host := "") (Or.inl (wd hw 22 rfl)) Via.refl he3 Fv (g := (mkF m 24 #[vR a1, vI ch, vI 0] [(.ref a1)])) rfl rfl (hb hby d6_24)
  have pre7 := fun t (kt : At p e below T6 m 27 #[vR a1, vI ch, vI 0] [(.ref ab)] t) => pre5 t (st6 _ kt)
  have pre8 := fun t (kt : At p e below T6 m 30 #[vR a1, vI ch, vI 0] [(.ref a1), (.int 0), (.int ch), (.ref ab)] t) => pre7 t (by
    show At p e below T6 m 27 #[vR a1, vI ch, vI 0] [(.ref ab)] _
    refine XS.iloadN X6.here hx rfl (hb hby d6_27) rfl ?_
    show At p e below T6 m 28 #[vR a1, vI ch, vI 0] [(.int ch), (.ref ab)] _
    refine XS.iloadN X6.here hx rfl (hb hby d6_28) rfl ?_
    show At p e below T6 m 29 #[vR a1, vI ch, vI 0] [(.int 0), (.int ch), (.ref ab)] _
    refine XS.aloadN X6.here hx rfl (hb hby d6_29) rfl rfl ?_
    exact kt)
  obtain ⟨cq9, kq9, q9a, q9b, q9c⟩ := isOf hZ e6 E1
  obtain ⟨_, _, ⟨T10, L10, kc10, nc10⟩, -, X10, ⟨Lc10, hQ10, l10, y10, z10⟩, st10⟩ := X6.virtualBack hx (y := (⟨"java/lang/String", "length", "()I"⟩ : MethodName)) (z := (⟨"java/lang/String", "length", "()I"⟩ : MethodName)) hown (mvT hZ (wd hw 44 rfl)) (mvT hZ (wd hw 45 rfl)) (notFace_of_selects (args := #[]) (mvT hZ (wd hw 47 rfl))) (mvT hZ (wd hw 47 rfl)) (mvT hZ (wd hw 46 rfl)) (by decide) (backOf (W := 3) (rm8_1 l Z a0 hw [] a1 cs ab kb vs z n h0 n0 O0 SC hcs Fc E1 Fv Vb hz) hZ (wd hw 48 rfl) (wd hw 5 rfl) (by decide) (by decide)) q9a q9c (g := (mkF m 30 #[vR a1, vI ch, vI 0] [(.ref a1), (.int 0), (.int ch), (.ref ab)])) rfl (by rw [hml]; rfl) (Steps.refl _) (argsL := []) (rest := [(.int 0), (.int ch), (.ref ab)]) (lenOf pd_17 rfl) rfl (by show 2 * 0 + _ ≤ _; exact Nat.le_of_eq rfl) (hb hby d6_30) (fun _ _ => ⟨rfl, e6, (by decide : 0 + 0 ≤ _), (by decide : 0 + 0 ≤ _)⟩)
  dsimp only [Pt.U, Pt.locs, Pt.cells, Pt.slots] at X10 l10 y10 z10 st10 hQ10
  subst l10 y10 z10
  obtain ⟨rfl, N10q, he10⟩ := hQ10
  have N10 := Fr.app N3 N10q
  have pre11 := fun t (kt : At p e below T10 m 33 #[vR a1, vI ch, vI 0] [(.int n), (.int 0), (.int ch), (.ref ab)] t) => pre8 t (st10.trans kt)
  obtain ⟨_, _, ⟨T12, L12, kc12, nc12⟩, -, X12, ⟨Lc12, hQ12, l12, y12, z12⟩, st12⟩ := Jvm.LawKit.callS X10 hx (y := (⟨"java/lang/StringUTF16", "indexOf", "([BIII)I"⟩ : MethodName)) hown (mvT hZ (wd hw 104 rfl)) (mvT hZ (wd hw 105 rfl)) (mvT hZ (wd hw 70 rfl)) (mvT hZ (wd hw 106 rfl)) (by decide) (backOf (W := 0) (hM) hZ (wd hw 106 rfl) (wd hw 70 rfl) (by decide) (by decide)) (g := (mkF m 33 #[vR a1, vI ch, vI 0] [(.int n), (.int 0), (.int ch), (.ref ab)])) rfl (by rw [hml]; rfl) (argsL := [(.ref ab), (.int ch), (.int 0), (.int n)]) (rest := []) (lenOf pd_11 rfl) rfl (by show 2 * 0 + _ ≤ _; exact Nat.le_of_eq rfl) (hb hby d6_33) (fun _ _ => ⟨rfl, he10, (by decide : 0 + 0 ≤ _), (by decide : 0 + 0 ≤ _)⟩)
  dsimp only [Pt.U, Pt.locs, Pt.cells, Pt.slots] at X12 l12 y12 z12 st12 hQ12
  subst l12 y12 z12
  obtain ⟨r12, rfl, N12q, he12, hr12⟩ := hQ12
  have N12 := Fr.app N10 N12q
  have pre13 := fun t (kt : At p e below T12 m 36 #[vR a1, vI ch, vI 0] [(.int r12)] t) => pre11 t (st12 _ kt)
  obtain ⟨fs, hr, hrun, hended, hW, hsame⟩ := X12.leave (v := (some (.int r12))) (fun h => by rw [Bd.returns] at h; cases h)
  refine ⟨_, _, pre13 _ ?_, hrun, hended, _, _, rfl, ?_, ⟨_, rfl⟩, hW, hsame.mono (by decide) (by decide)⟩
  · show At p e below T12 m 36 #[vR a1, vI ch, vI 0] [(.int r12)] _
    exact retI X12 hx Bd.returns (hb hby d6_36) hr
  · show Q6_1 Z a1 cs ab kb ch vs z n qs h0 n0 _ T12.heap _
    rw [he12]
    exact ⟨_, rfl, N12, rfl, hr12⟩
theorem ef_5_1 (m : MethodId) (a1 : Addr) (ch : Int32) : entryFrame m #[(.ref a1), (.int ch)] 2 = (mkF m 0 #[vR a1, vI ch] []) := by first | (simp [entryFrame, mkF, argsToLocals, Value.category]; done) | rfl
def Q5_1 (Z : State) (a1 : Addr) (cs : Int32) (ab : Addr) (kb : ClassId) (ch : Int32) (vs : List Value) (z : Int32) (n : Int32) (qs : List Int32) (h0 : Heap) (n0 : Nat) (v : Option Value) (h : Heap) (L : List Loc) : Prop := ∃ r : Int32, v = some (.int r) ∧ Fr n0 L ∧ h = h0 ∧ (¬ (r < (0 : Int32)) ↔ ch ∈ qs)
set_option maxRecDepth 65536 in
set_option maxHeartbeats 40000000 in
theorem rm5_1 (l : Launch) (Z : State) (a0 : Array Value) (hw : ∀ d ∈ tables_1, d.before a0 Z = true) (ws : List Jvm.Cond) (a1 : Addr) (cs : Int32) (ab : Addr) (kb : ClassId) (ch : Int32) (vs : List Value) (z : Int32) (n : Int32) (qs : List Int32) (h0 : Heap) (n0 : Nat) (O0 : Old Z n0 h0) (SC : Sta Z Z.heap "java/lang/String" "COMPACT_STRINGS" "Z" (.int cs)) (hcs : ¬ (cs = (0 : Int32))) (E1 : Exa Z h0 a1 "java/lang/String") (Fc : Fld Z h0 a1 "java/lang/String" "coder" "B" (.int 1)) (Fv : Fld Z h0 a1 "java/lang/String" "value" "[B" (.ref ab)) (Vb : Arv Z h0 ab kb .byte z vs (.int 0)) (hz : (z >>> ((1 : Int32) &&& 31)) = n) (hM : own_I l Z (⟨"java/lang/StringUTF16", "indexOf", "([BIII)I"⟩ : MethodName) jdk_52_method_40_code 4 ({ frames := 4, cells := 0, slots := 0, locals := 58 } : Room) #[(.ref ab), (.int ch), (.int 0), (.int n)] h0 n0 ch qs) :
    MetFree l (⟨"java/lang/String", "indexOf", "(I)I"⟩ : MethodName) (head1 (Jvm.Cond.code (⟨"java/lang/String", "indexOf", "(I)I"⟩ : MethodName) jdk_42_method_79_code 2 (some .int) :: ws) ({ frames := 6, cells := 0, slots := 0, locals := 87 } : Room)) (fun a U => a = #[(.ref a1), (.int ch)] ∧ Z.Warmed39 U.vm ∧ U.heap = h0) (fun _ _ _ _ _ => True) (fun _ U o U' => ∃ v L, o = .returned v ∧ Q5_1 Z a1 cs ab kb ch vs z n qs h0 n0 v U'.heap L ∧ FrameEnd U o U' L ({ frames := 6, cells := 0, slots := 0, locals := 87 } : Room).cells ({ frames := 6, cells := 0, slots := 0, locals := 87 } : Room).slots) := by
  refine MetFree.of_bodySF (plainFor_of_name pn_4) hisR ?_
  intro p e s m args below meth c s₁ Bd hml0 hP hK
  obtain ⟨rfl, hZ, hh⟩ := hP
  have hx := Bd.exec
  have hby := Bd.bytes
  have hml : c.maxLocals = 2 := hml0
  have hown : s.vm.findClass "java/lang/String" = some m.cls := findClass_of_methodNamed Bd.named
  have hnm := (name_of_methodNamed Bd.named Bd.method).1
  have X0 : Stand p l e ({ frames := 6, cells := 0, slots := 0, locals := 87 } : Room) s m #[(.ref a1), (.int ch)] below meth c s₁ [] 0 0 := Stand.of_body Bd
  have e0 : s₁.heap = h0 := by rw [← hh, Bd.state]; rfl
  have N0 := Fr.nil n0
  have Z0 : n0 ≤ h0.size := O0.1 ▸ O0.2.1
  have pre0 : ∀ t, At p e below s₁ m 0 #[vR a1, vI ch] [] t → Steps p.tables e below (s₁.setTop (entryFrame m #[(.ref a1), (.int ch)] 2)) t := fun t k => castTop (ef_5_1 m a1 ch) k
  have pre1 := fun t (kt : At p e below s₁ m 3 #[vR a1, vI ch] [(.int 0), (.int ch), (.ref a1)] t) => pre0 t (by
    show At p e below s₁ m 0 #[vR a1, vI ch] [] _
    refine XS.aloadN X0.here hx rfl (hb hby d5_0) rfl rfl ?_
    show At p e below s₁ m 1 #[vR a1, vI ch] [(.ref a1)] _
    refine XS.iloadN X0.here hx rfl (hb hby d5_1) rfl ?_
    show At p e below s₁ m 2 #[vR a1, vI ch] [(.int ch), (.ref a1)] _
    refine XS.iconst X0.here hx rfl (hb hby d5_2) ?_
    exact kt)
  obtain ⟨cq2, kq2, q2a, q2b, q2c⟩ := isOf hZ e0 E1
  obtain ⟨_, _, ⟨T3, L3, kc3, nc3⟩, -, X3, ⟨Lc3, hQ3, l3, y3, z3⟩, st3⟩ := X0.virtualBack hx (y := (⟨"java/lang/String", "indexOf", "(II)I"⟩ : MethodName)) (z := (⟨"java/lang/String", "indexOf", "(II)I"⟩ : MethodName)) hown (mvT hZ (wd hw 33 rfl)) (mvT hZ (wd hw 34 rfl)) (notFace_of_selects (args := #[]) (mvT hZ (wd hw 36 rfl))) (mvT hZ (wd hw 36 rfl)) (mvT hZ (wd hw 35 rfl)) (by decide) (backOf (W := 0) (rm6_1 l Z a0 hw [] a1 cs ab kb ch vs z n qs h0 n0 O0 SC hcs E1 Fc Fv Vb hz hM) hZ (wd hw 37 rfl) (wd hw 5 rfl) (by decide) (by decide)) q2a q2c (g := (mkF m 3 #[vR a1, vI ch] [(.int 0), (.int ch), (.ref a1)])) rfl (by rw [hml]; rfl) (Steps.refl _) (argsL := [(.int ch), (.int 0)]) (rest := []) (lenOf pd_10 rfl) rfl (by show 2 * 0 + _ ≤ _; exact Nat.le_of_eq rfl) (hb hby d5_3) (fun _ _ => ⟨rfl, e0, (by decide : 0 + 0 ≤ _), (by decide : 0 + 0 ≤ _)⟩)
  dsimp only [Pt.U, Pt.locs, Pt.cells, Pt.slots] at X3 l3 y3 z3 st3 hQ3
  subst l3 y3 z3
  obtain ⟨r3, rfl, N3q, he3, hr3⟩ := hQ3
  have N3 := Fr.app N0 N3q
  have pre4 := fun t (kt : At p e below T3 m 6 #[vR a1, vI ch] [(.int r3)] t) => pre1 t (st3.trans kt)
  obtain ⟨fs, hr, hrun, hended, hW, hsame⟩ := X3.leave (v := (some (.int r3))) (fun h => by rw [Bd.returns] at h; cases h)
  refine ⟨_, _, pre4 _ ?_, hrun, hended, _, _, rfl, ?_, ⟨_, rfl⟩, hW, hsame.mono (by decide) (by decide)⟩
  · show At p e below T3 m 6 #[vR a1, vI ch] [(.int r3)] _
    exact retI X3 hx Bd.returns (hb hby d5_6) hr
  · show Q5_1 Z a1 cs ab kb ch vs z n qs h0 n0 _ T3.heap _
    rw [he3]
    exact ⟨_, rfl, N3, rfl, hr3⟩
theorem pn_7 : plainName "beanforge/core/PathPattern" = true := by first | (simp [plainName, overriddenIn]; done) | decide +kernel
theorem ef_4 (m : MethodId) (a1 : Addr) : entryFrame m #[(.ref a1)] 1 = (mkF m 0 #[vR a1] []) := by first | (simp [entryFrame, mkF, argsToLocals, Value.category]; done) | rfl
theorem d4_0 : decode prog_81_method_2_code 0 = .ok (.aload_n 0, 1) := by decide +kernel
theorem d4_1 : decode prog_81_method_2_code 1 = .ok (.bipush 42, 2) := by decide +kernel
theorem d4_3 : decode prog_81_method_2_code 3 = .ok (.invokevirtual 21, 3) := by decide +kernel
theorem d4_6 : decode prog_81_method_2_code 6 = .ok (.ifCond .ge 12, 3) := by decide +kernel
theorem d4_9 : decode prog_81_method_2_code 9 = .ok (.aload_n 0, 1) := by decide +kernel
theorem d4_10 : decode prog_81_method_2_code 10 = .ok (.bipush 63, 2) := by decide +kernel
theorem d4_12 : decode prog_81_method_2_code 12 = .ok (.invokevirtual 21, 3) := by decide +kernel
theorem d4_15 : decode prog_81_method_2_code 15 = .ok (.ifCond .lt 7, 3) := by decide +kernel
theorem d4_22 : decode prog_81_method_2_code 22 = .ok (.iconst 0, 1) := by decide +kernel
theorem d4_23 : decode prog_81_method_2_code 23 = .ok (.ireturn, 1) := by decide +kernel
theorem d4_18 : decode prog_81_method_2_code 18 = .ok (.iconst 1, 1) := by decide +kernel
theorem d4_19 : decode prog_81_method_2_code 19 = .ok (.goto 4, 3) := by decide +kernel
def Q4 (Z : State) (a1 : Addr) (cs : Int32) (n : Int32) (z2 : Int32) (bs_ : List Value) (ws_ : List Value) (lat : Prop) (uni : Prop) (qs : List Int32) (h0 : Heap) (n0 : Nat) (v : Option Value) (h : Heap) (L : List Loc) : Prop := ∃ r : Int32, v = some (.int r) ∧ Fr n0 L ∧ h = h0 ∧ ((r = (1 : Int32) ∧ own_P qs) ∨ (r = (0 : Int32) ∧ ¬ own_P qs))
set_option maxRecDepth 65536 in
set_option maxHeartbeats 40000000 in
theorem rm4 (l : Launch) (Z : State) (a0 : Array Value) (hw : ∀ d ∈ tables_1, d.before a0 Z = true) (ws : List Jvm.Cond) (a1 : Addr) (cs : Int32) (n : Int32) (z2 : Int32) (bs_ : List Value) (ws_ : List Value) (lat : Prop) (uni : Prop) (qs : List Int32) (h0 : Heap) (n0 : Nat) (O0 : Old Z n0 h0) (SC : Sta Z Z.heap "java/lang/String" "COMPACT_STRINGS" "Z" (.int cs)) (hcs : ¬ (cs = (0 : Int32))) (S1 : own_str Z h0 a1 n z2 bs_ ws_ lat uni) (hz0 : (n >>> ((0 : Int32) &&& 31)) = n) (hz1 : uni → (z2 >>> ((1 : Int32) &&& 31)) = n) (hL : lat → ∀ (ab : Addr) (kb : ClassId), Arv Z h0 ab kb .byte n bs_ (.int 0) → ∀ ch : Int32, (ch = 42 ∨ ch = 63) → own_I l Z (⟨"java/lang/StringLatin1", "indexOf", "([BIII)I"⟩ : MethodName) jdk_43_method_22_code 4 ({ frames := 1, cells := 0, slots := 0, locals := 17 } : Room) #[(.ref ab), (.int ch), (.int 0), (.int n)] h0 n0 ch qs) (hU : uni → ∀ (ab : Addr) (kb : ClassId), Arv Z h0 ab kb .byte z2 ws_ (.int 0) → ∀ ch : Int32, (ch = 42 ∨ ch = 63) → own_I l Z (⟨"java/lang/StringUTF16", "indexOf", "([BIII)I"⟩ : MethodName) jdk_52_method_40_code 4 ({ frames := 4, cells := 0, slots := 0, locals := 58 } : Room) #[(.ref ab), (.int ch), (.int 0), (.int n)] h0 n0 ch qs) :
    MetFree l (⟨"beanforge/core/PathPattern", "isPattern", "(Ljava/lang/String;)Z"⟩ : MethodName) (head1 (Jvm.Cond.code (⟨"beanforge/core/PathPattern", "isPattern", "(Ljava/lang/String;)Z"⟩ : MethodName) prog_81_method_2_code 1 (some .boolean) :: ws) ({ frames := 7, cells := 0, slots := 0, locals := 100 } : Room)) (fun a U => a = #[(.ref a1)] ∧ Z.Warmed39 U.vm ∧ U.heap = h0) (fun _ _ _ _ _ => True) (fun _ U o U' => ∃ v L, o = .returned v ∧ Q4 Z a1 cs n z2 bs_ ws_ lat uni qs h0 n0 v U'.heap L ∧ FrameEnd U o U' L ({ frames := 7, cells := 0, slots := 0, locals := 100 } : Room).cells ({ frames := 7, cells := 0, slots := 0, locals := 100 } : Room).slots) := by
  refine MetFree.of_bodySF (plainFor_of_name pn_7) hisR ?_
  intro p e s m args below meth c s₁ Bd hml0 hP hK
  obtain ⟨rfl, hZ, hh⟩ := hP
  have hx := Bd.exec
  have hby := Bd.bytes
  have hml : c.maxLocals = 1 := hml0
  have hown : s.vm.findClass "beanforge/core/PathPattern" = some m.cls := findClass_of_methodNamed Bd.named
  have hnm := (name_of_methodNamed Bd.named Bd.method).1
  have X0 : Stand p l e ({ frames := 7, cells := 0, slots := 0, locals := 100 } : Room) s m #[(.ref a1)] below meth c s₁ [] 0 0 := Stand.of_body Bd
  have e0 : s₁.heap = h0 := by rw [← hh, Bd.state]; rfl
  have N0 := Fr.nil n0
  have Z0 : n0 ≤ h0.size := O0.1 ▸ O0.2.1
  have pre0 : ∀ t, At p e below s₁ m 0 #[vR a1] [] t → Steps p.tables e below (s₁.setTop (entryFrame m #[(.ref a1)] 1)) t := fun t k => castTop (ef_4 m a1) k
  obtain ⟨E1, ab, kb, Fv, hcase⟩ := S1
  rcases hcase with ⟨hlu, Fc, Vb⟩ | ⟨hlu, Fc, Vb⟩
  · have pre1 := fun t (kt : At p e below s₁ m 3 #[vR a1] [(.int 42), (.ref a1)] t) => pre0 t (by
      show At p e below s₁ m 0 #[vR a1] [] _
      refine XS.aloadN X0.here hx rfl (hb hby d4_0) rfl rfl ?_
      show At p e below s₁ m 1 #[vR a1] [(.ref a1)] _
      refine XS.bipush X0.here hx rfl (hb hby d4_1) ?_
      exact kt)
    obtain ⟨cq2, kq2, q2a, q2b, q2c⟩ := isOf hZ e0 E1
    obtain ⟨_, _, ⟨T3, L3, kc3, nc3⟩, -, X3, ⟨Lc3, hQ3, l3, y3, z3⟩, st3⟩ := X0.virtualBack hx (y := (⟨"java/lang/String", "indexOf", "(I)I"⟩ : MethodName)) (z := (⟨"java/lang/String", "indexOf", "(I)I"⟩ : MethodName)) hown (mvT hZ (wd hw 28 rfl)) (mvT hZ (wd hw 29 rfl)) (notFace_of_selects (args := #[]) (mvT hZ (wd hw 31 rfl))) (mvT hZ (wd hw 31 rfl)) (mvT hZ (wd hw 30 rfl)) (by decide) (backOf (W := 0) (rm5_0 l Z a0 hw [] a1 cs ab kb (42 : Int32) bs_ n n qs h0 n0 O0 SC hcs E1 Fc Fv Vb hz0 (hL hlu ab kb Vb (42 : Int32) (by decide))) hZ (wd hw 32 rfl) (wd hw 5 rfl) (by decide) (by decide)) q2a q2c (g := (mkF m 3 #[vR a1] [(.int 42), (.ref a1)])) rfl (by rw [hml]; rfl) (Steps.refl _) (argsL := [(.int 42)]) (rest := []) (lenOf pd_0 rfl) rfl (by show 2 * 0 + _ ≤ _; exact Nat.le_of_eq rfl) (hb hby d4_3) (fun _ _ => ⟨rfl, e0, (by decide : 0 + 0 ≤ _), (by decide : 0 + 0 ≤ _)⟩)
    dsimp only [Pt.U, Pt.locs, Pt.cells, Pt.slots] at X3 l3 y3 z3 st3 hQ3
    subst l3 y3 z3
    obtain ⟨r3, rfl, N3q, he3, hr3⟩ := hQ3
    have N3 := Fr.app N0 N3q
    have pre4 := fun t (kt : At p e below T3 m 6 #[vR a1] [(.int r3)] t) => pre1 t (st3.trans kt)
    by_cases d42 : r3 < (0 : Int32)
    · have pre5 := fun t (kt : At p e below T3 m 12 #[vR a1] [(.int 63), (.ref a1)] t) => pre4 t (by
        show At p e below T3 m 6 #[vR a1] [(.int r3)] _
        refine XS.ifNo X3.here hx rfl (hb hby d4_6) rfl ((if0 _ _).trans (tlt (d42 : r3 < (0 : Int32))).2.1) ?_
        show At p e below T3 m 9 #[vR a1] [] _
        refine XS.aloadN X3.here hx rfl (hb hby d4_9) rfl rfl ?_
        show At p e below T3 m 10 #[vR a1] [(.ref a1)] _
        refine XS.bipush X3.here hx rfl (hb hby d4_10) ?_
        exact kt)
      obtain ⟨cq6, kq6, q6a, q6b, q6c⟩ := isOf hZ he3 E1
      obtain ⟨_, _, ⟨T7, L7, kc7, nc7⟩, -, X7, ⟨Lc7, hQ7, l7, y7, z7⟩, st7⟩ := X3.virtualBack hx (y := (⟨"java/lang/String", "indexOf", "(I)I"⟩ : MethodName)) (z := (⟨"java/lang/String", "indexOf", "(I)I"⟩ : MethodName)) hown (mvT hZ (wd hw 28 rfl)) (mvT hZ (wd hw 29 rfl)) (notFace_of_selects (args := #[]) (mvT hZ (wd hw 31 rfl))) (mvT hZ (wd hw 31 rfl)) (mvT hZ (wd hw 30 rfl)) (by decide) (backOf (W := 0) (rm5_0 l Z a0 hw [] a1 cs ab kb (63 : Int32) bs_ n n qs h0 n0 O0 SC hcs E1 Fc Fv Vb hz0 (hL hlu ab kb Vb (63 : Int32) (by decide))) hZ (wd hw 32 rfl) (wd hw 5 rfl) (by decide) (by decide)) q6a q6c (g := (mkF m 12 #[vR a1] [(.int 63), (.ref a1)])) rfl (by rw [hml]; rfl) (Steps.refl _) (argsL := [(.int 63)]) (rest := []) (lenOf pd_0 rfl) rfl (by show 2 * 0 + _ ≤ _; exact Nat.le_of_eq rfl) (hb hby d4_12) (fun _ _ => ⟨rfl, he3, (by decide : 0 + 0 ≤ _), (by decide : 0 + 0 ≤ _)⟩)
      dsimp only [Pt.U, Pt.locs, Pt.cells, Pt.slots] at X7 l7 y7 z7 st7 hQ7
      subst l7 y7 z7
      obtain ⟨r7, rfl, N7q, he7, hr7⟩ := hQ7
      have N7 := Fr.app N3 N7q
      have pre8 := fun t (kt : At p e below T7 m 15 #[vR a1] [(.int r7)] t) => pre5 t (st7.trans kt)
      by_cases d63 : r7 < (0 : Int32)
      · have pre9 := fun t (kt : At p e below T7 m 23 #[vR a1] [(.int 0)] t) => pre8 t (by
          show At p e below T7 m 15 #[vR a1] [(.int r7)] _
          refine XS.ifYes X7.here hx rfl (pc0 := 15) (pc' := 22) rfl (hb hby d4_15) rfl ((if0 _ _).trans (tlt (d63 : r7 < (0 : Int32))).1) (by decide) (by decide) ?_
          show At p e below T7 m 22 #[vR a1] [] _
          refine XS.iconst X7.here hx rfl (hb hby d4_22) ?_
          exact kt)
        obtain ⟨fs, hr, hrun, hended, hW, hsame⟩ := X7.leave (v := (some (.int 0))) (fun h => by rw [Bd.returns] at h; cases h)
        refine ⟨_, _, pre9 _ ?_, hrun, hended, _, _, rfl, ?_, ⟨_, rfl⟩, hW, hsame.mono (by decide) (by decide)⟩
        · show At p e below T7 m 23 #[vR a1] [(.int 0)] _
          exact retN X7 hx (t := .boolean) Bd.returns (by simp) (hb hby d4_23) hr
        · show Q4 Z a1 cs n z2 bs_ ws_ lat uni qs h0 n0 _ T7.heap _
          rw [he7]
          exact ⟨_, rfl, N7, rfl, Or.inr ⟨rfl, fun q => q.elim (fun t => hr3.mpr t d42) (fun t => hr7.mpr t d63)⟩⟩
      · have pre10 := fun t (kt : At p e below T7 m 23 #[vR a1] [(.int 1)] t) => pre8 t (by
          show At p e below T7 m 15 #[vR a1] [(.int r7)] _
          refine XS.ifNo X7.here hx rfl (hb hby d4_15) rfl ((if0 _ _).trans (flt (d63 : ¬ (r7 < (0 : Int32)))).1) ?_
          show At p e below T7 m 18 #[vR a1] [] _
          refine XS.iconst X7.here hx rfl (hb hby d4_18) ?_
          show At p e below T7 m 19 #[vR a1] [(.int 1)] _
          refine XS.goto X7.here hx rfl (pc0 := 19) (pc' := 23) rfl (hb hby d4_19) (by decide) (by decide) ?_
          exact kt)
        obtain ⟨fs, hr, hrun, hended, hW, hsame⟩ := X7.leave (v := (some (.int 1))) (fun h => by rw [Bd.returns] at h; cases h)
        refine ⟨_, _, pre10 _ ?_, hrun, hended, _, _, rfl, ?_, ⟨_, rfl⟩, hW, hsame.mono (by decide) (by decide)⟩
        · show At p e below T7 m 23 #[vR a1] [(.int 1)] _
          exact retN X7 hx (t := .boolean) Bd.returns (by simp) (hb hby d4_23) hr
        · show Q4 Z a1 cs n z2 bs_ ws_ lat uni qs h0 n0 _ T7.heap _
          rw [he7]
          exact ⟨_, rfl, N7, rfl, Or.inl ⟨rfl, Or.inr (hr7.mp d63)⟩⟩
    · have pre11 := fun t (kt : At p e below T3 m 23 #[vR a1] [(.int 1)] t) => pre4 t (by
        show At p e below T3 m 6 #[vR a1] [(.int r3)] _
        refine XS.ifYes X3.here hx rfl (pc0 := 6) (pc' := 18) rfl (hb hby d4_6) rfl ((if0 _ _).trans (flt (d42 : ¬ (r3 < (0 : Int32)))).2.1) (by decide) (by decide) ?_
        show At p e below T3 m 18 #[vR a1] [] _
        refine XS.iconst X3.here hx rfl (hb hby d4_18) ?_
        show At p e below T3 m 19 #[vR a1] [(.int 1)] _
        refine XS.goto X3.here hx rfl (pc0 := 19) (pc' := 23) rfl (hb hby d4_19) (by decide) (by decide) ?_
        exact kt)
      obtain ⟨fs, hr, hrun, hended, hW, hsame⟩ := X3.leave (v := (some (.int 1))) (fun h => by rw [Bd.returns] at h; cases h)
      refine ⟨_, _, pre11 _ ?_, hrun, hended, _, _, rfl, ?_, ⟨_, rfl⟩, hW, hsame.mono (by decide) (by decide)⟩
      · show At p e below T3 m 23 #[vR a1] [(.int 1)] _
        exact retN X3 hx (t := .boolean) Bd.returns (by simp) (hb hby d4_23) hr
      · show Q4 Z a1 cs n z2 bs_ ws_ lat uni qs h0 n0 _ T3.heap _
        rw [he3]
        exact ⟨_, rfl, N3, rfl, Or.inl ⟨rfl, Or.inl (hr3.mp d42)⟩⟩
  · have pre12 := fun t (kt : At p e below s₁ m 3 #[vR a1] [(.int 42), (.ref a1)] t) => pre0 t (by
      show At p e below s₁ m 0 #[vR a1] [] _
      refine XS.aloadN X0.here hx rfl (hb hby d4_0) rfl rfl ?_
      show At p e below s₁ m 1 #[vR a1] [(.ref a1)] _
      refine XS.bipush X0.here hx rfl (hb hby d4_1) ?_
      exact kt)
    obtain ⟨cq13, kq13, q13a, q13b, q13c⟩ := isOf hZ e0 E1
    obtain ⟨_, _, ⟨T14, L14, kc14, nc14⟩, -, X14, ⟨Lc14, hQ14, l14, y14, z14⟩, st14⟩ := X0.virtualBack hx (y := (⟨"java/lang/String", "indexOf", "(I)I"⟩ : MethodName)) (z := (⟨"java/lang/String", "indexOf", "(I)I"⟩ : MethodName)) hown (mvT hZ (wd hw 28 rfl)) (mvT hZ (wd hw 29 rfl)) (notFace_of_selects (args := #[]) (mvT hZ (wd hw 31 rfl))) (mvT hZ (wd hw 31 rfl)) (mvT hZ (wd hw 30 rfl)) (by decide) (backOf (W := 0) (rm5_1 l Z a0 hw [] a1 cs ab kb (42 : Int32) ws_ z2 n qs h0 n0 O0 SC hcs E1 Fc Fv Vb (hz1 hlu) (hU hlu ab kb Vb (42 : Int32) (by decide))) hZ (wd hw 32 rfl) (wd hw 5 rfl) (by decide) (by decide)) q13a q13c (g := (mkF m 3 #[vR a1] [(.int 42), (.ref a1)])) rfl (by rw [hml]; rfl) (Steps.refl _) (argsL := [(.int 42)]) (rest := []) (lenOf pd_0 rfl) rfl (by show 2 * 0 + _ ≤ _; exact Nat.le_of_eq rfl) (hb hby d4_3) (fun _ _ => ⟨rfl, e0, (by decide : 0 + 0 ≤ _), (by decide : 0 + 0 ≤ _)⟩)
    dsimp only [Pt.U, Pt.locs, Pt.cells, Pt.slots] at X14 l14 y14 z14 st14 hQ14
    subst l14 y14 z14
    obtain ⟨r14, rfl, N14q, he14, hr14⟩ := hQ14
    have N14 := Fr.app N0 N14q
    have pre15 := fun t (kt : At p e below T14 m 6 #[vR a1] [(.int r14)] t) => pre12 t (st14.trans kt)
    by_cases d42 : r14 < (0 : Int32)
    · have pre16 := fun t (kt : At p e below T14 m 12 #[vR a1] [(.int 63), (.ref a1)] t) => pre15 t (by
        show At p e below T14 m 6 #[vR a1] [(.int r14)] _
        refine XS.ifNo X14.here hx rfl (hb hby d4_6) rfl ((if0 _ _).trans (tlt (d42 : r14 < (0 : Int32))).2.1) ?_
        show At p e below T14 m 9 #[vR a1] [] _
        refine XS.aloadN X14.here hx rfl (hb hby d4_9) rfl rfl ?_
        show At p e below T14 m 10 #[vR a1] [(.ref a1)] _
        refine XS.bipush X14.here hx rfl (hb hby d4_10) ?_
        exact kt)
      obtain ⟨cq17, kq17, q17a, q17b, q17c⟩ := isOf hZ he14 E1
      obtain ⟨_, _, ⟨T18, L18, kc18, nc18⟩, -, X18, ⟨Lc18, hQ18, l18, y18, z18⟩, st18⟩ := X14.virtualBack hx (y := (⟨"java/lang/String", "indexOf", "(I)I"⟩ : MethodName)) (z := (⟨"java/lang/String", "indexOf", "(I)I"⟩ : MethodName)) hown (mvT hZ (wd hw 28 rfl)) (mvT hZ (wd hw 29 rfl)) (notFace_of_selects (args := #[]) (mvT hZ (wd hw 31 rfl))) (mvT hZ (wd hw 31 rfl)) (mvT hZ (wd hw 30 rfl)) (by decide) (backOf (W := 0) (rm5_1 l Z a0 hw [] a1 cs ab kb (63 : Int32) ws_ z2 n qs h0 n0 O0 SC hcs E1 Fc Fv Vb (hz1 hlu) (hU hlu ab kb Vb (63 : Int32) (by decide))) hZ (wd hw 32 rfl) (wd hw 5 rfl) (by decide) (by decide)) q17a q17c (g := (mkF m 12 #[vR a1] [(.int 63), (.ref a1)])) rfl (by rw [hml]; rfl) (Steps.refl _) (argsL := [(.int 63)]) (rest := []) (lenOf pd_0 rfl) rfl (by show 2 * 0 + _ ≤ _; exact Nat.le_of_eq rfl) (hb hby d4_12) (fun _ _ => ⟨rfl, he14, (by decide : 0 + 0 ≤ _), (by decide : 0 + 0 ≤ _)⟩)
      dsimp only [Pt.U, Pt.locs, Pt.cells, Pt.slots] at X18 l18 y18 z18 st18 hQ18
      subst l18 y18 z18
      obtain ⟨r18, rfl, N18q, he18, hr18⟩ := hQ18
      have N18 := Fr.app N14 N18q
      have pre19 := fun t (kt : At p e below T18 m 15 #[vR a1] [(.int r18)] t) => pre16 t (st18.trans kt)
      by_cases d63 : r18 < (0 : Int32)
      · have pre20 := fun t (kt : At p e below T18 m 23 #[vR a1] [(.int 0)] t) => pre19 t (by
          show At p e below T18 m 15 #[vR a1] [(.int r18)] _
          refine XS.ifYes X18.here hx rfl (pc0 := 15) (pc' := 22) rfl (hb hby d4_15) rfl ((if0 _ _).trans (tlt (d63 : r18 < (0 : Int32))).1) (by decide) (by decide) ?_
          show At p e below T18 m 22 #[vR a1] [] _
          refine XS.iconst X18.here hx rfl (hb hby d4_22) ?_
          exact kt)
        obtain ⟨fs, hr, hrun, hended, hW, hsame⟩ := X18.leave (v := (some (.int 0))) (fun h => by rw [Bd.returns] at h; cases h)
        refine ⟨_, _, pre20 _ ?_, hrun, hended, _, _, rfl, ?_, ⟨_, rfl⟩, hW, hsame.mono (by decide) (by decide)⟩
        · show At p e below T18 m 23 #[vR a1] [(.int 0)] _
          exact retN X18 hx (t := .boolean) Bd.returns (by simp) (hb hby d4_23) hr
        · show Q4 Z a1 cs n z2 bs_ ws_ lat uni qs h0 n0 _ T18.heap _
          rw [he18]
          exact ⟨_, rfl, N18, rfl, Or.inr ⟨rfl, fun q => q.elim (fun t => hr14.mpr t d42) (fun t => hr18.mpr t d63)⟩⟩
      · have pre21 := fun t (kt : At p e below T18 m 23 #[vR a1] [(.int 1)] t) => pre19 t (by
          show At p e below T18 m 15 #[vR a1] [(.int r18)] _
          refine XS.ifNo X18.here hx rfl (hb hby d4_15) rfl ((if0 _ _).trans (flt (d63 : ¬ (r18 < (0 : Int32)))).1) ?_
          show At p e below T18 m 18 #[vR a1] [] _
          refine XS.iconst X18.here hx rfl (hb hby d4_18) ?_
          show At p e below T18 m 19 #[vR a1] [(.int 1)] _
          refine XS.goto X18.here hx rfl (pc0 := 19) (pc' := 23) rfl (hb hby d4_19) (by decide) (by decide) ?_
          exact kt)
        obtain ⟨fs, hr, hrun, hended, hW, hsame⟩ := X18.leave (v := (some (.int 1))) (fun h => by rw [Bd.returns] at h; cases h)
        refine ⟨_, _, pre21 _ ?_, hrun, hended, _, _, rfl, ?_, ⟨_, rfl⟩, hW, hsame.mono (by decide) (by decide)⟩
        · show At p e below T18 m 23 #[vR a1] [(.int 1)] _
          exact retN X18 hx (t := .boolean) Bd.returns (by simp) (hb hby d4_23) hr
        · show Q4 Z a1 cs n z2 bs_ ws_ lat uni qs h0 n0 _ T18.heap _
          rw [he18]
          exact ⟨_, rfl, N18, rfl, Or.inl ⟨rfl, Or.inr (hr18.mp d63)⟩⟩
    · have pre22 := fun t (kt : At p e below T14 m 23 #[vR a1] [(.int 1)] t) => pre15 t (by
        show At p e below T14 m 6 #[vR a1] [(.int r14)] _
        refine XS.ifYes X14.here hx rfl (pc0 := 6) (pc' := 18) rfl (hb hby d4_6) rfl ((if0 _ _).trans (flt (d42 : ¬ (r14 < (0 : Int32)))).2.1) (by decide) (by decide) ?_
        show At p e below T14 m 18 #[vR a1] [] _
        refine XS.iconst X14.here hx rfl (hb hby d4_18) ?_
        show At p e below T14 m 19 #[vR a1] [(.int 1)] _
        refine XS.goto X14.here hx rfl (pc0 := 19) (pc' := 23) rfl (hb hby d4_19) (by decide) (by decide) ?_
        exact kt)
      obtain ⟨fs, hr, hrun, hended, hW, hsame⟩ := X14.leave (v := (some (.int 1))) (fun h => by rw [Bd.returns] at h; cases h)
      refine ⟨_, _, pre22 _ ?_, hrun, hended, _, _, rfl, ?_, ⟨_, rfl⟩, hW, hsame.mono (by decide) (by decide)⟩
      · show At p e below T14 m 23 #[vR a1] [(.int 1)] _
        exact retN X14 hx (t := .boolean) Bd.returns (by simp) (hb hby d4_23) hr
      · show Q4 Z a1 cs n z2 bs_ ws_ lat uni qs h0 n0 _ T14.heap _
        rw [he14]
        exact ⟨_, rfl, N14, rfl, Or.inl ⟨rfl, Or.inl (hr14.mp d42)⟩⟩
theorem ef_0 (m : MethodId) (p0 : Int32) (p1 : Int32) (p2 : Int32) (p3 : Int32) (p4 : Int32) : entryFrame m #[(.int p0), (.int p1), (.int p2), (.int p3), (.int p4)] maxLocals = (mkF m 0 #[vI p0, vI p1, vI p2, vI p3, vI p4, vU, vU, vU, vU, vU, vU, vU, vU] []) := by first | (simp [entryFrame, mkF, argsToLocals, Value.category, maxLocals]; done) | rfl
theorem pd_18 : parseMethodDescriptor "([C)V" = some ⟨[(.array .char)], none⟩ := by decide +kernel
theorem pd_19 : parseMethodDescriptor "(Ljava/lang/String;)Z" = some ⟨[(.object "java/lang/String")], some .boolean⟩ := by decide +kernel
theorem pd_20 : parseMethodDescriptor "(C)Z" = some ⟨[.char], some .boolean⟩ := by decide +kernel
def Q0 (Z : State) (p0 : Int32) (p1 : Int32) (p2 : Int32) (p3 : Int32) (p4 : Int32) (cs : Int32) (u : Value) (h0 : Heap) (n0 : Nat) (v : Option Value) (h : Heap) (L : List Loc) : Prop := v = some (.int 1) ∧ Fr n0 L
set_option maxRecDepth 65536 in
set_option maxHeartbeats 40000000 in
theorem rm0 (l : Launch) (Z : State) (a0 : Array Value) (hw : ∀ d ∈ tables_1, d.before a0 Z = true) (ws : List Jvm.Cond) (p0 : Int32) (p1 : Int32) (p2 : Int32) (p3 : Int32) (p4 : Int32) (cs : Int32) (u : Value) (h0 : Heap) (n0 : Nat) (O0 : Old Z n0 h0) (SC : Sta Z Z.heap "java/lang/String" "COMPACT_STRINGS" "Z" (.int cs)) (hcs : ¬ (cs = (0 : Int32))) (SA : Sta Z Z.heap "java/lang/StringUTF16" "$assertionsDisabled" "Z" (.int 1)) (SH : Sta Z Z.heap "java/lang/StringUTF16" "HI_BYTE_SHIFT" "I" (.int 0)) (SL : Sta Z Z.heap "java/lang/StringUTF16" "LO_BYTE_SHIFT" "I" (.int 8)) (hu : u.isRef = true) (SF : Sta Z Z.heap "jdk/internal/util/Preconditions" "SIOOBE_FORMATTER" "Ljava/util/function/BiFunction;" u) :
    MetFree l x (head1 (Jvm.Cond.code x code maxLocals ret :: ws) room_1) (fun a U => a = #[(.int p0), (.int p1), (.int p2), (.int p3), (.int p4)] ∧ Z.Warmed39 U.vm ∧ U.heap = h0 ∧ CHv Z [("java/lang/String", (7 : Nat))] U.vm h0) (fun _ _ _ _ _ => True) (fun _ U o U' => ∃ v L, o = .returned v ∧ Q0 Z p0 p1 p2 p3 p4 cs u h0 n0 v U'.heap L ∧ ReturnedEndW U o U' L room_1.cells room_1.slots) := by
  refine MetFree.of_bodySF (plainFor_of_name pn_0) hisR ?_
  intro p e s m args below meth c s₁ Bd hml0 hP hK
  obtain ⟨rfl, hZ, hh, hC0⟩ := hP
  have hx := Bd.exec
  have hby := Bd.bytes
  have hml : c.maxLocals = 13 := hml0
  have hown : s.vm.findClass "beanforge/core/PathPatternIsPatternPinLaw" = some m.cls := findClass_of_methodNamed Bd.named
  have hnm := (name_of_methodNamed Bd.named Bd.method).1
  have X0 : Stand p l e room_1 (s.setVm s.vm) m #[(.int p0), (.int p1), (.int p2), (.int p3), (.int p4)] below meth c s₁ [] 0 0 := Stand.of_body Bd
  have e0 : s₁.heap = h0 := by rw [← hh, Bd.state]; rfl
  have N0 := Fr.nil n0
  have hS := (State.WarmedH.refl s).since s₁.heap.size
  have hk : s₁.heap.size ≤ h0.size := Nat.le_of_eq (congrArg Array.size e0)
  have wS : ∀ a ∈ Bundle.stringAtoms, a.before a0 Z = true := own_wS hw
  have hEL : EW Z a0 [("java/lang/String", (7 : Nat))] := own_EL hw
  have CR0 := CHr.refl hC0
  have Z0 : n0 ≤ h0.size := O0.1 ▸ O0.2.1
  have pre0 : ∀ t, At p e below s₁ m 0 #[vI p0, vI p1, vI p2, vI p3, vI p4, vU, vU, vU, vU, vU, vU, vU, vU] [] t → Steps p.tables e below (s₁.setTop (entryFrame m #[(.int p0), (.int p1), (.int p2), (.int p3), (.int p4)] maxLocals)) t := fun t k => castTop (ef_0 m p0 p1 p2 p3 p4) k
  have pre1 := fun t (kt : At p e below s₁ m 39 #[vI p0, vI p1, vI p2, vI p3, vI p4, vI (own_nn p4), vI (own_x p0), vI (own_x p1), vI (own_x p2), vI (own_x p3), vU, vU, vU] [(.int (own_nn p4))] t) => pre0 t (by
    show At p e below s₁ m 0 #[vI p0, vI p1, vI p2, vI p3, vI p4, vU, vU, vU, vU, vU, vU, vU, vU] [] _
    refine XS.iload X0.here hx rfl (hb hby at_0) rfl ?_
    show At p e below s₁ m 2 #[vI p0, vI p1, vI p2, vI p3, vI p4, vU, vU, vU, vU, vU, vU, vU, vU] [(.int p4)] _
    refine X0.ldcInt hx hown (mvT hZ (wd hw 0 rfl)) (g := (mkF m 2 #[vI p0, vI p1, vI p2, vI p3, vI p4, vU, vU, vU, vU, vU, vU, vU, vU] [(.int p4)])) rfl (hb hby at_2) _ ?_
    show At p e below s₁ m 4 #[vI p0, vI p1, vI p2, vI p3, vI p4, vU, vU, vU, vU, vU, vU, vU, vU] [(.int 2147483647), (.int p4)] _
    refine XS.iand X0.here hx rfl (hb hby at_4) rfl ?_
    show At p e below s₁ m 5 #[vI p0, vI p1, vI p2, vI p3, vI p4, vU, vU, vU, vU, vU, vU, vU, vU] [(.int (p4 &&& (2147483647 : Int32)))] _
    refine XS.iconst X0.here hx rfl (hb hby at_5) ?_
    show At p e below s₁ m 6 #[vI p0, vI p1, vI p2, vI p3, vI p4, vU, vU, vU, vU, vU, vU, vU, vU] [(.int 5), (.int (p4 &&& (2147483647 : Int32)))] _
    refine Jvm.RoadKit.iremM X0 hx rfl (hb hby at_6) rfl (by decide) ?_
    show At p e below s₁ m 7 #[vI p0, vI p1, vI p2, vI p3, vI p4, vU, vU, vU, vU, vU, vU, vU, vU] [(.int (own_nn p4))] _
    show At p e below s₁ m 7 #[vI p0, vI p1, vI p2, vI p3, vI p4, vU, vU, vU, vU, vU, vU, vU, vU] [(.int (own_nn p4))] _
    refine XS.istore X0.here hx rfl (hb hby at_7) rfl (l' := #[vI p0, vI p1, vI p2, vI p3, vI p4, vI (own_nn p4), vU, vU, vU, vU, vU, vU, vU]) rfl ?_
    show At p e below s₁ m 9 #[vI p0, vI p1, vI p2, vI p3, vI p4, vI (own_nn p4), vU, vU, vU, vU, vU, vU, vU] [] _
    refine XS.iloadN X0.here hx rfl (hb hby at_9) rfl ?_
    show At p e below s₁ m 10 #[vI p0, vI p1, vI p2, vI p3, vI p4, vI (own_nn p4), vU, vU, vU, vU, vU, vU, vU] [(.int p0)] _
    refine X0.ldcInt hx hown (mvT hZ (wd hw 1 rfl)) (g := (mkF m 10 #[vI p0, vI p1, vI p2, vI p3, vI p4, vI (own_nn p4), vU, vU, vU, vU, vU, vU, vU] [(.int p0)])) rfl (hb hby at_10) _ ?_
    show At p e below s₁ m 12 #[vI p0, vI p1, vI p2, vI p3, vI p4, vI (own_nn p4), vU, vU, vU, vU, vU, vU, vU] [(.int 65535), (.int p0)] _
    refine XS.iand X0.here hx rfl (hb hby at_12) rfl ?_
    show At p e below s₁ m 13 #[vI p0, vI p1, vI p2, vI p3, vI p4, vI (own_nn p4), vU, vU, vU, vU, vU, vU, vU] [(.int (p0 &&& (65535 : Int32)))] _
    refine XS.i2c X0.here hx rfl (hb hby at_13) rfl ?_
    show At p e below s₁ m 14 #[vI p0, vI p1, vI p2, vI p3, vI p4, vI (own_nn p4), vU, vU, vU, vU, vU, vU, vU] [(.int (own_x p0))] _
    show At p e below s₁ m 14 #[vI p0, vI p1, vI p2, vI p3, vI p4, vI (own_nn p4), vU, vU, vU, vU, vU, vU, vU] [(.int (own_x p0))] _
    refine XS.istore X0.here hx rfl (hb hby at_14) rfl (l' := #[vI p0, vI p1, vI p2, vI p3, vI p4, vI (own_nn p4), vI (own_x p0), vU, vU, vU, vU, vU, vU]) rfl ?_
    show At p e below s₁ m 16 #[vI p0, vI p1, vI p2, vI p3, vI p4, vI (own_nn p4), vI (own_x p0), vU, vU, vU, vU, vU, vU] [] _
    refine XS.iloadN X0.here hx rfl (hb hby at_16) rfl ?_
    show At p e below s₁ m 17 #[vI p0, vI p1, vI p2, vI p3, vI p4, vI (own_nn p4), vI (own_x p0), vU, vU, vU, vU, vU, vU] [(.int p1)] _
    refine X0.ldcInt hx hown (mvT hZ (wd hw 1 rfl)) (g := (mkF m 17 #[vI p0, vI p1, vI p2, vI p3, vI p4, vI (own_nn p4), vI (own_x p0), vU, vU, vU, vU, vU, vU] [(.int p1)])) rfl (hb hby at_17) _ ?_
    show At p e below s₁ m 19 #[vI p0, vI p1, vI p2, vI p3, vI p4, vI (own_nn p4), vI (own_x p0), vU, vU, vU, vU, vU, vU] [(.int 65535), (.int p1)] _
    refine XS.iand X0.here hx rfl (hb hby at_19) rfl ?_
    show At p e below s₁ m 20 #[vI p0, vI p1, vI p2, vI p3, vI p4, vI (own_nn p4), vI (own_x p0), vU, vU, vU, vU, vU, vU] [(.int (p1 &&& (65535 : Int32)))] _
    refine XS.i2c X0.here hx rfl (hb hby at_20) rfl ?_
    show At p e below s₁ m 21 #[vI p0, vI p1, vI p2, vI p3, vI p4, vI (own_nn p4), vI (own_x p0), vU, vU, vU, vU, vU, vU] [(.int (own_x p1))] _
    show At p e below s₁ m 21 #[vI p0, vI p1, vI p2, vI p3, vI p4, vI (own_nn p4), vI (own_x p0), vU, vU, vU, vU, vU, vU] [(.int (own_x p1))] _
    refine XS.istore X0.here hx rfl (hb hby at_21) rfl (l' := #[vI p0, vI p1, vI p2, vI p3, vI p4, vI (own_nn p4), vI (own_x p0), vI (own_x p1), vU, vU, vU, vU, vU]) rfl ?_
    show At p e below s₁ m 23 #[vI p0, vI p1, vI p2, vI p3, vI p4, vI (own_nn p4), vI (own_x p0), vI (own_x p1), vU, vU, vU, vU, vU] [] _
    refine XS.iloadN X0.here hx rfl (hb hby at_23) rfl ?_
    show At p e below s₁ m 24 #[vI p0, vI p1, vI p2, vI p3, vI p4, vI (own_nn p4), vI (own_x p0), vI (own_x p1), vU, vU, vU, vU, vU] [(.int p2)] _
    refine X0.ldcInt hx hown (mvT hZ (wd hw 1 rfl)) (g := (mkF m 24 #[vI p0, vI p1, vI p2, vI p3, vI p4, vI (own_nn p4), vI (own_x p0), vI (own_x p1), vU, vU, vU, vU, vU] [(.int p2)])) rfl (hb hby at_24) _ ?_
    show At p e below s₁ m 26 #[vI p0, vI p1, vI p2, vI p3, vI p4, vI (own_nn p4), vI (own_x p0), vI (own_x p1), vU, vU, vU, vU, vU] [(.int 65535), (.int p2)] _
    refine XS.iand X0.here hx rfl (hb hby at_26) rfl ?_
    show At p e below s₁ m 27 #[vI p0, vI p1, vI p2, vI p3, vI p4, vI (own_nn p4), vI (own_x p0), vI (own_x p1), vU, vU, vU, vU, vU] [(.int (p2 &&& (65535 : Int32)))] _
    refine XS.i2c X0.here hx rfl (hb hby at_27) rfl ?_
    show At p e below s₁ m 28 #[vI p0, vI p1, vI p2, vI p3, vI p4, vI (own_nn p4), vI (own_x p0), vI (own_x p1), vU, vU, vU, vU, vU] [(.int (own_x p2))] _
    show At p e below s₁ m 28 #[vI p0, vI p1, vI p2, vI p3, vI p4, vI (own_nn p4), vI (own_x p0), vI (own_x p1), vU, vU, vU, vU, vU] [(.int (own_x p2))] _
    refine XS.istore X0.here hx rfl (hb hby at_28) rfl (l' := #[vI p0, vI p1, vI p2, vI p3, vI p4, vI (own_nn p4), vI (own_x p0), vI (own_x p1), vI (own_x p2), vU, vU, vU, vU]) rfl ?_
    show At p e below s₁ m 30 #[vI p0, vI p1, vI p2, vI p3, vI p4, vI (own_nn p4), vI (own_x p0), vI (own_x p1), vI (own_x p2), vU, vU, vU, vU] [] _
    refine XS.iloadN X0.here hx rfl (hb hby at_30) rfl ?_
    show At p e below s₁ m 31 #[vI p0, vI p1, vI p2, vI p3, vI p4, vI (own_nn p4), vI (own_x p0), vI (own_x p1), vI (own_x p2), vU, vU, vU, vU] [(.int p3)] _
    refine X0.ldcInt hx hown (mvT hZ (wd hw 1 rfl)) (g := (mkF m 31 #[vI p0, vI p1, vI p2, vI p3, vI p4, vI (own_nn p4), vI (own_x p0), vI (own_x p1), vI (own_x p2), vU, vU, vU, vU] [(.int p3)])) rfl (hb hby at_31) _ ?_
    show At p e below s₁ m 33 #[vI p0, vI p1, vI p2, vI p3, vI p4, vI (own_nn p4), vI (own_x p0), vI (own_x p1), vI (own_x p2), vU, vU, vU, vU] [(.int 65535), (.int p3)] _
    refine XS.iand X0.here hx rfl (hb hby at_33) rfl ?_
    show At p e below s₁ m 34 #[vI p0, vI p1, vI p2, vI p3, vI p4, vI (own_nn p4), vI (own_x p0), vI (own_x p1), vI (own_x p2), vU, vU, vU, vU] [(.int (p3 &&& (65535 : Int32)))] _
    refine XS.i2c X0.here hx rfl (hb hby at_34) rfl ?_
    show At p e below s₁ m 35 #[vI p0, vI p1, vI p2, vI p3, vI p4, vI (own_nn p4), vI (own_x p0), vI (own_x p1), vI (own_x p2), vU, vU, vU, vU] [(.int (own_x p3))] _
    show At p e below s₁ m 35 #[vI p0, vI p1, vI p2, vI p3, vI p4, vI (own_nn p4), vI (own_x p0), vI (own_x p1), vI (own_x p2), vU, vU, vU, vU] [(.int (own_x p3))] _
    refine XS.istore X0.here hx rfl (hb hby at_35) rfl (l' := #[vI p0, vI p1, vI p2, vI p3, vI p4, vI (own_nn p4), vI (own_x p0), vI (own_x p1), vI (own_x p2), vI (own_x p3), vU, vU, vU]) rfl ?_
    show At p e below s₁ m 37 #[vI p0, vI p1, vI p2, vI p3, vI p4, vI (own_nn p4), vI (own_x p0), vI (own_x p1), vI (own_x p2), vI (own_x p3), vU, vU, vU] [] _
    refine XS.iload X0.here hx rfl (hb hby at_37) rfl ?_
    exact kt)
  by_cases nn0 : (own_nn p4) = (0 : Int32)
  · have pre2 := fun t (kt : At p e below s₁ m 43 #[vI p0, vI p1, vI p2, vI p3, vI p4, vI 0, vI (own_x p0), vI (own_x p1), vI (own_x p2), vI (own_x p3), vU, vU, vU] [(.int 0)] t) => pre1 t (by
      show At p e below s₁ m 39 #[vI p0, vI p1, vI p2, vI p3, vI p4, vI (own_nn p4), vI (own_x p0), vI (own_x p1), vI (own_x p2), vI (own_x p3), vU, vU, vU] [(.int (own_nn p4))] _
      refine XS.ifNo X0.here hx rfl (hb hby at_39) rfl ((if0 _ _).trans (teq (nn0 : (own_nn p4) = (0 : Int32))).2) ?_
      show At p e below s₁ m 42 #[vI p0, vI p1, vI p2, vI p3, vI p4, vI (own_nn p4), vI (own_x p0), vI (own_x p1), vI (own_x p2), vI (own_x p3), vU, vU, vU] [] _
      rw [show (own_nn p4) = (0 : Int32) from nn0]
      show At p e below s₁ m 42 #[vI p0, vI p1, vI p2, vI p3, vI p4, vI 0, vI (own_x p0), vI (own_x p1), vI (own_x p2), vI (own_x p3), vU, vU, vU] [] _
      refine XS.iconst X0.here hx rfl (hb hby at_42) ?_
      exact kt)
    obtain ⟨T3, h3, k3, X3, e3, E3, A3, st3⟩ := newP X0 hx hZ (wd hw 2 rfl) e0 (g := (mkF m 43 #[vI p0, vI p1, vI p2, vI p3, vI p4, vI 0, vI (own_x p0), vI (own_x p1), vI (own_x p2), vI (own_x p3), vU, vU, vU] [(.int 0)])) rfl (hb hby at_43) rfl (by decide) (cap := 0) (by decide) (by decide) (by decide) (by decide)
    obtain ⟨b3, gq3⟩ : ∃ z, z = h0.size := ⟨_, rfl⟩
    rw [← gq3] at A3 st3
    have gg_b3 : n0 ≤ b3 := Nat.le_trans Z0 (Nat.le_of_eq gq3.symm)
    have V3 : Arv Z h3 b3 k3 .char (0 : Int32) [] (.int 0) := Arv.new A3 (by decide)
    have pre4 := fun t (kt : At p e below T3 m 45 #[vI p0, vI p1, vI p2, vI p3, vI p4, vI 0, vI (own_x p0), vI (own_x p1), vI (own_x p2), vI (own_x p3), vU, vU, vU] [(.ref b3)] t) => pre2 t (st3 _ kt)
    have pre5 := fun t (kt : At p e below T3 m 147 #[vI p0, vI p1, vI p2, vI p3, vI p4, vI 0, vI (own_x p0), vI (own_x p1), vI (own_x p2), vI (own_x p3), vR b3, vU, vU] [] t) => pre4 t (by
      show At p e below T3 m 45 #[vI p0, vI p1, vI p2, vI p3, vI p4, vI 0, vI (own_x p0), vI (own_x p1), vI (own_x p2), vI (own_x p3), vU, vU, vU] [(.ref b3)] _
      refine XS.astore X3.here hx rfl (hb hby at_45) rfl rfl (l' := #[vI p0, vI p1, vI p2, vI p3, vI p4, vI 0, vI (own_x p0), vI (own_x p1), vI (own_x p2), vI (own_x p3), vR b3, vU, vU]) rfl ?_
      show At p e below T3 m 47 #[vI p0, vI p1, vI p2, vI p3, vI p4, vI 0, vI (own_x p0), vI (own_x p1), vI (own_x p2), vI (own_x p3), vR b3, vU, vU] [] _
      refine XS.goto X3.here hx rfl (pc0 := 47) (pc' := 147) rfl (hb hby at_47) (by decide) (by decide) ?_
      exact kt)
    obtain ⟨T6, h6, X6, e6, E6, A6, D6, -, st6⟩ := newO X3 hx hZ hown (wd hw 3 rfl) (wd hw 4 rfl) (wd hw 5 rfl) e3 (g := (mkF m 147 #[vI p0, vI p1, vI p2, vI p3, vI p4, vI 0, vI (own_x p0), vI (own_x p1), vI (own_x p2), vI (own_x p3), vR b3, vU, vU] [])) rfl (hb hby at_147) (by decide) (by decide)
    obtain ⟨b6, gq6⟩ : ∃ z, z = h3.size := ⟨_, rfl⟩
    rw [← gq6] at A6 D6 st6
    have z7 : n0 ≤ h3.size := (Nat.le_trans Z0 E3.1)
    have gg_b6 : n0 ≤ b6 := Nat.le_trans z7 (Nat.le_of_eq gq6.symm)
    have F6_value : Fld Z h6 b6 "java/lang/String" "value" "[B" .null := D6 (Or.inr (wd hw 18 rfl)) (ty := (.array .byte)) (by decide)
    have F6_coder : Fld Z h6 b6 "java/lang/String" "coder" "B" (.int 0) := D6 (Or.inr (wd hw 19 rfl)) (ty := .byte) (by decide)
    have pre8 := fun t (kt : At p e below T6 m 150 #[vI p0, vI p1, vI p2, vI p3, vI p4, vI 0, vI (own_x p0), vI (own_x p1), vI (own_x p2), vI (own_x p3), vR b3, vU, vU] [(.ref b6)] t) => pre5 t (st6 _ kt)
    have z9 : n0 ≤ h6.size := (Nat.le_trans z7 E6.1)
    have f10 := (V3.ext E6)
    have CR11 := CR0.trans (CHr.ext E3 CR0.1)
    have sf12 := Safe.ext E3 CR0.1 (Safe.new (Nat.le_of_eq gq3.symm))
    have CR13 := CR11.trans (CHr.ext E6 CR11.1)
    have sf14 := Safe.ext E6 CR11.1 sf12
    have sf15 := Safe.ext E6 CR11.1 (Safe.new (Nat.le_of_eq gq6.symm))
    have pre16 := fun t (kt : At p e below T6 m 153 #[vI p0, vI p1, vI p2, vI p3, vI p4, vI 0, vI (own_x p0), vI (own_x p1), vI (own_x p2), vI (own_x p3), vR b3, vU, vU] [(.ref b3), (.ref b6), (.ref b6)] t) => pre8 t (by
      show At p e below T6 m 150 #[vI p0, vI p1, vI p2, vI p3, vI p4, vI 0, vI (own_x p0), vI (own_x p1), vI (own_x p2), vI (own_x p3), vR b3, vU, vU] [(.ref b6)] _
      refine XS.dup X6.here hx rfl (hb hby at_150) rfl rfl ?_
      show At p e below T6 m 151 #[vI p0, vI p1, vI p2, vI p3, vI p4, vI 0, vI (own_x p0), vI (own_x p1), vI (own_x p2), vI (own_x p3), vR b3, vU, vU] [(.ref b6), (.ref b6)] _
      refine XS.aload X6.here hx rfl (hb hby at_151) rfl rfl ?_
      exact kt)
    have hk17 := (Nat.le_trans (Nat.le_trans hk E3.1) E6.1)
    obtain ⟨_, _, ⟨T18, L18, kc18, nc18⟩, -, Xo18, hSo18, gr18, ⟨Lc18, hQ18, l18, y18, z18, C18⟩, st18⟩ := X6.specialBackS hx (y := (⟨"java/lang/String", "<init>", "([C)V"⟩ : MethodName)) rfl hown (mvT hZ (wd hw 6 rfl)) (mvT hZ (wd hw 7 rfl)) (mvT hZ (wd hw 8 rfl)) (by decide) (backOfSH (W := 1) (rm1_0 l Z a0 hw [] b6 b3 k3 h6 n0 z9 A6 F6_value F6_coder gg_b6 f10) hZ (wd hw 8 rfl) (wd hw 5 rfl) (by decide) (by decide) hEL CR13.1) (g := (mkF m 153 #[vI p0, vI p1, vI p2, vI p3, vI p4, vI 0, vI (own_x p0), vI (own_x p1), vI (own_x p2), vI (own_x p3), vR b3, vU, vU] [(.ref b3), (.ref b6), (.ref b6)])) rfl (by rw [hml]; rfl) (Steps.refl _) (a := b6) (argsL := [(.ref b3)]) (rest := [(.ref b6)]) (lenOf pd_18 rfl) rfl (by show 2 * 0 + _ ≤ _; exact Nat.le_of_eq rfl) (hb hby at_153) (fun _ _ => ⟨rfl, e6, (by decide : 2 + 4 ≤ _), (by decide : 4 + 8 ≤ _)⟩)
    dsimp only [Pt.U, Pt.locs, Pt.cells, Pt.slots] at Xo18 hSo18 gr18 l18 y18 z18 st18 hQ18 C18
    subst l18 y18 z18
    obtain ⟨X18, hS18, hZ18, hown18⟩ := rebS hS (e6.symm ▸ hk17) Xo18 hSo18 gr18 hZ hown
    have hZ := hZ18
    have hown := hown18
    have hS := hS18
    obtain ⟨rfl, N18q, K18, S18⟩ := hQ18
    have N18 := Fr.app N0 N18q
    have hk18 : T18.heap.size ≤ T18.heap.size := Nat.le_refl _
    have pre19 := fun t (kt : At p e below T18 m 156 #[vI p0, vI p1, vI p2, vI p3, vI p4, vI 0, vI (own_x p0), vI (own_x p1), vI (own_x p2), vI (own_x p3), vR b3, vU, vU] [(.ref b6)] t) => pre16 t (st18.trans kt)
    have o20 : Old Z n0 T18.heap := (((O0.ext E3).ext E6).keep K18 (allS gg_b6 all0))
    have z21 : n0 ≤ T18.heap.size := (Nat.le_trans z9 K18.1)
    have pre22 := fun t (kt : At p e below T18 m 222 #[vI p0, vI p1, vI p2, vI p3, vI p4, vI 0, vI (own_x p0), vI (own_x p1), vI (own_x p2), vI (own_x p3), vR b3, vR b6, vI 0] [(.ref b6)] t) => pre19 t (by
      show At p e below T18 m 156 #[vI p0, vI p1, vI p2, vI p3, vI p4, vI 0, vI (own_x p0), vI (own_x p1), vI (own_x p2), vI (own_x p3), vR b3, vU, vU] [(.ref b6)] _
      refine XS.astore X18.here hx rfl (hb hby at_156) rfl rfl (l' := #[vI p0, vI p1, vI p2, vI p3, vI p4, vI 0, vI (own_x p0), vI (own_x p1), vI (own_x p2), vI (own_x p3), vR b3, vR b6, vU]) rfl ?_
      show At p e below T18 m 158 #[vI p0, vI p1, vI p2, vI p3, vI p4, vI 0, vI (own_x p0), vI (own_x p1), vI (own_x p2), vI (own_x p3), vR b3, vR b6, vU] [] _
      refine XS.iload X18.here hx rfl (hb hby at_158) rfl ?_
      show At p e below T18 m 160 #[vI p0, vI p1, vI p2, vI p3, vI p4, vI 0, vI (own_x p0), vI (own_x p1), vI (own_x p2), vI (own_x p3), vR b3, vR b6, vU] [(.int 0)] _
      refine XS.ifYes X18.here hx rfl (pc0 := 160) (pc' := 171) rfl (hb hby at_160) rfl ((if0 _ _).trans (flt (by decide : ¬ ((0 : Int32) < (0 : Int32)))).2.2.2) (by decide) (by decide) ?_
      show At p e below T18 m 171 #[vI p0, vI p1, vI p2, vI p3, vI p4, vI 0, vI (own_x p0), vI (own_x p1), vI (own_x p2), vI (own_x p3), vR b3, vR b6, vU] [] _
      refine XS.iload X18.here hx rfl (hb hby at_171) rfl ?_
      show At p e below T18 m 173 #[vI p0, vI p1, vI p2, vI p3, vI p4, vI 0, vI (own_x p0), vI (own_x p1), vI (own_x p2), vI (own_x p3), vR b3, vR b6, vU] [(.int 0)] _
      refine XS.iconst X18.here hx rfl (hb hby at_173) ?_
      show At p e below T18 m 174 #[vI p0, vI p1, vI p2, vI p3, vI p4, vI 0, vI (own_x p0), vI (own_x p1), vI (own_x p2), vI (own_x p3), vR b3, vR b6, vU] [(.int 1), (.int 0)] _
      refine XS.icmpYes X18.here hx rfl (pc0 := 174) (pc' := 185) rfl (hb hby at_174) rfl (flt (by decide : ¬ ((1 : Int32) < (0 : Int32)))).2.2.2 (by decide) (by decide) ?_
      show At p e below T18 m 185 #[vI p0, vI p1, vI p2, vI p3, vI p4, vI 0, vI (own_x p0), vI (own_x p1), vI (own_x p2), vI (own_x p3), vR b3, vR b6, vU] [] _
      refine XS.iload X18.here hx rfl (hb hby at_185) rfl ?_
      show At p e below T18 m 187 #[vI p0, vI p1, vI p2, vI p3, vI p4, vI 0, vI (own_x p0), vI (own_x p1), vI (own_x p2), vI (own_x p3), vR b3, vR b6, vU] [(.int 0)] _
      refine XS.iconst X18.here hx rfl (hb hby at_187) ?_
      show At p e below T18 m 188 #[vI p0, vI p1, vI p2, vI p3, vI p4, vI 0, vI (own_x p0), vI (own_x p1), vI (own_x p2), vI (own_x p3), vR b3, vR b6, vU] [(.int 2), (.int 0)] _
      refine XS.icmpYes X18.here hx rfl (pc0 := 188) (pc' := 199) rfl (hb hby at_188) rfl (flt (by decide : ¬ ((2 : Int32) < (0 : Int32)))).2.2.2 (by decide) (by decide) ?_
      show At p e below T18 m 199 #[vI p0, vI p1, vI p2, vI p3, vI p4, vI 0, vI (own_x p0), vI (own_x p1), vI (own_x p2), vI (own_x p3), vR b3, vR b6, vU] [] _
      refine XS.iload X18.here hx rfl (hb hby at_199) rfl ?_
      show At p e below T18 m 201 #[vI p0, vI p1, vI p2, vI p3, vI p4, vI 0, vI (own_x p0), vI (own_x p1), vI (own_x p2), vI (own_x p3), vR b3, vR b6, vU] [(.int 0)] _
      refine XS.iconst X18.here hx rfl (hb hby at_201) ?_
      show At p e below T18 m 202 #[vI p0, vI p1, vI p2, vI p3, vI p4, vI 0, vI (own_x p0), vI (own_x p1), vI (own_x p2), vI (own_x p3), vR b3, vR b6, vU] [(.int 3), (.int 0)] _
      refine XS.icmpYes X18.here hx rfl (pc0 := 202) (pc' := 217) rfl (hb hby at_202) rfl (flt (by decide : ¬ ((3 : Int32) < (0 : Int32)))).2.2.2 (by decide) (by decide) ?_
      show At p e below T18 m 217 #[vI p0, vI p1, vI p2, vI p3, vI p4, vI 0, vI (own_x p0), vI (own_x p1), vI (own_x p2), vI (own_x p3), vR b3, vR b6, vU] [] _
      refine XS.iconst X18.here hx rfl (hb hby at_217) ?_
      show At p e below T18 m 218 #[vI p0, vI p1, vI p2, vI p3, vI p4, vI 0, vI (own_x p0), vI (own_x p1), vI (own_x p2), vI (own_x p3), vR b3, vR b6, vU] [(.int 0)] _
      refine XS.istore X18.here hx rfl (hb hby at_218) rfl (l' := #[vI p0, vI p1, vI p2, vI p3, vI p4, vI 0, vI (own_x p0), vI (own_x p1), vI (own_x p2), vI (own_x p3), vR b3, vR b6, vI 0]) rfl ?_
      show At p e below T18 m 220 #[vI p0, vI p1, vI p2, vI p3, vI p4, vI 0, vI (own_x p0), vI (own_x p1), vI (own_x p2), vI (own_x p3), vR b3, vR b6, vI 0] [] _
      refine XS.aload X18.here hx rfl (hb hby at_220) rfl rfl ?_
      exact kt)
    obtain ⟨_, _, ⟨T23, L23, kc23, nc23⟩, -, X23, ⟨Lc23, hQ23, l23, y23, z23⟩, st23⟩ := Jvm.LawKit.callS X18 hx (y := (⟨"beanforge/core/PathPattern", "isPattern", "(Ljava/lang/String;)Z"⟩ : MethodName)) hown (mvT hZ (wd hw 24 rfl)) (mvT hZ (wd hw 25 rfl)) (mvT hZ (wd hw 26 rfl)) (mvT hZ (wd hw 27 rfl)) (by decide) (backOf (W := 0) (rm4 l Z a0 hw [] b6 cs (0 : Int32) (0 : Int32) _ _ _ _ [] T18.heap n0 o20 SC hcs S18 (by decide) (fun q => q.elim) (fun _ ab kb V ch hc => rm10_0 l Z a0 hw [] ab kb ch _ T18.heap n0 z21 V hc) (fun q => q.elim)) hZ (wd hw 27 rfl) (wd hw 26 rfl) (by decide) (by decide)) (g := (mkF m 222 #[vI p0, vI p1, vI p2, vI p3, vI p4, vI 0, vI (own_x p0), vI (own_x p1), vI (own_x p2), vI (own_x p3), vR b3, vR b6, vI 0] [(.ref b6)])) rfl (by rw [hml]; rfl) (argsL := [(.ref b6)]) (rest := []) (lenOf pd_19 rfl) rfl (by show 2 * 0 + _ ≤ _; exact Nat.le_of_eq rfl) (hb hby at_222) (fun _ _ => ⟨rfl, rfl, (by decide : 6 + 0 ≤ _), (by decide : 12 + 0 ≤ _)⟩)
    dsimp only [Pt.U, Pt.locs, Pt.cells, Pt.slots] at X23 l23 y23 z23 st23 hQ23
    subst l23 y23 z23
    obtain ⟨r23, rfl, N23q, he23, hr23⟩ := hQ23
    have N23 := Fr.app N18 N23q
    have pre24 := fun t (kt : At p e below T23 m 225 #[vI p0, vI p1, vI p2, vI p3, vI p4, vI 0, vI (own_x p0), vI (own_x p1), vI (own_x p2), vI (own_x p3), vR b3, vR b6, vI 0] [(.int r23)] t) => pre22 t (st23 _ kt)
    have hv : r23 = (0 : Int32) := own_r0 hr23 (own_wn)
    have pre25 := fun t (kt : At p e below T23 m 235 #[vI p0, vI p1, vI p2, vI p3, vI p4, vI 0, vI (own_x p0), vI (own_x p1), vI (own_x p2), vI (own_x p3), vR b3, vR b6, vI 0] [(.int 1)] t) => pre24 t (by
      show At p e below T23 m 225 #[vI p0, vI p1, vI p2, vI p3, vI p4, vI 0, vI (own_x p0), vI (own_x p1), vI (own_x p2), vI (own_x p3), vR b3, vR b6, vI 0] [(.int r23)] _
      rw [show r23 = (0 : Int32) from hv]
      show At p e below T23 m 225 #[vI p0, vI p1, vI p2, vI p3, vI p4, vI 0, vI (own_x p0), vI (own_x p1), vI (own_x p2), vI (own_x p3), vR b3, vR b6, vI 0] [(.int 0)] _
      refine XS.iload X23.here hx rfl (hb hby at_225) rfl ?_
      show At p e below T23 m 227 #[vI p0, vI p1, vI p2, vI p3, vI p4, vI 0, vI (own_x p0), vI (own_x p1), vI (own_x p2), vI (own_x p3), vR b3, vR b6, vI 0] [(.int 0), (.int 0)] _
      refine XS.icmpNo X23.here hx rfl (hb hby at_227) rfl (teq (by decide : (0 : Int32) = (0 : Int32))).2 ?_
      show At p e below T23 m 230 #[vI p0, vI p1, vI p2, vI p3, vI p4, vI 0, vI (own_x p0), vI (own_x p1), vI (own_x p2), vI (own_x p3), vR b3, vR b6, vI 0] [] _
      refine XS.iconst X23.here hx rfl (hb hby at_230) ?_
      show At p e below T23 m 231 #[vI p0, vI p1, vI p2, vI p3, vI p4, vI 0, vI (own_x p0), vI (own_x p1), vI (own_x p2), vI (own_x p3), vR b3, vR b6, vI 0] [(.int 1)] _
      refine XS.goto X23.here hx rfl (pc0 := 231) (pc' := 235) rfl (hb hby at_231) (by decide) (by decide) ?_
      exact kt)
    obtain ⟨fs, hr, hrun, hended, -, hW, hI, hsame⟩ := X23.leaveW hS (he23.symm ▸ hk18) (v := (some (.int 1))) (fun h => by rw [Bd.returns] at h; cases h)
    refine ⟨_, _, pre25 _ ?_, hrun, hended, _, _, rfl, ?_, ⟨_, rfl⟩, hW, hI, hsame.mono (by decide) (by decide)⟩
    · show At p e below T23 m 235 #[vI p0, vI p1, vI p2, vI p3, vI p4, vI 0, vI (own_x p0), vI (own_x p1), vI (own_x p2), vI (own_x p3), vR b3, vR b6, vI 0] [(.int 1)] _
      exact retN X23 hx (t := .boolean) Bd.returns (by simp) (hb hby at_235) hr
    · show Q0 Z p0 p1 p2 p3 p4 cs u h0 n0 _ T23.heap _
      rw [he23]
      exact ⟨rfl, N23⟩
  · have pre26 := fun t (kt : At p e below s₁ m 53 #[vI p0, vI p1, vI p2, vI p3, vI p4, vI (own_nn p4), vI (own_x p0), vI (own_x p1), vI (own_x p2), vI (own_x p3), vU, vU, vU] [(.int 1), (.int (own_nn p4))] t) => pre1 t (by
      show At p e below s₁ m 39 #[vI p0, vI p1, vI p2, vI p3, vI p4, vI (own_nn p4), vI (own_x p0), vI (own_x p1), vI (own_x p2), vI (own_x p3), vU, vU, vU] [(.int (own_nn p4))] _
      refine XS.ifYes X0.here hx rfl (pc0 := 39) (pc' := 50) rfl (hb hby at_39) rfl ((if0 _ _).trans (feq (nn0 : ¬ ((own_nn p4) = (0 : Int32)))).2) (by decide) (by decide) ?_
      show At p e below s₁ m 50 #[vI p0, vI p1, vI p2, vI p3, vI p4, vI (own_nn p4), vI (own_x p0), vI (own_x p1), vI (own_x p2), vI (own_x p3), vU, vU, vU] [] _
      refine XS.iload X0.here hx rfl (hb hby at_50) rfl ?_
      show At p e below s₁ m 52 #[vI p0, vI p1, vI p2, vI p3, vI p4, vI (own_nn p4), vI (own_x p0), vI (own_x p1), vI (own_x p2), vI (own_x p3), vU, vU, vU] [(.int (own_nn p4))] _
      refine XS.iconst X0.here hx rfl (hb hby at_52) ?_
      exact kt)
    by_cases nn1 : (own_nn p4) = (1 : Int32)
    · have pre27 := fun t (kt : At p e below s₁ m 57 #[vI p0, vI p1, vI p2, vI p3, vI p4, vI 1, vI (own_x p0), vI (own_x p1), vI (own_x p2), vI (own_x p3), vU, vU, vU] [(.int 1)] t) => pre26 t (by
        show At p e below s₁ m 53 #[vI p0, vI p1, vI p2, vI p3, vI p4, vI (own_nn p4), vI (own_x p0), vI (own_x p1), vI (own_x p2), vI (own_x p3), vU, vU, vU] [(.int 1), (.int (own_nn p4))] _
        refine XS.icmpNo X0.here hx rfl (hb hby at_53) rfl (teq (nn1 : (own_nn p4) = (1 : Int32))).2 ?_
        show At p e below s₁ m 56 #[vI p0, vI p1, vI p2, vI p3, vI p4, vI (own_nn p4), vI (own_x p0), vI (own_x p1), vI (own_x p2), vI (own_x p3), vU, vU, vU] [] _
        rw [show (own_nn p4) = (1 : Int32) from nn1]
        show At p e below s₁ m 56 #[vI p0, vI p1, vI p2, vI p3, vI p4, vI 1, vI (own_x p0), vI (own_x p1), vI (own_x p2), vI (own_x p3), vU, vU, vU] [] _
        refine XS.iconst X0.here hx rfl (hb hby at_56) ?_
        exact kt)
      obtain ⟨T28, h28, k28, X28, e28, E28, A28, st28⟩ := newP X0 hx hZ (wd hw 2 rfl) e0 (g := (mkF m 57 #[vI p0, vI p1, vI p2, vI p3, vI p4, vI 1, vI (own_x p0), vI (own_x p1), vI (own_x p2), vI (own_x p3), vU, vU, vU] [(.int 1)])) rfl (hb hby at_57) rfl (by decide) (cap := 1) (by decide) (by decide) (by decide) (by decide)
      obtain ⟨b28, gq28⟩ : ∃ z, z = h0.size := ⟨_, rfl⟩
      rw [← gq28] at A28 st28
      have gg_b28 : n0 ≤ b28 := Nat.le_trans Z0 (Nat.le_of_eq gq28.symm)
      have V28 : Arv Z h28 b28 k28 .char (1 : Int32) [(.int 0)] (.int 0) := (Arv.new A28 (by decide)).pad (pad_rep [] (.int 0) 1)
      have pre29 := fun t (kt : At p e below T28 m 59 #[vI p0, vI p1, vI p2, vI p3, vI p4, vI 1, vI (own_x p0), vI (own_x p1), vI (own_x p2), vI (own_x p3), vU, vU, vU] [(.ref b28)] t) => pre27 t (st28 _ kt)
      obtain ⟨cl30, Ar30, qk30, Sz30, Nn30, Hh30, Gg30⟩ := id V28
      have hin30 : ¬ ((0 : Int32) < 0 ∨ cl30.slots.size ≤ ((0 : Int32)).toNatClampNeg) := inb_of Sz30 ⟨by decide, by decide⟩
      have pre31 := fun t (kt : At p e below T28 m 63 #[vI p0, vI p1, vI p2, vI p3, vI p4, vI 1, vI (own_x p0), vI (own_x p1), vI (own_x p2), vI (own_x p3), vU, vU, vU] [(.int (own_x p0)), (.int 0), (.ref b28), (.ref b28)] t) => pre29 t (by
        show At p e below T28 m 59 #[vI p0, vI p1, vI p2, vI p3, vI p4, vI 1, vI (own_x p0), vI (own_x p1), vI (own_x p2), vI (own_x p3), vU, vU, vU] [(.ref b28)] _
        refine XS.dup X28.here hx rfl (hb hby at_59) rfl rfl ?_
        show At p e below T28 m 60 #[vI p0, vI p1, vI p2, vI p3, vI p4, vI 1, vI (own_x p0), vI (own_x p1), vI (own_x p2), vI (own_x p3), vU, vU, vU] [(.ref b28), (.ref b28)] _
        refine XS.iconst X28.here hx rfl (hb hby at_60) ?_
        show At p e below T28 m 61 #[vI p0, vI p1, vI p2, vI p3, vI p4, vI 1, vI (own_x p0), vI (own_x p1), vI (own_x p2), vI (own_x p3), vU, vU, vU] [(.int 0), (.ref b28), (.ref b28)] _
        refine XS.iload X28.here hx rfl (hb hby at_61) rfl ?_
        exact kt)
      obtain ⟨T32, h32, X32, e32, W32, st32⟩ := stC X28 hx hZ e28 Ar30 (j := (0 : Int32)) hin30 (g := (mkF m 63 #[vI p0, vI p1, vI p2, vI p3, vI p4, vI 1, vI (own_x p0), vI (own_x p1), vI (own_x p2), vI (own_x p3), vU, vU, vU] [(.int (own_x p0)), (.int 0), (.ref b28), (.ref b28)])) rfl rfl (hb hby at_63)
      have V32 := Arv.set Ar30 qk30 Sz30 Nn30 Hh30 Gg30 (fits_nar_char _) W32 0 rfl (Nat.le_of_ble_eq_true rfl)
      have V32' : Arv Z h32 b28 k28 .char (1 : Int32) [(.int (nar .char (own_x p0)))] (.int 0) := V32
      have N32 := Fr.snoc X32 N0 gg_b28
      have pre33 := fun t (kt : At p e below T32 m 64 #[vI p0, vI p1, vI p2, vI p3, vI p4, vI 1, vI (own_x p0), vI (own_x p1), vI (own_x p2), vI (own_x p3), vU, vU, vU] [(.ref b28)] t) => pre31 t (st32 _ kt)
      have pre34 := fun t (kt : At p e below T32 m 147 #[vI p0, vI p1, vI p2, vI p3, vI p4, vI 1, vI (own_x p0), vI (own_x p1), vI (own_x p2), vI (own_x p3), vR b28, vU, vU] [] t) => pre33 t (by
        show At p e below T32 m 64 #[vI p0, vI p1, vI p2, vI p3, vI p4, vI 1, vI (own_x p0), vI (own_x p1), vI (own_x p2), vI (own_x p3), vU, vU, vU] [(.ref b28)] _
        refine XS.astore X32.here hx rfl (hb hby at_64) rfl rfl (l' := #[vI p0, vI p1, vI p2, vI p3, vI p4, vI 1, vI (own_x p0), vI (own_x p1), vI (own_x p2), vI (own_x p3), vR b28, vU, vU]) rfl ?_
        show At p e below T32 m 66 #[vI p0, vI p1, vI p2, vI p3, vI p4, vI 1, vI (own_x p0), vI (own_x p1), vI (own_x p2), vI (own_x p3), vR b28, vU, vU] [] _
        refine XS.goto X32.here hx rfl (pc0 := 66) (pc' := 147) rfl (hb hby at_66) (by decide) (by decide) ?_
        exact kt)
      obtain ⟨T35, h35, X35, e35, E35, A35, D35, -, st35⟩ := newO X32 hx hZ hown (wd hw 3 rfl) (wd hw 4 rfl) (wd hw 5 rfl) e32 (g := (mkF m 147 #[vI p0, vI p1, vI p2, vI p3, vI p4, vI 1, vI (own_x p0), vI (own_x p1), vI (own_x p2), vI (own_x p3), vR b28, vU, vU] [])) rfl (hb hby at_147) (by decide) (by decide)
      obtain ⟨b35, gq35⟩ : ∃ z, z = h32.size := ⟨_, rfl⟩
      rw [← gq35] at A35 D35 st35
      have z36 : n0 ≤ h32.size := (Nat.le_trans (Nat.le_trans Z0 E28.1) (Keep.of_wr W32).1)
      have gg_b35 : n0 ≤ b35 := Nat.le_trans z36 (Nat.le_of_eq gq35.symm)
      have F35_value : Fld Z h35 b35 "java/lang/String" "value" "[B" .null := D35 (Or.inr (wd hw 18 rfl)) (ty := (.array .byte)) (by decide)
      have F35_coder : Fld Z h35 b35 "java/lang/String" "coder" "B" (.int 0) := D35 (Or.inr (wd hw 19 rfl)) (ty := .byte) (by decide)
      have pre37 := fun t (kt : At p e below T35 m 150 #[vI p0, vI p1, vI p2, vI p3, vI p4, vI 1, vI (own_x p0), vI (own_x p1), vI (own_x p2), vI (own_x p3), vR b28, vU, vU] [(.ref b35)] t) => pre34 t (st35 _ kt)
      have o38 : Old Z n0 h35 := (((O0.ext E28).wr W32 gg_b28).ext E35)
      have f39 := (V32'.ext E35)
      have pre40 := fun t (kt : At p e below T35 m 153 #[vI p0, vI p1, vI p2, vI p3, vI p4, vI 1, vI (own_x p0), vI (own_x p1), vI (own_x p2), vI (own_x p3), vR b28, vU, vU] [(.ref b28), (.ref b35), (.ref b35)] t) => pre37 t (by
        show At p e below T35 m 150 #[vI p0, vI p1, vI p2, vI p3, vI p4, vI 1, vI (own_x p0), vI (own_x p1), vI (own_x p2), vI (own_x p3), vR b28, vU, vU] [(.ref b35)] _
        refine XS.dup X35.here hx rfl (hb hby at_150) rfl rfl ?_
        show At p e below T35 m 151 #[vI p0, vI p1, vI p2, vI p3, vI p4, vI 1, vI (own_x p0), vI (own_x p1), vI (own_x p2), vI (own_x p3), vR b28, vU, vU] [(.ref b35), (.ref b35)] _
        refine XS.aload X35.here hx rfl (hb hby at_151) rfl rfl ?_
        exact kt)
      obtain ⟨_, _, ⟨T41, L41, kc41, nc41⟩, -, X41, ⟨Lc41, hQ41, l41, y41, z41⟩, st41⟩ := X35.specialBack hx (y := (⟨"java/lang/String", "<init>", "([C)V"⟩ : MethodName)) rfl hown (mvT hZ (wd hw 6 rfl)) (mvT hZ (wd hw 7 rfl)) (mvT hZ (wd hw 8 rfl)) (by decide) (backOf (W := 1) (rm1_1 l Z a0 hw [] b35 b28 k28 cs (nar .char (own_x p0)) h35 n0 o38 A35 F35_value F35_coder gg_b35 SC hcs SA SH SL f39 (own_Rn _)) hZ (wd hw 8 rfl) (wd hw 5 rfl) (by decide) (by decide)) (g := (mkF m 153 #[vI p0, vI p1, vI p2, vI p3, vI p4, vI 1, vI (own_x p0), vI (own_x p1), vI (own_x p2), vI (own_x p3), vR b28, vU, vU] [(.ref b28), (.ref b35), (.ref b35)])) rfl (by rw [hml]; rfl) (Steps.refl _) (a := b35) (argsL := [(.ref b28)]) (rest := [(.ref b35)]) (lenOf pd_18 rfl) rfl (by show 2 * 0 + _ ≤ _; exact Nat.le_of_eq rfl) (hb hby at_153) (fun _ _ => ⟨rfl, e35, (by decide : 2 + 2 ≤ _), (by decide : 5 + 3 ≤ _)⟩)
      dsimp only [Pt.U, Pt.locs, Pt.cells, Pt.slots] at X41 l41 y41 z41 st41 hQ41
      subst l41 y41 z41
      obtain ⟨rfl, N41q, K41, S41⟩ := hQ41
      have N41 := Fr.app N32 N41q
      have pre42 := fun t (kt : At p e below T41 m 156 #[vI p0, vI p1, vI p2, vI p3, vI p4, vI 1, vI (own_x p0), vI (own_x p1), vI (own_x p2), vI (own_x p3), vR b28, vU, vU] [(.ref b35)] t) => pre40 t (st41.trans kt)
      have z43 : n0 ≤ T41.heap.size := (Nat.le_trans (Nat.le_trans z36 E35.1) K41.1)
      have pre44 := fun t (kt : At p e below T41 m 165 #[vI p0, vI p1, vI p2, vI p3, vI p4, vI 1, vI (own_x p0), vI (own_x p1), vI (own_x p2), vI (own_x p3), vR b28, vR b35, vU] [(.int (own_x p0))] t) => pre42 t (by
        show At p e below T41 m 156 #[vI p0, vI p1, vI p2, vI p3, vI p4, vI 1, vI (own_x p0), vI (own_x p1), vI (own_x p2), vI (own_x p3), vR b28, vU, vU] [(.ref b35)] _
        refine XS.astore X41.here hx rfl (hb hby at_156) rfl rfl (l' := #[vI p0, vI p1, vI p2, vI p3, vI p4, vI 1, vI (own_x p0), vI (own_x p1), vI (own_x p2), vI (own_x p3), vR b28, vR b35, vU]) rfl ?_
        show At p e below T41 m 158 #[vI p0, vI p1, vI p2, vI p3, vI p4, vI 1, vI (own_x p0), vI (own_x p1), vI (own_x p2), vI (own_x p3), vR b28, vR b35, vU] [] _
        refine XS.iload X41.here hx rfl (hb hby at_158) rfl ?_
        show At p e below T41 m 160 #[vI p0, vI p1, vI p2, vI p3, vI p4, vI 1, vI (own_x p0), vI (own_x p1), vI (own_x p2), vI (own_x p3), vR b28, vR b35, vU] [(.int 1)] _
        refine XS.ifNo X41.here hx rfl (hb hby at_160) rfl ((if0 _ _).trans (tlt (by decide : (0 : Int32) < (1 : Int32))).2.2.2) ?_
        show At p e below T41 m 163 #[vI p0, vI p1, vI p2, vI p3, vI p4, vI 1, vI (own_x p0), vI (own_x p1), vI (own_x p2), vI (own_x p3), vR b28, vR b35, vU] [] _
        refine XS.iload X41.here hx rfl (hb hby at_163) rfl ?_
        exact kt)
      obtain ⟨_, _, ⟨T45, L45, kc45, nc45⟩, -, X45, ⟨Lc45, hQ45, l45, y45, z45⟩, st45⟩ := Jvm.LawKit.callS X41 hx (y := (⟨"beanforge/core/PathPatternIsPatternPinLaw", "wild", "(C)Z"⟩ : MethodName)) hown (mvT hZ (wd hw 78 rfl)) (mvT hZ (wd hw 79 rfl)) (mvT hZ (wd hw 80 rfl)) (mvT hZ (wd hw 81 rfl)) (by decide) (backOf (W := 0) (rm17 l Z a0 hw [] (own_x p0) T41.heap n0 z43) hZ (wd hw 81 rfl) (wd hw 80 rfl) (by decide) (by decide)) (g := (mkF m 165 #[vI p0, vI p1, vI p2, vI p3, vI p4, vI 1, vI (own_x p0), vI (own_x p1), vI (own_x p2), vI (own_x p3), vR b28, vR b35, vU] [(.int (own_x p0))])) rfl (by rw [hml]; rfl) (argsL := [(.int (own_x p0))]) (rest := []) (lenOf pd_20 rfl) rfl (by show 2 * 0 + _ ≤ _; exact Nat.le_of_eq rfl) (hb hby at_165) (fun _ _ => ⟨rfl, rfl, (by decide : 4 + 0 ≤ _), (by decide : 8 + 0 ≤ _)⟩)
      dsimp only [Pt.U, Pt.locs, Pt.cells, Pt.slots] at X45 l45 y45 z45 st45 hQ45
      subst l45 y45 z45
      obtain ⟨rfl, N45q, he45⟩ := hQ45
      have N45 := Fr.app N41 N45q
      have pre46 := fun t (kt : At p e below T45 m 168 #[vI p0, vI p1, vI p2, vI p3, vI p4, vI 1, vI (own_x p0), vI (own_x p1), vI (own_x p2), vI (own_x p3), vR b28, vR b35, vU] [(.int (own_w (own_x p0)))] t) => pre44 t (st45 _ kt)
      by_cases d1 : (own_w (own_x p0)) = (0 : Int32)
      · have o47 : Old Z n0 T41.heap := (o38.keep K41 (allS gg_b35 all0))
        have pre48 := fun t (kt : At p e below T45 m 222 #[vI p0, vI p1, vI p2, vI p3, vI p4, vI 1, vI (own_x p0), vI (own_x p1), vI (own_x p2), vI (own_x p3), vR b28, vR b35, vI 0] [(.ref b35)] t) => pre46 t (by
          show At p e below T45 m 168 #[vI p0, vI p1, vI p2, vI p3, vI p4, vI 1, vI (own_x p0), vI (own_x p1), vI (own_x p2), vI (own_x p3), vR b28, vR b35, vU] [(.int (own_w (own_x p0)))] _
          refine XS.ifNo X45.here hx rfl (hb hby at_168) rfl ((if0 _ _).trans (teq (d1 : (own_w (own_x p0)) = (0 : Int32))).2) ?_
          show At p e below T45 m 171 #[vI p0, vI p1, vI p2, vI p3, vI p4, vI 1, vI (own_x p0), vI (own_x p1), vI (own_x p2), vI (own_x p3), vR b28, vR b35, vU] [] _
          refine XS.iload X45.here hx rfl (hb hby at_171) rfl ?_
          show At p e below T45 m 173 #[vI p0, vI p1, vI p2, vI p3, vI p4, vI 1, vI (own_x p0), vI (own_x p1), vI (own_x p2), vI (own_x p3), vR b28, vR b35, vU] [(.int 1)] _
          refine XS.iconst X45.here hx rfl (hb hby at_173) ?_
          show At p e below T45 m 174 #[vI p0, vI p1, vI p2, vI p3, vI p4, vI 1, vI (own_x p0), vI (own_x p1), vI (own_x p2), vI (own_x p3), vR b28, vR b35, vU] [(.int 1), (.int 1)] _
          refine XS.icmpYes X45.here hx rfl (pc0 := 174) (pc' := 185) rfl (hb hby at_174) rfl (flt (by decide : ¬ ((1 : Int32) < (1 : Int32)))).2.2.2 (by decide) (by decide) ?_
          show At p e below T45 m 185 #[vI p0, vI p1, vI p2, vI p3, vI p4, vI 1, vI (own_x p0), vI (own_x p1), vI (own_x p2), vI (own_x p3), vR b28, vR b35, vU] [] _
          refine XS.iload X45.here hx rfl (hb hby at_185) rfl ?_
          show At p e below T45 m 187 #[vI p0, vI p1, vI p2, vI p3, vI p4, vI 1, vI (own_x p0), vI (own_x p1), vI (own_x p2), vI (own_x p3), vR b28, vR b35, vU] [(.int 1)] _
          refine XS.iconst X45.here hx rfl (hb hby at_187) ?_
          show At p e below T45 m 188 #[vI p0, vI p1, vI p2, vI p3, vI p4, vI 1, vI (own_x p0), vI (own_x p1), vI (own_x p2), vI (own_x p3), vR b28, vR b35, vU] [(.int 2), (.int 1)] _
          refine XS.icmpYes X45.here hx rfl (pc0 := 188) (pc' := 199) rfl (hb hby at_188) rfl (flt (by decide : ¬ ((2 : Int32) < (1 : Int32)))).2.2.2 (by decide) (by decide) ?_
          show At p e below T45 m 199 #[vI p0, vI p1, vI p2, vI p3, vI p4, vI 1, vI (own_x p0), vI (own_x p1), vI (own_x p2), vI (own_x p3), vR b28, vR b35, vU] [] _
          refine XS.iload X45.here hx rfl (hb hby at_199) rfl ?_
          show At p e below T45 m 201 #[vI p0, vI p1, vI p2, vI p3, vI p4, vI 1, vI (own_x p0), vI (own_x p1), vI (own_x p2), vI (own_x p3), vR b28, vR b35, vU] [(.int 1)] _
          refine XS.iconst X45.here hx rfl (hb hby at_201) ?_
          show At p e below T45 m 202 #[vI p0, vI p1, vI p2, vI p3, vI p4, vI 1, vI (own_x p0), vI (own_x p1), vI (own_x p2), vI (own_x p3), vR b28, vR b35, vU] [(.int 3), (.int 1)] _
          refine XS.icmpYes X45.here hx rfl (pc0 := 202) (pc' := 217) rfl (hb hby at_202) rfl (flt (by decide : ¬ ((3 : Int32) < (1 : Int32)))).2.2.2 (by decide) (by decide) ?_
          show At p e below T45 m 217 #[vI p0, vI p1, vI p2, vI p3, vI p4, vI 1, vI (own_x p0), vI (own_x p1), vI (own_x p2), vI (own_x p3), vR b28, vR b35, vU] [] _
          refine XS.iconst X45.here hx rfl (hb hby at_217) ?_
          show At p e below T45 m 218 #[vI p0, vI p1, vI p2, vI p3, vI p4, vI 1, vI (own_x p0), vI (own_x p1), vI (own_x p2), vI (own_x p3), vR b28, vR b35, vU] [(.int 0)] _
          refine XS.istore X45.here hx rfl (hb hby at_218) rfl (l' := #[vI p0, vI p1, vI p2, vI p3, vI p4, vI 1, vI (own_x p0), vI (own_x p1), vI (own_x p2), vI (own_x p3), vR b28, vR b35, vI 0]) rfl ?_
          show At p e below T45 m 220 #[vI p0, vI p1, vI p2, vI p3, vI p4, vI 1, vI (own_x p0), vI (own_x p1), vI (own_x p2), vI (own_x p3), vR b28, vR b35, vI 0] [] _
          refine XS.aload X45.here hx rfl (hb hby at_220) rfl rfl ?_
          exact kt)
        obtain ⟨_, _, ⟨T49, L49, kc49, nc49⟩, -, X49, ⟨Lc49, hQ49, l49, y49, z49⟩, st49⟩ := Jvm.LawKit.callS X45 hx (y := (⟨"beanforge/core/PathPattern", "isPattern", "(Ljava/lang/String;)Z"⟩ : MethodName)) hown (mvT hZ (wd hw 24 rfl)) (mvT hZ (wd hw 25 rfl)) (mvT hZ (wd hw 26 rfl)) (mvT hZ (wd hw 27 rfl)) (by decide) (backOf (W := 0) (rm4 l Z a0 hw [] b35 cs (1 : Int32) (2 : Int32) _ _ _ _ [(nar .char (own_x p0))] T41.heap n0 o47 SC hcs S41 (by decide) (fun _ => by decide) (fun kk ab kb V ch hc => rm10 l Z a0 hw [] ab kb ch _ (1 : Int32) _ T41.heap n0 z43 V (by decide) (rm18_1 l Z a0 hw [] ab kb ch (nar .char (own_x p0)) T41.heap n0 z43 V (own_Rn _) kk.1 hc) hc) (fun _ ab kb V ch hc => rm24 l Z a0 hw [] ab kb ch u _ (2 : Int32) (1 : Int32) _ T41.heap n0 o47 hu SF V (by decide) (by decide) (by decide) (rm30_1 l Z a0 hw [] ab kb ch (nar .char (own_x p0)) T41.heap n0 o47 SA SH SL V (own_Rn _)) hc)) hZ (wd hw 27 rfl) (wd hw 26 rfl) (by decide) (by decide)) (g := (mkF m 222 #[vI p0, vI p1, vI p2, vI p3, vI p4, vI 1, vI (own_x p0), vI (own_x p1), vI (own_x p2), vI (own_x p3), vR b28, vR b35, vI 0] [(.ref b35)])) rfl (by rw [hml]; rfl) (argsL := [(.ref b35)]) (rest := []) (lenOf pd_19 rfl) rfl (by show 2 * 0 + _ ≤ _; exact Nat.le_of_eq rfl) (hb hby at_222) (fun _ _ => ⟨rfl, he45, (by decide : 4 + 0 ≤ _), (by decide : 8 + 0 ≤ _)⟩)
        dsimp only [Pt.U, Pt.locs, Pt.cells, Pt.slots] at X49 l49 y49 z49 st49 hQ49
        subst l49 y49 z49
        obtain ⟨r49, rfl, N49q, he49, hr49⟩ := hQ49
        have N49 := Fr.app N45 N49q
        have pre50 := fun t (kt : At p e below T49 m 225 #[vI p0, vI p1, vI p2, vI p3, vI p4, vI 1, vI (own_x p0), vI (own_x p1), vI (own_x p2), vI (own_x p3), vR b28, vR b35, vI 0] [(.int r49)] t) => pre48 t (st49 _ kt)
        have hv : r49 = (0 : Int32) := own_r0 hr49 (own_w0 (by rw [own_nc]; exact d1) (own_wn))
        have pre51 := fun t (kt : At p e below T49 m 235 #[vI p0, vI p1, vI p2, vI p3, vI p4, vI 1, vI (own_x p0), vI (own_x p1), vI (own_x p2), vI (own_x p3), vR b28, vR b35, vI 0] [(.int 1)] t) => pre50 t (by
          show At p e below T49 m 225 #[vI p0, vI p1, vI p2, vI p3, vI p4, vI 1, vI (own_x p0), vI (own_x p1), vI (own_x p2), vI (own_x p3), vR b28, vR b35, vI 0] [(.int r49)] _
          rw [show r49 = (0 : Int32) from hv]
          show At p e below T49 m 225 #[vI p0, vI p1, vI p2, vI p3, vI p4, vI 1, vI (own_x p0), vI (own_x p1), vI (own_x p2), vI (own_x p3), vR b28, vR b35, vI 0] [(.int 0)] _
          refine XS.iload X49.here hx rfl (hb hby at_225) rfl ?_
          show At p e below T49 m 227 #[vI p0, vI p1, vI p2, vI p3, vI p4, vI 1, vI (own_x p0), vI (own_x p1), vI (own_x p2), vI (own_x p3), vR b28, vR b35, vI 0] [(.int 0), (.int 0)] _
          refine XS.icmpNo X49.here hx rfl (hb hby at_227) rfl (teq (by decide : (0 : Int32) = (0 : Int32))).2 ?_
          show At p e below T49 m 230 #[vI p0, vI p1, vI p2, vI p3, vI p4, vI 1, vI (own_x p0), vI (own_x p1), vI (own_x p2), vI (own_x p3), vR b28, vR b35, vI 0] [] _
          refine XS.iconst X49.here hx rfl (hb hby at_230) ?_
          show At p e below T49 m 231 #[vI p0, vI p1, vI p2, vI p3, vI p4, vI 1, vI (own_x p0), vI (own_x p1), vI (own_x p2), vI (own_x p3), vR b28, vR b35, vI 0] [(.int 1)] _
          refine XS.goto X49.here hx rfl (pc0 := 231) (pc' := 235) rfl (hb hby at_231) (by decide) (by decide) ?_
          exact kt)
        have hk52 := (Nat.le_trans (Nat.le_trans (Nat.le_trans (Nat.le_trans hk E28.1) (Keep.of_wr W32).1) E35.1) K41.1)
        obtain ⟨fs, hr, hrun, hended, -, hW, hI, hsame⟩ := X49.leaveW hS (he49.symm ▸ hk52) (v := (some (.int 1))) (fun h => by rw [Bd.returns] at h; cases h)
        refine ⟨_, _, pre51 _ ?_, hrun, hended, _, _, rfl, ?_, ⟨_, rfl⟩, hW, hI, hsame.mono (by decide) (by decide)⟩
        · show At p e below T49 m 235 #[vI p0, vI p1, vI p2, vI p3, vI p4, vI 1, vI (own_x p0), vI (own_x p1), vI (own_x p2), vI (own_x p3), vR b28, vR b35, vI 0] [(.int 1)] _
          exact retN X49 hx (t := .boolean) Bd.returns (by simp) (hb hby at_235) hr
        · show Q0 Z p0 p1 p2 p3 p4 cs u h0 n0 _ T49.heap _
          rw [he49]
          exact ⟨rfl, N49⟩
      · have o53 : Old Z n0 T41.heap := (o38.keep K41 (allS gg_b35 all0))
        have pre54 := fun t (kt : At p e below T45 m 222 #[vI p0, vI p1, vI p2, vI p3, vI p4, vI 1, vI (own_x p0), vI (own_x p1), vI (own_x p2), vI (own_x p3), vR b28, vR b35, vI 1] [(.ref b35)] t) => pre46 t (by
          show At p e below T45 m 168 #[vI p0, vI p1, vI p2, vI p3, vI p4, vI 1, vI (own_x p0), vI (own_x p1), vI (own_x p2), vI (own_x p3), vR b28, vR b35, vU] [(.int (own_w (own_x p0)))] _
          refine XS.ifYes X45.here hx rfl (pc0 := 168) (pc' := 213) rfl (hb hby at_168) rfl ((if0 _ _).trans (feq (d1 : ¬ ((own_w (own_x p0)) = (0 : Int32)))).2) (by decide) (by decide) ?_
          show At p e below T45 m 213 #[vI p0, vI p1, vI p2, vI p3, vI p4, vI 1, vI (own_x p0), vI (own_x p1), vI (own_x p2), vI (own_x p3), vR b28, vR b35, vU] [] _
          refine XS.iconst X45.here hx rfl (hb hby at_213) ?_
          show At p e below T45 m 214 #[vI p0, vI p1, vI p2, vI p3, vI p4, vI 1, vI (own_x p0), vI (own_x p1), vI (own_x p2), vI (own_x p3), vR b28, vR b35, vU] [(.int 1)] _
          refine XS.goto X45.here hx rfl (pc0 := 214) (pc' := 218) rfl (hb hby at_214) (by decide) (by decide) ?_
          show At p e below T45 m 218 #[vI p0, vI p1, vI p2, vI p3, vI p4, vI 1, vI (own_x p0), vI (own_x p1), vI (own_x p2), vI (own_x p3), vR b28, vR b35, vU] [(.int 1)] _
          refine XS.istore X45.here hx rfl (hb hby at_218) rfl (l' := #[vI p0, vI p1, vI p2, vI p3, vI p4, vI 1, vI (own_x p0), vI (own_x p1), vI (own_x p2), vI (own_x p3), vR b28, vR b35, vI 1]) rfl ?_
          show At p e below T45 m 220 #[vI p0, vI p1, vI p2, vI p3, vI p4, vI 1, vI (own_x p0), vI (own_x p1), vI (own_x p2), vI (own_x p3), vR b28, vR b35, vI 1] [] _
          refine XS.aload X45.here hx rfl (hb hby at_220) rfl rfl ?_
          exact kt)
        obtain ⟨_, _, ⟨T55, L55, kc55, nc55⟩, -, X55, ⟨Lc55, hQ55, l55, y55, z55⟩, st55⟩ := Jvm.LawKit.callS X45 hx (y := (⟨"beanforge/core/PathPattern", "isPattern", "(Ljava/lang/String;)Z"⟩ : MethodName)) hown (mvT hZ (wd hw 24 rfl)) (mvT hZ (wd hw 25 rfl)) (mvT hZ (wd hw 26 rfl)) (mvT hZ (wd hw 27 rfl)) (by decide) (backOf (W := 0) (rm4 l Z a0 hw [] b35 cs (1 : Int32) (2 : Int32) _ _ _ _ [(nar .char (own_x p0))] T41.heap n0 o53 SC hcs S41 (by decide) (fun _ => by decide) (fun kk ab kb V ch hc => rm10 l Z a0 hw [] ab kb ch _ (1 : Int32) _ T41.heap n0 z43 V (by decide) (rm18_1 l Z a0 hw [] ab kb ch (nar .char (own_x p0)) T41.heap n0 z43 V (own_Rn _) kk.1 hc) hc) (fun _ ab kb V ch hc => rm24 l Z a0 hw [] ab kb ch u _ (2 : Int32) (1 : Int32) _ T41.heap n0 o53 hu SF V (by decide) (by decide) (by decide) (rm30_1 l Z a0 hw [] ab kb ch (nar .char (own_x p0)) T41.heap n0 o53 SA SH SL V (own_Rn _)) hc)) hZ (wd hw 27 rfl) (wd hw 26 rfl) (by decide) (by decide)) (g := (mkF m 222 #[vI p0, vI p1, vI p2, vI p3, vI p4, vI 1, vI (own_x p0), vI (own_x p1), vI (own_x p2), vI (own_x p3), vR b28, vR b35, vI 1] [(.ref b35)])) rfl (by rw [hml]; rfl) (argsL := [(.ref b35)]) (rest := []) (lenOf pd_19 rfl) rfl (by show 2 * 0 + _ ≤ _; exact Nat.le_of_eq rfl) (hb hby at_222) (fun _ _ => ⟨rfl, he45, (by decide : 4 + 0 ≤ _), (by decide : 8 + 0 ≤ _)⟩)
        dsimp only [Pt.U, Pt.locs, Pt.cells, Pt.slots] at X55 l55 y55 z55 st55 hQ55
        subst l55 y55 z55
        obtain ⟨r55, rfl, N55q, he55, hr55⟩ := hQ55
        have N55 := Fr.app N45 N55q
        have pre56 := fun t (kt : At p e below T55 m 225 #[vI p0, vI p1, vI p2, vI p3, vI p4, vI 1, vI (own_x p0), vI (own_x p1), vI (own_x p2), vI (own_x p3), vR b28, vR b35, vI 1] [(.int r55)] t) => pre54 t (st55 _ kt)
        have hv : r55 = (1 : Int32) := own_r1 hr55 (own_w1 (by rw [own_nc]; exact d1))
        have pre57 := fun t (kt : At p e below T55 m 235 #[vI p0, vI p1, vI p2, vI p3, vI p4, vI 1, vI (own_x p0), vI (own_x p1), vI (own_x p2), vI (own_x p3), vR b28, vR b35, vI 1] [(.int 1)] t) => pre56 t (by
          show At p e below T55 m 225 #[vI p0, vI p1, vI p2, vI p3, vI p4, vI 1, vI (own_x p0), vI (own_x p1), vI (own_x p2), vI (own_x p3), vR b28, vR b35, vI 1] [(.int r55)] _
          rw [show r55 = (1 : Int32) from hv]
          show At p e below T55 m 225 #[vI p0, vI p1, vI p2, vI p3, vI p4, vI 1, vI (own_x p0), vI (own_x p1), vI (own_x p2), vI (own_x p3), vR b28, vR b35, vI 1] [(.int 1)] _
          refine XS.iload X55.here hx rfl (hb hby at_225) rfl ?_
          show At p e below T55 m 227 #[vI p0, vI p1, vI p2, vI p3, vI p4, vI 1, vI (own_x p0), vI (own_x p1), vI (own_x p2), vI (own_x p3), vR b28, vR b35, vI 1] [(.int 1), (.int 1)] _
          refine XS.icmpNo X55.here hx rfl (hb hby at_227) rfl (teq (by decide : (1 : Int32) = (1 : Int32))).2 ?_
          show At p e below T55 m 230 #[vI p0, vI p1, vI p2, vI p3, vI p4, vI 1, vI (own_x p0), vI (own_x p1), vI (own_x p2), vI (own_x p3), vR b28, vR b35, vI 1] [] _
          refine XS.iconst X55.here hx rfl (hb hby at_230) ?_
          show At p e below T55 m 231 #[vI p0, vI p1, vI p2, vI p3, vI p4, vI 1, vI (own_x p0), vI (own_x p1), vI (own_x p2), vI (own_x p3), vR b28, vR b35, vI 1] [(.int 1)] _
          refine XS.goto X55.here hx rfl (pc0 := 231) (pc' := 235) rfl (hb hby at_231) (by decide) (by decide) ?_
          exact kt)
        have hk58 := (Nat.le_trans (Nat.le_trans (Nat.le_trans (Nat.le_trans hk E28.1) (Keep.of_wr W32).1) E35.1) K41.1)
        obtain ⟨fs, hr, hrun, hended, -, hW, hI, hsame⟩ := X55.leaveW hS (he55.symm ▸ hk58) (v := (some (.int 1))) (fun h => by rw [Bd.returns] at h; cases h)
        refine ⟨_, _, pre57 _ ?_, hrun, hended, _, _, rfl, ?_, ⟨_, rfl⟩, hW, hI, hsame.mono (by decide) (by decide)⟩
        · show At p e below T55 m 235 #[vI p0, vI p1, vI p2, vI p3, vI p4, vI 1, vI (own_x p0), vI (own_x p1), vI (own_x p2), vI (own_x p3), vR b28, vR b35, vI 1] [(.int 1)] _
          exact retN X55 hx (t := .boolean) Bd.returns (by simp) (hb hby at_235) hr
        · show Q0 Z p0 p1 p2 p3 p4 cs u h0 n0 _ T55.heap _
          rw [he55]
          exact ⟨rfl, N55⟩
    · have pre59 := fun t (kt : At p e below s₁ m 72 #[vI p0, vI p1, vI p2, vI p3, vI p4, vI (own_nn p4), vI (own_x p0), vI (own_x p1), vI (own_x p2), vI (own_x p3), vU, vU, vU] [(.int 2), (.int (own_nn p4))] t) => pre26 t (by
        show At p e below s₁ m 53 #[vI p0, vI p1, vI p2, vI p3, vI p4, vI (own_nn p4), vI (own_x p0), vI (own_x p1), vI (own_x p2), vI (own_x p3), vU, vU, vU] [(.int 1), (.int (own_nn p4))] _
        refine XS.icmpYes X0.here hx rfl (pc0 := 53) (pc' := 69) rfl (hb hby at_53) rfl (feq (nn1 : ¬ ((own_nn p4) = (1 : Int32)))).2 (by decide) (by decide) ?_
        show At p e below s₁ m 69 #[vI p0, vI p1, vI p2, vI p3, vI p4, vI (own_nn p4), vI (own_x p0), vI (own_x p1), vI (own_x p2), vI (own_x p3), vU, vU, vU] [] _
        refine XS.iload X0.here hx rfl (hb hby at_69) rfl ?_
        show At p e below s₁ m 71 #[vI p0, vI p1, vI p2, vI p3, vI p4, vI (own_nn p4), vI (own_x p0), vI (own_x p1), vI (own_x p2), vI (own_x p3), vU, vU, vU] [(.int (own_nn p4))] _
        refine XS.iconst X0.here hx rfl (hb hby at_71) ?_
        exact kt)
      by_cases nn2 : (own_nn p4) = (2 : Int32)
      · have pre60 := fun t (kt : At p e below s₁ m 76 #[vI p0, vI p1, vI p2, vI p3, vI p4, vI 2, vI (own_x p0), vI (own_x p1), vI (own_x p2), vI (own_x p3), vU, vU, vU] [(.int 2)] t) => pre59 t (by
          show At p e below s₁ m 72 #[vI p0, vI p1, vI p2, vI p3, vI p4, vI (own_nn p4), vI (own_x p0), vI (own_x p1), vI (own_x p2), vI (own_x p3), vU, vU, vU] [(.int 2), (.int (own_nn p4))] _
          refine XS.icmpNo X0.here hx rfl (hb hby at_72) rfl (teq (nn2 : (own_nn p4) = (2 : Int32))).2 ?_
          show At p e below s₁ m 75 #[vI p0, vI p1, vI p2, vI p3, vI p4, vI (own_nn p4), vI (own_x p0), vI (own_x p1), vI (own_x p2), vI (own_x p3), vU, vU, vU] [] _
          rw [show (own_nn p4) = (2 : Int32) from nn2]
          show At p e below s₁ m 75 #[vI p0, vI p1, vI p2, vI p3, vI p4, vI 2, vI (own_x p0), vI (own_x p1), vI (own_x p2), vI (own_x p3), vU, vU, vU] [] _
          refine XS.iconst X0.here hx rfl (hb hby at_75) ?_
          exact kt)
        obtain ⟨T61, h61, k61, X61, e61, E61, A61, st61⟩ := newP X0 hx hZ (wd hw 2 rfl) e0 (g := (mkF m 76 #[vI p0, vI p1, vI p2, vI p3, vI p4, vI 2, vI (own_x p0), vI (own_x p1), vI (own_x p2), vI (own_x p3), vU, vU, vU] [(.int 2)])) rfl (hb hby at_76) rfl (by decide) (cap := 2) (by decide) (by decide) (by decide) (by decide)
        obtain ⟨b61, gq61⟩ : ∃ z, z = h0.size := ⟨_, rfl⟩
        rw [← gq61] at A61 st61
        have gg_b61 : n0 ≤ b61 := Nat.le_trans Z0 (Nat.le_of_eq gq61.symm)
        have V61 : Arv Z h61 b61 k61 .char (2 : Int32) [(.int 0), (.int 0)] (.int 0) := (Arv.new A61 (by decide)).pad (pad_rep [] (.int 0) 2)
        have pre62 := fun t (kt : At p e below T61 m 78 #[vI p0, vI p1, vI p2, vI p3, vI p4, vI 2, vI (own_x p0), vI (own_x p1), vI (own_x p2), vI (own_x p3), vU, vU, vU] [(.ref b61)] t) => pre60 t (st61 _ kt)
        obtain ⟨cl63, Ar63, qk63, Sz63, Nn63, Hh63, Gg63⟩ := id V61
        have hin63 : ¬ ((0 : Int32) < 0 ∨ cl63.slots.size ≤ ((0 : Int32)).toNatClampNeg) := inb_of Sz63 ⟨by decide, by decide⟩
        have pre64 := fun t (kt : At p e below T61 m 82 #[vI p0, vI p1, vI p2, vI p3, vI p4, vI 2, vI (own_x p0), vI (own_x p1), vI (own_x p2), vI (own_x p3), vU, vU, vU] [(.int (own_x p0)), (.int 0), (.ref b61), (.ref b61)] t) => pre62 t (by
          show At p e below T61 m 78 #[vI p0, vI p1, vI p2, vI p3, vI p4, vI 2, vI (own_x p0), vI (own_x p1), vI (own_x p2), vI (own_x p3), vU, vU, vU] [(.ref b61)] _
          refine XS.dup X61.here hx rfl (hb hby at_78) rfl rfl ?_
          show At p e below T61 m 79 #[vI p0, vI p1, vI p2, vI p3, vI p4, vI 2, vI (own_x p0), vI (own_x p1), vI (own_x p2), vI (own_x p3), vU, vU, vU] [(.ref b61), (.ref b61)] _
          refine XS.iconst X61.here hx rfl (hb hby at_79) ?_
          show At p e below T61 m 80 #[vI p0, vI p1, vI p2, vI p3, vI p4, vI 2, vI (own_x p0), vI (own_x p1), vI (own_x p2), vI (own_x p3), vU, vU, vU] [(.int 0), (.ref b61), (.ref b61)] _
          refine XS.iload X61.here hx rfl (hb hby at_80) rfl ?_
          exact kt)
        obtain ⟨T65, h65, X65, e65, W65, st65⟩ := stC X61 hx hZ e61 Ar63 (j := (0 : Int32)) hin63 (g := (mkF m 82 #[vI p0, vI p1, vI p2, vI p3, vI p4, vI 2, vI (own_x p0), vI (own_x p1), vI (own_x p2), vI (own_x p3), vU, vU, vU] [(.int (own_x p0)), (.int 0), (.ref b61), (.ref b61)])) rfl rfl (hb hby at_82)
        have V65 := Arv.set Ar63 qk63 Sz63 Nn63 Hh63 Gg63 (fits_nar_char _) W65 0 rfl (Nat.le_of_ble_eq_true rfl)
        have V65' : Arv Z h65 b61 k61 .char (2 : Int32) [(.int (nar .char (own_x p0))), (.int 0)] (.int 0) := V65
        have N65 := Fr.snoc X65 N0 gg_b61
        have pre66 := fun t (kt : At p e below T65 m 83 #[vI p0, vI p1, vI p2, vI p3, vI p4, vI 2, vI (own_x p0), vI (own_x p1), vI (own_x p2), vI (own_x p3), vU, vU, vU] [(.ref b61)] t) => pre64 t (st65 _ kt)
        obtain ⟨cl67, Ar67, qk67, Sz67, Nn67, Hh67, Gg67⟩ := id V65'
        have hin67 : ¬ ((1 : Int32) < 0 ∨ cl67.slots.size ≤ ((1 : Int32)).toNatClampNeg) := inb_of Sz67 ⟨by decide, by decide⟩
        have pre68 := fun t (kt : At p e below T65 m 87 #[vI p0, vI p1, vI p2, vI p3, vI p4, vI 2, vI (own_x p0), vI (own_x p1), vI (own_x p2), vI (own_x p3), vU, vU, vU] [(.int (own_x p1)), (.int 1), (.ref b61), (.ref b61)] t) => pre66 t (by
          show At p e below T65 m 83 #[vI p0, vI p1, vI p2, vI p3, vI p4, vI 2, vI (own_x p0), vI (own_x p1), vI (own_x p2), vI (own_x p3), vU, vU, vU] [(.ref b61)] _
          refine XS.dup X65.here hx rfl (hb hby at_83) rfl rfl ?_
          show At p e below T65 m 84 #[vI p0, vI p1, vI p2, vI p3, vI p4, vI 2, vI (own_x p0), vI (own_x p1), vI (own_x p2), vI (own_x p3), vU, vU, vU] [(.ref b61), (.ref b61)] _
          refine XS.iconst X65.here hx rfl (hb hby at_84) ?_
          show At p e below T65 m 85 #[vI p0, vI p1, vI p2, vI p3, vI p4, vI 2, vI (own_x p0), vI (own_x p1), vI (own_x p2), vI (own_x p3), vU, vU, vU] [(.int 1), (.ref b61), (.ref b61)] _
          refine XS.iload X65.here hx rfl (hb hby at_85) rfl ?_
          exact kt)
        obtain ⟨T69, h69, X69, e69, W69, st69⟩ := stC X65 hx hZ e65 Ar67 (j := (1 : Int32)) hin67 (g := (mkF m 87 #[vI p0, vI p1, vI p2, vI p3, vI p4, vI 2, vI (own_x p0), vI (own_x p1), vI (own_x p2), vI (own_x p3), vU, vU, vU] [(.int (own_x p1)), (.int 1), (.ref b61), (.ref b61)])) rfl rfl (hb hby at_87)
        have V69 := Arv.set Ar67 qk67 Sz67 Nn67 Hh67 Gg67 (fits_nar_char _) W69 1 rfl (Nat.le_of_ble_eq_true rfl)
        have V69' : Arv Z h69 b61 k61 .char (2 : Int32) [(.int (nar .char (own_x p0))), (.int (nar .char (own_x p1)))] (.int 0) := V69
        have N69 := Fr.snoc X69 N65 gg_b61
        have pre70 := fun t (kt : At p e below T69 m 88 #[vI p0, vI p1, vI p2, vI p3, vI p4, vI 2, vI (own_x p0), vI (own_x p1), vI (own_x p2), vI (own_x p3), vU, vU, vU] [(.ref b61)] t) => pre68 t (st69 _ kt)
        have pre71 := fun t (kt : At p e below T69 m 147 #[vI p0, vI p1, vI p2, vI p3, vI p4, vI 2, vI (own_x p0), vI (own_x p1), vI (own_x p2), vI (own_x p3), vR b61, vU, vU] [] t) => pre70 t (by
          show At p e below T69 m 88 #[vI p0, vI p1, vI p2, vI p3, vI p4, vI 2, vI (own_x p0), vI (own_x p1), vI (own_x p2), vI (own_x p3), vU, vU, vU] [(.ref b61)] _
          refine XS.astore X69.here hx rfl (hb hby at_88) rfl rfl (l' := #[vI p0, vI p1, vI p2, vI p3, vI p4, vI 2, vI (own_x p0), vI (own_x p1), vI (own_x p2), vI (own_x p3), vR b61, vU, vU]) rfl ?_
          show At p e below T69 m 90 #[vI p0, vI p1, vI p2, vI p3, vI p4, vI 2, vI (own_x p0), vI (own_x p1), vI (own_x p2), vI (own_x p3), vR b61, vU, vU] [] _
          refine XS.goto X69.here hx rfl (pc0 := 90) (pc' := 147) rfl (hb hby at_90) (by decide) (by decide) ?_
          exact kt)
        obtain ⟨T72, h72, X72, e72, E72, A72, D72, -, st72⟩ := newO X69 hx hZ hown (wd hw 3 rfl) (wd hw 4 rfl) (wd hw 5 rfl) e69 (g := (mkF m 147 #[vI p0, vI p1, vI p2, vI p3, vI p4, vI 2, vI (own_x p0), vI (own_x p1), vI (own_x p2), vI (own_x p3), vR b61, vU, vU] [])) rfl (hb hby at_147) (by decide) (by decide)
        obtain ⟨b72, gq72⟩ : ∃ z, z = h69.size := ⟨_, rfl⟩
        rw [← gq72] at A72 D72 st72
        have z73 : n0 ≤ h69.size := (Nat.le_trans (Nat.le_trans (Nat.le_trans Z0 E61.1) (Keep.of_wr W65).1) (Keep.of_wr W69).1)
        have gg_b72 : n0 ≤ b72 := Nat.le_trans z73 (Nat.le_of_eq gq72.symm)
        have F72_value : Fld Z h72 b72 "java/lang/String" "value" "[B" .null := D72 (Or.inr (wd hw 18 rfl)) (ty := (.array .byte)) (by decide)
        have F72_coder : Fld Z h72 b72 "java/lang/String" "coder" "B" (.int 0) := D72 (Or.inr (wd hw 19 rfl)) (ty := .byte) (by decide)
        have pre74 := fun t (kt : At p e below T72 m 150 #[vI p0, vI p1, vI p2, vI p3, vI p4, vI 2, vI (own_x p0), vI (own_x p1), vI (own_x p2), vI (own_x p3), vR b61, vU, vU] [(.ref b72)] t) => pre71 t (st72 _ kt)
        have o75 : Old Z n0 h72 := ((((O0.ext E61).wr W65 gg_b61).wr W69 gg_b61).ext E72)
        have f76 := (V69'.ext E72)
        have pre77 := fun t (kt : At p e below T72 m 153 #[vI p0, vI p1, vI p2, vI p3, vI p4, vI 2, vI (own_x p0), vI (own_x p1), vI (own_x p2), vI (own_x p3), vR b61, vU, vU] [(.ref b61), (.ref b72), (.ref b72)] t) => pre74 t (by
          show At p e below T72 m 150 #[vI p0, vI p1, vI p2, vI p3, vI p4, vI 2, vI (own_x p0), vI (own_x p1), vI (own_x p2), vI (own_x p3), vR b61, vU, vU] [(.ref b72)] _
          refine XS.dup X72.here hx rfl (hb hby at_150) rfl rfl ?_
          show At p e below T72 m 151 #[vI p0, vI p1, vI p2, vI p3, vI p4, vI 2, vI (own_x p0), vI (own_x p1), vI (own_x p2), vI (own_x p3), vR b61, vU, vU] [(.ref b72), (.ref b72)] _
          refine XS.aload X72.here hx rfl (hb hby at_151) rfl rfl ?_
          exact kt)
        obtain ⟨_, _, ⟨T78, L78, kc78, nc78⟩, -, X78, ⟨Lc78, hQ78, l78, y78, z78⟩, st78⟩ := X72.specialBack hx (y := (⟨"java/lang/String", "<init>", "([C)V"⟩ : MethodName)) rfl hown (mvT hZ (wd hw 6 rfl)) (mvT hZ (wd hw 7 rfl)) (mvT hZ (wd hw 8 rfl)) (by decide) (backOf (W := 1) (rm1_2 l Z a0 hw [] b72 b61 k61 cs (nar .char (own_x p0)) (nar .char (own_x p1)) h72 n0 o75 A72 F72_value F72_coder gg_b72 SC hcs SA SH SL f76 (own_Rn _) (own_Rn _)) hZ (wd hw 8 rfl) (wd hw 5 rfl) (by decide) (by decide)) (g := (mkF m 153 #[vI p0, vI p1, vI p2, vI p3, vI p4, vI 2, vI (own_x p0), vI (own_x p1), vI (own_x p2), vI (own_x p3), vR b61, vU, vU] [(.ref b61), (.ref b72), (.ref b72)])) rfl (by rw [hml]; rfl) (Steps.refl _) (a := b72) (argsL := [(.ref b61)]) (rest := [(.ref b72)]) (lenOf pd_18 rfl) rfl (by show 2 * 0 + _ ≤ _; exact Nat.le_of_eq rfl) (hb hby at_153) (fun _ _ => ⟨rfl, e72, (by decide : 2 + 2 ≤ _), (by decide : 6 + 6 ≤ _)⟩)
        dsimp only [Pt.U, Pt.locs, Pt.cells, Pt.slots] at X78 l78 y78 z78 st78 hQ78
        subst l78 y78 z78
        obtain ⟨rfl, N78q, K78, S78⟩ := hQ78
        have N78 := Fr.app N69 N78q
        have pre79 := fun t (kt : At p e below T78 m 156 #[vI p0, vI p1, vI p2, vI p3, vI p4, vI 2, vI (own_x p0), vI (own_x p1), vI (own_x p2), vI (own_x p3), vR b61, vU, vU] [(.ref b72)] t) => pre77 t (st78.trans kt)
        have z80 : n0 ≤ T78.heap.size := (Nat.le_trans (Nat.le_trans z73 E72.1) K78.1)
        have pre81 := fun t (kt : At p e below T78 m 165 #[vI p0, vI p1, vI p2, vI p3, vI p4, vI 2, vI (own_x p0), vI (own_x p1), vI (own_x p2), vI (own_x p3), vR b61, vR b72, vU] [(.int (own_x p0))] t) => pre79 t (by
          show At p e below T78 m 156 #[vI p0, vI p1, vI p2, vI p3, vI p4, vI 2, vI (own_x p0), vI (own_x p1), vI (own_x p2), vI (own_x p3), vR b61, vU, vU] [(.ref b72)] _
          refine XS.astore X78.here hx rfl (hb hby at_156) rfl rfl (l' := #[vI p0, vI p1, vI p2, vI p3, vI p4, vI 2, vI (own_x p0), vI (own_x p1), vI (own_x p2), vI (own_x p3), vR b61, vR b72, vU]) rfl ?_
          show At p e below T78 m 158 #[vI p0, vI p1, vI p2, vI p3, vI p4, vI 2, vI (own_x p0), vI (own_x p1), vI (own_x p2), vI (own_x p3), vR b61, vR b72, vU] [] _
          refine XS.iload X78.here hx rfl (hb hby at_158) rfl ?_
          show At p e below T78 m 160 #[vI p0, vI p1, vI p2, vI p3, vI p4, vI 2, vI (own_x p0), vI (own_x p1), vI (own_x p2), vI (own_x p3), vR b61, vR b72, vU] [(.int 2)] _
          refine XS.ifNo X78.here hx rfl (hb hby at_160) rfl ((if0 _ _).trans (tlt (by decide : (0 : Int32) < (2 : Int32))).2.2.2) ?_
          show At p e below T78 m 163 #[vI p0, vI p1, vI p2, vI p3, vI p4, vI 2, vI (own_x p0), vI (own_x p1), vI (own_x p2), vI (own_x p3), vR b61, vR b72, vU] [] _
          refine XS.iload X78.here hx rfl (hb hby at_163) rfl ?_
          exact kt)
        obtain ⟨_, _, ⟨T82, L82, kc82, nc82⟩, -, X82, ⟨Lc82, hQ82, l82, y82, z82⟩, st82⟩ := Jvm.LawKit.callS X78 hx (y := (⟨"beanforge/core/PathPatternIsPatternPinLaw", "wild", "(C)Z"⟩ : MethodName)) hown (mvT hZ (wd hw 78 rfl)) (mvT hZ (wd hw 79 rfl)) (mvT hZ (wd hw 80 rfl)) (mvT hZ (wd hw 81 rfl)) (by decide) (backOf (W := 0) (rm17 l Z a0 hw [] (own_x p0) T78.heap n0 z80) hZ (wd hw 81 rfl) (wd hw 80 rfl) (by decide) (by decide)) (g := (mkF m 165 #[vI p0, vI p1, vI p2, vI p3, vI p4, vI 2, vI (own_x p0), vI (own_x p1), vI (own_x p2), vI (own_x p3), vR b61, vR b72, vU] [(.int (own_x p0))])) rfl (by rw [hml]; rfl) (argsL := [(.int (own_x p0))]) (rest := []) (lenOf pd_20 rfl) rfl (by show 2 * 0 + _ ≤ _; exact Nat.le_of_eq rfl) (hb hby at_165) (fun _ _ => ⟨rfl, rfl, (by decide : 4 + 0 ≤ _), (by decide : 12 + 0 ≤ _)⟩)
        dsimp only [Pt.U, Pt.locs, Pt.cells, Pt.slots] at X82 l82 y82 z82 st82 hQ82
        subst l82 y82 z82
        obtain ⟨rfl, N82q, he82⟩ := hQ82
        have N82 := Fr.app N78 N82q
        have pre83 := fun t (kt : At p e below T82 m 168 #[vI p0, vI p1, vI p2, vI p3, vI p4, vI 2, vI (own_x p0), vI (own_x p1), vI (own_x p2), vI (own_x p3), vR b61, vR b72, vU] [(.int (own_w (own_x p0)))] t) => pre81 t (st82 _ kt)
        by_cases d1 : (own_w (own_x p0)) = (0 : Int32)
        · have pre84 := fun t (kt : At p e below T82 m 179 #[vI p0, vI p1, vI p2, vI p3, vI p4, vI 2, vI (own_x p0), vI (own_x p1), vI (own_x p2), vI (own_x p3), vR b61, vR b72, vU] [(.int (own_x p1))] t) => pre83 t (by
            show At p e below T82 m 168 #[vI p0, vI p1, vI p2, vI p3, vI p4, vI 2, vI (own_x p0), vI (own_x p1), vI (own_x p2), vI (own_x p3), vR b61, vR b72, vU] [(.int (own_w (own_x p0)))] _
            refine XS.ifNo X82.here hx rfl (hb hby at_168) rfl ((if0 _ _).trans (teq (d1 : (own_w (own_x p0)) = (0 : Int32))).2) ?_
            show At p e below T82 m 171 #[vI p0, vI p1, vI p2, vI p3, vI p4, vI 2, vI (own_x p0), vI (own_x p1), vI (own_x p2), vI (own_x p3), vR b61, vR b72, vU] [] _
            refine XS.iload X82.here hx rfl (hb hby at_171) rfl ?_
            show At p e below T82 m 173 #[vI p0, vI p1, vI p2, vI p3, vI p4, vI 2, vI (own_x p0), vI (own_x p1), vI (own_x p2), vI (own_x p3), vR b61, vR b72, vU] [(.int 2)] _
            refine XS.iconst X82.here hx rfl (hb hby at_173) ?_
            show At p e below T82 m 174 #[vI p0, vI p1, vI p2, vI p3, vI p4, vI 2, vI (own_x p0), vI (own_x p1), vI (own_x p2), vI (own_x p3), vR b61, vR b72, vU] [(.int 1), (.int 2)] _
            refine XS.icmpNo X82.here hx rfl (hb hby at_174) rfl (tlt (by decide : (1 : Int32) < (2 : Int32))).2.2.2 ?_
            show At p e below T82 m 177 #[vI p0, vI p1, vI p2, vI p3, vI p4, vI 2, vI (own_x p0), vI (own_x p1), vI (own_x p2), vI (own_x p3), vR b61, vR b72, vU] [] _
            refine XS.iload X82.here hx rfl (hb hby at_177) rfl ?_
            exact kt)
          obtain ⟨_, _, ⟨T85, L85, kc85, nc85⟩, -, X85, ⟨Lc85, hQ85, l85, y85, z85⟩, st85⟩ := Jvm.LawKit.callS X82 hx (y := (⟨"beanforge/core/PathPatternIsPatternPinLaw", "wild", "(C)Z"⟩ : MethodName)) hown (mvT hZ (wd hw 78 rfl)) (mvT hZ (wd hw 79 rfl)) (mvT hZ (wd hw 80 rfl)) (mvT hZ (wd hw 81 rfl)) (by decide) (backOf (W := 0) (rm17 l Z a0 hw [] (own_x p1) T78.heap n0 z80) hZ (wd hw 81 rfl) (wd hw 80 rfl) (by decide) (by decide)) (g := (mkF m 179 #[vI p0, vI p1, vI p2, vI p3, vI p4, vI 2, vI (own_x p0), vI (own_x p1), vI (own_x p2), vI (own_x p3), vR b61, vR b72, vU] [(.int (own_x p1))])) rfl (by rw [hml]; rfl) (argsL := [(.int (own_x p1))]) (rest := []) (lenOf pd_20 rfl) rfl (by show 2 * 0 + _ ≤ _; exact Nat.le_of_eq rfl) (hb hby at_179) (fun _ _ => ⟨rfl, he82, (by decide : 4 + 0 ≤ _), (by decide : 12 + 0 ≤ _)⟩)
          dsimp only [Pt.U, Pt.locs, Pt.cells, Pt.slots] at X85 l85 y85 z85 st85 hQ85
          subst l85 y85 z85
          obtain ⟨rfl, N85q, he85⟩ := hQ85
          have N85 := Fr.app N82 N85q
          have pre86 := fun t (kt : At p e below T85 m 182 #[vI p0, vI p1, vI p2, vI p3, vI p4, vI 2, vI (own_x p0), vI (own_x p1), vI (own_x p2), vI (own_x p3), vR b61, vR b72, vU] [(.int (own_w (own_x p1)))] t) => pre84 t (st85 _ kt)
          by_cases d2 : (own_w (own_x p1)) = (0 : Int32)
          · have o87 : Old Z n0 T78.heap := (o75.keep K78 (allS gg_b72 all0))
            have pre88 := fun t (kt : At p e below T85 m 222 #[vI p0, vI p1, vI p2, vI p3, vI p4, vI 2, vI (own_x p0), vI (own_x p1), vI (own_x p2), vI (own_x p3), vR b61, vR b72, vI 0] [(.ref b72)] t) => pre86 t (by
              show At p e below T85 m 182 #[vI p0, vI p1, vI p2, vI p3, vI p4, vI 2, vI (own_x p0), vI (own_x p1), vI (own_x p2), vI (own_x p3), vR b61, vR b72, vU] [(.int (own_w (own_x p1)))] _
              refine XS.ifNo X85.here hx rfl (hb hby at_182) rfl ((if0 _ _).trans (teq (d2 : (own_w (own_x p1)) = (0 : Int32))).2) ?_
              show At p e below T85 m 185 #[vI p0, vI p1, vI p2, vI p3, vI p4, vI 2, vI (own_x p0), vI (own_x p1), vI (own_x p2), vI (own_x p3), vR b61, vR b72, vU] [] _
              refine XS.iload X85.here hx rfl (hb hby at_185) rfl ?_
              show At p e below T85 m 187 #[vI p0, vI p1, vI p2, vI p3, vI p4, vI 2, vI (own_x p0), vI (own_x p1), vI (own_x p2), vI (own_x p3), vR b61, vR b72, vU] [(.int 2)] _
              refine XS.iconst X85.here hx rfl (hb hby at_187) ?_
              show At p e below T85 m 188 #[vI p0, vI p1, vI p2, vI p3, vI p4, vI 2, vI (own_x p0), vI (own_x p1), vI (own_x p2), vI (own_x p3), vR b61, vR b72, vU] [(.int 2), (.int 2)] _
              refine XS.icmpYes X85.here hx rfl (pc0 := 188) (pc' := 199) rfl (hb hby at_188) rfl (flt (by decide : ¬ ((2 : Int32) < (2 : Int32)))).2.2.2 (by decide) (by decide) ?_
              show At p e below T85 m 199 #[vI p0, vI p1, vI p2, vI p3, vI p4, vI 2, vI (own_x p0), vI (own_x p1), vI (own_x p2), vI (own_x p3), vR b61, vR b72, vU] [] _
              refine XS.iload X85.here hx rfl (hb hby at_199) rfl ?_
              show At p e below T85 m 201 #[vI p0, vI p1, vI p2, vI p3, vI p4, vI 2, vI (own_x p0), vI (own_x p1), vI (own_x p2), vI (own_x p3), vR b61, vR b72, vU] [(.int 2)] _
              refine XS.iconst X85.here hx rfl (hb hby at_201) ?_
              show At p e below T85 m 202 #[vI p0, vI p1, vI p2, vI p3, vI p4, vI 2, vI (own_x p0), vI (own_x p1), vI (own_x p2), vI (own_x p3), vR b61, vR b72, vU] [(.int 3), (.int 2)] _
              refine XS.icmpYes X85.here hx rfl (pc0 := 202) (pc' := 217) rfl (hb hby at_202) rfl (flt (by decide : ¬ ((3 : Int32) < (2 : Int32)))).2.2.2 (by decide) (by decide) ?_
              show At p e below T85 m 217 #[vI p0, vI p1, vI p2, vI p3, vI p4, vI 2, vI (own_x p0), vI (own_x p1), vI (own_x p2), vI (own_x p3), vR b61, vR b72, vU] [] _
              refine XS.iconst X85.here hx rfl (hb hby at_217) ?_
              show At p e below T85 m 218 #[vI p0, vI p1, vI p2, vI p3, vI p4, vI 2, vI (own_x p0), vI (own_x p1), vI (own_x p2), vI (own_x p3), vR b61, vR b72, vU] [(.int 0)] _
              refine XS.istore X85.here hx rfl (hb hby at_218) rfl (l' := #[vI p0, vI p1, vI p2, vI p3, vI p4, vI 2, vI (own_x p0), vI (own_x p1), vI (own_x p2), vI (own_x p3), vR b61, vR b72, vI 0]) rfl ?_
              show At p e below T85 m 220 #[vI p0, vI p1, vI p2, vI p3, vI p4, vI 2, vI (own_x p0), vI (own_x p1), vI (own_x p2), vI (own_x p3), vR b61, vR b72, vI 0] [] _
              refine XS.aload X85.here hx rfl (hb hby at_220) rfl rfl ?_
              exact kt)
            obtain ⟨_, _, ⟨T89, L89, kc89, nc89⟩, -, X89, ⟨Lc89, hQ89, l89, y89, z89⟩, st89⟩ := Jvm.LawKit.callS X85 hx (y := (⟨"beanforge/core/PathPattern", "isPattern", "(Ljava/lang/String;)Z"⟩ : MethodName)) hown (mvT hZ (wd hw 24 rfl)) (mvT hZ (wd hw 25 rfl)) (mvT hZ (wd hw 26 rfl)) (mvT hZ (wd hw 27 rfl)) (by decide) (backOf (W := 0) (rm4 l Z a0 hw [] b72 cs (2 : Int32) (4 : Int32) _ _ _ _ [(nar .char (own_x p0)), (nar .char (own_x p1))] T78.heap n0 o87 SC hcs S78 (by decide) (fun _ => by decide) (fun kk ab kb V ch hc => rm10 l Z a0 hw [] ab kb ch _ (2 : Int32) _ T78.heap n0 z80 V (by decide) (rm18_2 l Z a0 hw [] ab kb ch (nar .char (own_x p0)) (nar .char (own_x p1)) T78.heap n0 z80 V (own_Rn _) (own_Rn _) kk.1 kk.2.1 hc) hc) (fun _ ab kb V ch hc => rm24 l Z a0 hw [] ab kb ch u _ (4 : Int32) (2 : Int32) _ T78.heap n0 o87 hu SF V (by decide) (by decide) (by decide) (rm30_2 l Z a0 hw [] ab kb ch (nar .char (own_x p0)) (nar .char (own_x p1)) T78.heap n0 o87 SA SH SL V (own_Rn _) (own_Rn _)) hc)) hZ (wd hw 27 rfl) (wd hw 26 rfl) (by decide) (by decide)) (g := (mkF m 222 #[vI p0, vI p1, vI p2, vI p3, vI p4, vI 2, vI (own_x p0), vI (own_x p1), vI (own_x p2), vI (own_x p3), vR b61, vR b72, vI 0] [(.ref b72)])) rfl (by rw [hml]; rfl) (argsL := [(.ref b72)]) (rest := []) (lenOf pd_19 rfl) rfl (by show 2 * 0 + _ ≤ _; exact Nat.le_of_eq rfl) (hb hby at_222) (fun _ _ => ⟨rfl, he85, (by decide : 4 + 0 ≤ _), (by decide : 12 + 0 ≤ _)⟩)
            dsimp only [Pt.U, Pt.locs, Pt.cells, Pt.slots] at X89 l89 y89 z89 st89 hQ89
            subst l89 y89 z89
            obtain ⟨r89, rfl, N89q, he89, hr89⟩ := hQ89
            have N89 := Fr.app N85 N89q
            have pre90 := fun t (kt : At p e below T89 m 225 #[vI p0, vI p1, vI p2, vI p3, vI p4, vI 2, vI (own_x p0), vI (own_x p1), vI (own_x p2), vI (own_x p3), vR b61, vR b72, vI 0] [(.int r89)] t) => pre88 t (st89 _ kt)
            have hv : r89 = (0 : Int32) := own_r0 hr89 (own_w0 (by rw [own_nc]; exact d1) (own_w0 (by rw [own_nc]; exact d2) (own_wn)))
            have pre91 := fun t (kt : At p e below T89 m 235 #[vI p0, vI p1, vI p2, vI p3, vI p4, vI 2, vI (own_x p0), vI (own_x p1), vI (own_x p2), vI (own_x p3), vR b61, vR b72, vI 0] [(.int 1)] t) => pre90 t (by
              show At p e below T89 m 225 #[vI p0, vI p1, vI p2, vI p3, vI p4, vI 2, vI (own_x p0), vI (own_x p1), vI (own_x p2), vI (own_x p3), vR b61, vR b72, vI 0] [(.int r89)] _
              rw [show r89 = (0 : Int32) from hv]
              show At p e below T89 m 225 #[vI p0, vI p1, vI p2, vI p3, vI p4, vI 2, vI (own_x p0), vI (own_x p1), vI (own_x p2), vI (own_x p3), vR b61, vR b72, vI 0] [(.int 0)] _
              refine XS.iload X89.here hx rfl (hb hby at_225) rfl ?_
              show At p e below T89 m 227 #[vI p0, vI p1, vI p2, vI p3, vI p4, vI 2, vI (own_x p0), vI (own_x p1), vI (own_x p2), vI (own_x p3), vR b61, vR b72, vI 0] [(.int 0), (.int 0)] _
              refine XS.icmpNo X89.here hx rfl (hb hby at_227) rfl (teq (by decide : (0 : Int32) = (0 : Int32))).2 ?_
              show At p e below T89 m 230 #[vI p0, vI p1, vI p2, vI p3, vI p4, vI 2, vI (own_x p0), vI (own_x p1), vI (own_x p2), vI (own_x p3), vR b61, vR b72, vI 0] [] _
              refine XS.iconst X89.here hx rfl (hb hby at_230) ?_
              show At p e below T89 m 231 #[vI p0, vI p1, vI p2, vI p3, vI p4, vI 2, vI (own_x p0), vI (own_x p1), vI (own_x p2), vI (own_x p3), vR b61, vR b72, vI 0] [(.int 1)] _
              refine XS.goto X89.here hx rfl (pc0 := 231) (pc' := 235) rfl (hb hby at_231) (by decide) (by decide) ?_
              exact kt)
            have hk92 := (Nat.le_trans (Nat.le_trans (Nat.le_trans (Nat.le_trans (Nat.le_trans hk E61.1) (Keep.of_wr W65).1) (Keep.of_wr W69).1) E72.1) K78.1)
            obtain ⟨fs, hr, hrun, hended, -, hW, hI, hsame⟩ := X89.leaveW hS (he89.symm ▸ hk92) (v := (some (.int 1))) (fun h => by rw [Bd.returns] at h; cases h)
            refine ⟨_, _, pre91 _ ?_, hrun, hended, _, _, rfl, ?_, ⟨_, rfl⟩, hW, hI, hsame.mono (by decide) (by decide)⟩
            · show At p e below T89 m 235 #[vI p0, vI p1, vI p2, vI p3, vI p4, vI 2, vI (own_x p0), vI (own_x p1), vI (own_x p2), vI (own_x p3), vR b61, vR b72, vI 0] [(.int 1)] _
              exact retN X89 hx (t := .boolean) Bd.returns (by simp) (hb hby at_235) hr
            · show Q0 Z p0 p1 p2 p3 p4 cs u h0 n0 _ T89.heap _
              rw [he89]
              exact ⟨rfl, N89⟩
          · have o93 : Old Z n0 T78.heap := (o75.keep K78 (allS gg_b72 all0))
            have pre94 := fun t (kt : At p e below T85 m 222 #[vI p0, vI p1, vI p2, vI p3, vI p4, vI 2, vI (own_x p0), vI (own_x p1), vI (own_x p2), vI (own_x p3), vR b61, vR b72, vI 1] [(.ref b72)] t) => pre86 t (by
              show At p e below T85 m 182 #[vI p0, vI p1, vI p2, vI p3, vI p4, vI 2, vI (own_x p0), vI (own_x p1), vI (own_x p2), vI (own_x p3), vR b61, vR b72, vU] [(.int (own_w (own_x p1)))] _
              refine XS.ifYes X85.here hx rfl (pc0 := 182) (pc' := 213) rfl (hb hby at_182) rfl ((if0 _ _).trans (feq (d2 : ¬ ((own_w (own_x p1)) = (0 : Int32)))).2) (by decide) (by decide) ?_
              show At p e below T85 m 213 #[vI p0, vI p1, vI p2, vI p3, vI p4, vI 2, vI (own_x p0), vI (own_x p1), vI (own_x p2), vI (own_x p3), vR b61, vR b72, vU] [] _
              refine XS.iconst X85.here hx rfl (hb hby at_213) ?_
              show At p e below T85 m 214 #[vI p0, vI p1, vI p2, vI p3, vI p4, vI 2, vI (own_x p0), vI (own_x p1), vI (own_x p2), vI (own_x p3), vR b61, vR b72, vU] [(.int 1)] _
              refine XS.goto X85.here hx rfl (pc0 := 214) (pc' := 218) rfl (hb hby at_214) (by decide) (by decide) ?_
              show At p e below T85 m 218 #[vI p0, vI p1, vI p2, vI p3, vI p4, vI 2, vI (own_x p0), vI (own_x p1), vI (own_x p2), vI (own_x p3), vR b61, vR b72, vU] [(.int 1)] _
              refine XS.istore X85.here hx rfl (hb hby at_218) rfl (l' := #[vI p0, vI p1, vI p2, vI p3, vI p4, vI 2, vI (own_x p0), vI (own_x p1), vI (own_x p2), vI (own_x p3), vR b61, vR b72, vI 1]) rfl ?_
              show At p e below T85 m 220 #[vI p0, vI p1, vI p2, vI p3, vI p4, vI 2, vI (own_x p0), vI (own_x p1), vI (own_x p2), vI (own_x p3), vR b61, vR b72, vI 1] [] _
              refine XS.aload X85.here hx rfl (hb hby at_220) rfl rfl ?_
              exact kt)
            obtain ⟨_, _, ⟨T95, L95, kc95, nc95⟩, -, X95, ⟨Lc95, hQ95, l95, y95, z95⟩, st95⟩ := Jvm.LawKit.callS X85 hx (y := (⟨"beanforge/core/PathPattern", "isPattern", "(Ljava/lang/String;)Z"⟩ : MethodName)) hown (mvT hZ (wd hw 24 rfl)) (mvT hZ (wd hw 25 rfl)) (mvT hZ (wd hw 26 rfl)) (mvT hZ (wd hw 27 rfl)) (by decide) (backOf (W := 0) (rm4 l Z a0 hw [] b72 cs (2 : Int32) (4 : Int32) _ _ _ _ [(nar .char (own_x p0)), (nar .char (own_x p1))] T78.heap n0 o93 SC hcs S78 (by decide) (fun _ => by decide) (fun kk ab kb V ch hc => rm10 l Z a0 hw [] ab kb ch _ (2 : Int32) _ T78.heap n0 z80 V (by decide) (rm18_2 l Z a0 hw [] ab kb ch (nar .char (own_x p0)) (nar .char (own_x p1)) T78.heap n0 z80 V (own_Rn _) (own_Rn _) kk.1 kk.2.1 hc) hc) (fun _ ab kb V ch hc => rm24 l Z a0 hw [] ab kb ch u _ (4 : Int32) (2 : Int32) _ T78.heap n0 o93 hu SF V (by decide) (by decide) (by decide) (rm30_2 l Z a0 hw [] ab kb ch (nar .char (own_x p0)) (nar .char (own_x p1)) T78.heap n0 o93 SA SH SL V (own_Rn _) (own_Rn _)) hc)) hZ (wd hw 27 rfl) (wd hw 26 rfl) (by decide) (by decide)) (g := (mkF m 222 #[vI p0, vI p1, vI p2, vI p3, vI p4, vI 2, vI (own_x p0), vI (own_x p1), vI (own_x p2), vI (own_x p3), vR b61, vR b72, vI 1] [(.ref b72)])) rfl (by rw [hml]; rfl) (argsL := [(.ref b72)]) (rest := []) (lenOf pd_19 rfl) rfl (by show 2 * 0 + _ ≤ _; exact Nat.le_of_eq rfl) (hb hby at_222) (fun _ _ => ⟨rfl, he85, (by decide : 4 + 0 ≤ _), (by decide : 12 + 0 ≤ _)⟩)
            dsimp only [Pt.U, Pt.locs, Pt.cells, Pt.slots] at X95 l95 y95 z95 st95 hQ95
            subst l95 y95 z95
            obtain ⟨r95, rfl, N95q, he95, hr95⟩ := hQ95
            have N95 := Fr.app N85 N95q
            have pre96 := fun t (kt : At p e below T95 m 225 #[vI p0, vI p1, vI p2, vI p3, vI p4, vI 2, vI (own_x p0), vI (own_x p1), vI (own_x p2), vI (own_x p3), vR b61, vR b72, vI 1] [(.int r95)] t) => pre94 t (st95 _ kt)
            have hv : r95 = (1 : Int32) := own_r1 hr95 (own_wt (own_w1 (by rw [own_nc]; exact d2)))
            have pre97 := fun t (kt : At p e below T95 m 235 #[vI p0, vI p1, vI p2, vI p3, vI p4, vI 2, vI (own_x p0), vI (own_x p1), vI (own_x p2), vI (own_x p3), vR b61, vR b72, vI 1] [(.int 1)] t) => pre96 t (by
              show At p e below T95 m 225 #[vI p0, vI p1, vI p2, vI p3, vI p4, vI 2, vI (own_x p0), vI (own_x p1), vI (own_x p2), vI (own_x p3), vR b61, vR b72, vI 1] [(.int r95)] _
              rw [show r95 = (1 : Int32) from hv]
              show At p e below T95 m 225 #[vI p0, vI p1, vI p2, vI p3, vI p4, vI 2, vI (own_x p0), vI (own_x p1), vI (own_x p2), vI (own_x p3), vR b61, vR b72, vI 1] [(.int 1)] _
              refine XS.iload X95.here hx rfl (hb hby at_225) rfl ?_
              show At p e below T95 m 227 #[vI p0, vI p1, vI p2, vI p3, vI p4, vI 2, vI (own_x p0), vI (own_x p1), vI (own_x p2), vI (own_x p3), vR b61, vR b72, vI 1] [(.int 1), (.int 1)] _
              refine XS.icmpNo X95.here hx rfl (hb hby at_227) rfl (teq (by decide : (1 : Int32) = (1 : Int32))).2 ?_
              show At p e below T95 m 230 #[vI p0, vI p1, vI p2, vI p3, vI p4, vI 2, vI (own_x p0), vI (own_x p1), vI (own_x p2), vI (own_x p3), vR b61, vR b72, vI 1] [] _
              refine XS.iconst X95.here hx rfl (hb hby at_230) ?_
              show At p e below T95 m 231 #[vI p0, vI p1, vI p2, vI p3, vI p4, vI 2, vI (own_x p0), vI (own_x p1), vI (own_x p2), vI (own_x p3), vR b61, vR b72, vI 1] [(.int 1)] _
              refine XS.goto X95.here hx rfl (pc0 := 231) (pc' := 235) rfl (hb hby at_231) (by decide) (by decide) ?_
              exact kt)
            have hk98 := (Nat.le_trans (Nat.le_trans (Nat.le_trans (Nat.le_trans (Nat.le_trans hk E61.1) (Keep.of_wr W65).1) (Keep.of_wr W69).1) E72.1) K78.1)
            obtain ⟨fs, hr, hrun, hended, -, hW, hI, hsame⟩ := X95.leaveW hS (he95.symm ▸ hk98) (v := (some (.int 1))) (fun h => by rw [Bd.returns] at h; cases h)
            refine ⟨_, _, pre97 _ ?_, hrun, hended, _, _, rfl, ?_, ⟨_, rfl⟩, hW, hI, hsame.mono (by decide) (by decide)⟩
            · show At p e below T95 m 235 #[vI p0, vI p1, vI p2, vI p3, vI p4, vI 2, vI (own_x p0), vI (own_x p1), vI (own_x p2), vI (own_x p3), vR b61, vR b72, vI 1] [(.int 1)] _
              exact retN X95 hx (t := .boolean) Bd.returns (by simp) (hb hby at_235) hr
            · show Q0 Z p0 p1 p2 p3 p4 cs u h0 n0 _ T95.heap _
              rw [he95]
              exact ⟨rfl, N95⟩
        · have o99 : Old Z n0 T78.heap := (o75.keep K78 (allS gg_b72 all0))
          have pre100 := fun t (kt : At p e below T82 m 222 #[vI p0, vI p1, vI p2, vI p3, vI p4, vI 2, vI (own_x p0), vI (own_x p1), vI (own_x p2), vI (own_x p3), vR b61, vR b72, vI 1] [(.ref b72)] t) => pre83 t (by
            show At p e below T82 m 168 #[vI p0, vI p1, vI p2, vI p3, vI p4, vI 2, vI (own_x p0), vI (own_x p1), vI (own_x p2), vI (own_x p3), vR b61, vR b72, vU] [(.int (own_w (own_x p0)))] _
            refine XS.ifYes X82.here hx rfl (pc0 := 168) (pc' := 213) rfl (hb hby at_168) rfl ((if0 _ _).trans (feq (d1 : ¬ ((own_w (own_x p0)) = (0 : Int32)))).2) (by decide) (by decide) ?_
            show At p e below T82 m 213 #[vI p0, vI p1, vI p2, vI p3, vI p4, vI 2, vI (own_x p0), vI (own_x p1), vI (own_x p2), vI (own_x p3), vR b61, vR b72, vU] [] _
            refine XS.iconst X82.here hx rfl (hb hby at_213) ?_
            show At p e below T82 m 214 #[vI p0, vI p1, vI p2, vI p3, vI p4, vI 2, vI (own_x p0), vI (own_x p1), vI (own_x p2), vI (own_x p3), vR b61, vR b72, vU] [(.int 1)] _
            refine XS.goto X82.here hx rfl (pc0 := 214) (pc' := 218) rfl (hb hby at_214) (by decide) (by decide) ?_
            show At p e below T82 m 218 #[vI p0, vI p1, vI p2, vI p3, vI p4, vI 2, vI (own_x p0), vI (own_x p1), vI (own_x p2), vI (own_x p3), vR b61, vR b72, vU] [(.int 1)] _
            refine XS.istore X82.here hx rfl (hb hby at_218) rfl (l' := #[vI p0, vI p1, vI p2, vI p3, vI p4, vI 2, vI (own_x p0), vI (own_x p1), vI (own_x p2), vI (own_x p3), vR b61, vR b72, vI 1]) rfl ?_
            show At p e below T82 m 220 #[vI p0, vI p1, vI p2, vI p3, vI p4, vI 2, vI (own_x p0), vI (own_x p1), vI (own_x p2), vI (own_x p3), vR b61, vR b72, vI 1] [] _
            refine XS.aload X82.here hx rfl (hb hby at_220) rfl rfl ?_
            exact kt)
          obtain ⟨_, _, ⟨T101, L101, kc101, nc101⟩, -, X101, ⟨Lc101, hQ101, l101, y101, z101⟩, st101⟩ := Jvm.LawKit.callS X82 hx (y := (⟨"beanforge/core/PathPattern", "isPattern", "(Ljava/lang/String;)Z"⟩ : MethodName)) hown (mvT hZ (wd hw 24 rfl)) (mvT hZ (wd hw 25 rfl)) (mvT hZ (wd hw 26 rfl)) (mvT hZ (wd hw 27 rfl)) (by decide) (backOf (W := 0) (rm4 l Z a0 hw [] b72 cs (2 : Int32) (4 : Int32) _ _ _ _ [(nar .char (own_x p0)), (nar .char (own_x p1))] T78.heap n0 o99 SC hcs S78 (by decide) (fun _ => by decide) (fun kk ab kb V ch hc => rm10 l Z a0 hw [] ab kb ch _ (2 : Int32) _ T78.heap n0 z80 V (by decide) (rm18_2 l Z a0 hw [] ab kb ch (nar .char (own_x p0)) (nar .char (own_x p1)) T78.heap n0 z80 V (own_Rn _) (own_Rn _) kk.1 kk.2.1 hc) hc) (fun _ ab kb V ch hc => rm24 l Z a0 hw [] ab kb ch u _ (4 : Int32) (2 : Int32) _ T78.heap n0 o99 hu SF V (by decide) (by decide) (by decide) (rm30_2 l Z a0 hw [] ab kb ch (nar .char (own_x p0)) (nar .char (own_x p1)) T78.heap n0 o99 SA SH SL V (own_Rn _) (own_Rn _)) hc)) hZ (wd hw 27 rfl) (wd hw 26 rfl) (by decide) (by decide)) (g := (mkF m 222 #[vI p0, vI p1, vI p2, vI p3, vI p4, vI 2, vI (own_x p0), vI (own_x p1), vI (own_x p2), vI (own_x p3), vR b61, vR b72, vI 1] [(.ref b72)])) rfl (by rw [hml]; rfl) (argsL := [(.ref b72)]) (rest := []) (lenOf pd_19 rfl) rfl (by show 2 * 0 + _ ≤ _; exact Nat.le_of_eq rfl) (hb hby at_222) (fun _ _ => ⟨rfl, he82, (by decide : 4 + 0 ≤ _), (by decide : 12 + 0 ≤ _)⟩)
          dsimp only [Pt.U, Pt.locs, Pt.cells, Pt.slots] at X101 l101 y101 z101 st101 hQ101
          subst l101 y101 z101
          obtain ⟨r101, rfl, N101q, he101, hr101⟩ := hQ101
          have N101 := Fr.app N82 N101q
          have pre102 := fun t (kt : At p e below T101 m 225 #[vI p0, vI p1, vI p2, vI p3, vI p4, vI 2, vI (own_x p0), vI (own_x p1), vI (own_x p2), vI (own_x p3), vR b61, vR b72, vI 1] [(.int r101)] t) => pre100 t (st101 _ kt)
          have hv : r101 = (1 : Int32) := own_r1 hr101 (own_w1 (by rw [own_nc]; exact d1))
          have pre103 := fun t (kt : At p e below T101 m 235 #[vI p0, vI p1, vI p2, vI p3, vI p4, vI 2, vI (own_x p0), vI (own_x p1), vI (own_x p2), vI (own_x p3), vR b61, vR b72, vI 1] [(.int 1)] t) => pre102 t (by
            show At p e below T101 m 225 #[vI p0, vI p1, vI p2, vI p3, vI p4, vI 2, vI (own_x p0), vI (own_x p1), vI (own_x p2), vI (own_x p3), vR b61, vR b72, vI 1] [(.int r101)] _
            rw [show r101 = (1 : Int32) from hv]
            show At p e below T101 m 225 #[vI p0, vI p1, vI p2, vI p3, vI p4, vI 2, vI (own_x p0), vI (own_x p1), vI (own_x p2), vI (own_x p3), vR b61, vR b72, vI 1] [(.int 1)] _
            refine XS.iload X101.here hx rfl (hb hby at_225) rfl ?_
            show At p e below T101 m 227 #[vI p0, vI p1, vI p2, vI p3, vI p4, vI 2, vI (own_x p0), vI (own_x p1), vI (own_x p2), vI (own_x p3), vR b61, vR b72, vI 1] [(.int 1), (.int 1)] _
            refine XS.icmpNo X101.here hx rfl (hb hby at_227) rfl (teq (by decide : (1 : Int32) = (1 : Int32))).2 ?_
            show At p e below T101 m 230 #[vI p0, vI p1, vI p2, vI p3, vI p4, vI 2, vI (own_x p0), vI (own_x p1), vI (own_x p2), vI (own_x p3), vR b61, vR b72, vI 1] [] _
            refine XS.iconst X101.here hx rfl (hb hby at_230) ?_
            show At p e below T101 m 231 #[vI p0, vI p1, vI p2, vI p3, vI p4, vI 2, vI (own_x p0), vI (own_x p1), vI (own_x p2), vI (own_x p3), vR b61, vR b72, vI 1] [(.int 1)] _
            refine XS.goto X101.here hx rfl (pc0 := 231) (pc' := 235) rfl (hb hby at_231) (by decide) (by decide) ?_
            exact kt)
          have hk104 := (Nat.le_trans (Nat.le_trans (Nat.le_trans (Nat.le_trans (Nat.le_trans hk E61.1) (Keep.of_wr W65).1) (Keep.of_wr W69).1) E72.1) K78.1)
          obtain ⟨fs, hr, hrun, hended, -, hW, hI, hsame⟩ := X101.leaveW hS (he101.symm ▸ hk104) (v := (some (.int 1))) (fun h => by rw [Bd.returns] at h; cases h)
          refine ⟨_, _, pre103 _ ?_, hrun, hended, _, _, rfl, ?_, ⟨_, rfl⟩, hW, hI, hsame.mono (by decide) (by decide)⟩
          · show At p e below T101 m 235 #[vI p0, vI p1, vI p2, vI p3, vI p4, vI 2, vI (own_x p0), vI (own_x p1), vI (own_x p2), vI (own_x p3), vR b61, vR b72, vI 1] [(.int 1)] _
            exact retN X101 hx (t := .boolean) Bd.returns (by simp) (hb hby at_235) hr
          · show Q0 Z p0 p1 p2 p3 p4 cs u h0 n0 _ T101.heap _
            rw [he101]
            exact ⟨rfl, N101⟩
      · have pre105 := fun t (kt : At p e below s₁ m 96 #[vI p0, vI p1, vI p2, vI p3, vI p4, vI (own_nn p4), vI (own_x p0), vI (own_x p1), vI (own_x p2), vI (own_x p3), vU, vU, vU] [(.int 3), (.int (own_nn p4))] t) => pre59 t (by
          show At p e below s₁ m 72 #[vI p0, vI p1, vI p2, vI p3, vI p4, vI (own_nn p4), vI (own_x p0), vI (own_x p1), vI (own_x p2), vI (own_x p3), vU, vU, vU] [(.int 2), (.int (own_nn p4))] _
          refine XS.icmpYes X0.here hx rfl (pc0 := 72) (pc' := 93) rfl (hb hby at_72) rfl (feq (nn2 : ¬ ((own_nn p4) = (2 : Int32)))).2 (by decide) (by decide) ?_
          show At p e below s₁ m 93 #[vI p0, vI p1, vI p2, vI p3, vI p4, vI (own_nn p4), vI (own_x p0), vI (own_x p1), vI (own_x p2), vI (own_x p3), vU, vU, vU] [] _
          refine XS.iload X0.here hx rfl (hb hby at_93) rfl ?_
          show At p e below s₁ m 95 #[vI p0, vI p1, vI p2, vI p3, vI p4, vI (own_nn p4), vI (own_x p0), vI (own_x p1), vI (own_x p2), vI (own_x p3), vU, vU, vU] [(.int (own_nn p4))] _
          refine XS.iconst X0.here hx rfl (hb hby at_95) ?_
          exact kt)
        by_cases nn3 : (own_nn p4) = (3 : Int32)
        · have pre106 := fun t (kt : At p e below s₁ m 100 #[vI p0, vI p1, vI p2, vI p3, vI p4, vI 3, vI (own_x p0), vI (own_x p1), vI (own_x p2), vI (own_x p3), vU, vU, vU] [(.int 3)] t) => pre105 t (by
            show At p e below s₁ m 96 #[vI p0, vI p1, vI p2, vI p3, vI p4, vI (own_nn p4), vI (own_x p0), vI (own_x p1), vI (own_x p2), vI (own_x p3), vU, vU, vU] [(.int 3), (.int (own_nn p4))] _
            refine XS.icmpNo X0.here hx rfl (hb hby at_96) rfl (teq (nn3 : (own_nn p4) = (3 : Int32))).2 ?_
            show At p e below s₁ m 99 #[vI p0, vI p1, vI p2, vI p3, vI p4, vI (own_nn p4), vI (own_x p0), vI (own_x p1), vI (own_x p2), vI (own_x p3), vU, vU, vU] [] _
            rw [show (own_nn p4) = (3 : Int32) from nn3]
            show At p e below s₁ m 99 #[vI p0, vI p1, vI p2, vI p3, vI p4, vI 3, vI (own_x p0), vI (own_x p1), vI (own_x p2), vI (own_x p3), vU, vU, vU] [] _
            refine XS.iconst X0.here hx rfl (hb hby at_99) ?_
            exact kt)
          obtain ⟨T107, h107, k107, X107, e107, E107, A107, st107⟩ := newP X0 hx hZ (wd hw 2 rfl) e0 (g := (mkF m 100 #[vI p0, vI p1, vI p2, vI p3, vI p4, vI 3, vI (own_x p0), vI (own_x p1), vI (own_x p2), vI (own_x p3), vU, vU, vU] [(.int 3)])) rfl (hb hby at_100) rfl (by decide) (cap := 3) (by decide) (by decide) (by decide) (by decide)
          obtain ⟨b107, gq107⟩ : ∃ z, z = h0.size := ⟨_, rfl⟩
          rw [← gq107] at A107 st107
          have gg_b107 : n0 ≤ b107 := Nat.le_trans Z0 (Nat.le_of_eq gq107.symm)
          have V107 : Arv Z h107 b107 k107 .char (3 : Int32) [(.int 0), (.int 0), (.int 0)] (.int 0) := (Arv.new A107 (by decide)).pad (pad_rep [] (.int 0) 3)
          have pre108 := fun t (kt : At p e below T107 m 102 #[vI p0, vI p1, vI p2, vI p3, vI p4, vI 3, vI (own_x p0), vI (own_x p1), vI (own_x p2), vI (own_x p3), vU, vU, vU] [(.ref b107)] t) => pre106 t (st107 _ kt)
          obtain ⟨cl109, Ar109, qk109, Sz109, Nn109, Hh109, Gg109⟩ := id V107
          have hin109 : ¬ ((0 : Int32) < 0 ∨ cl109.slots.size ≤ ((0 : Int32)).toNatClampNeg) := inb_of Sz109 ⟨by decide, by decide⟩
          have pre110 := fun t (kt : At p e below T107 m 106 #[vI p0, vI p1, vI p2, vI p3, vI p4, vI 3, vI (own_x p0), vI (own_x p1), vI (own_x p2), vI (own_x p3), vU, vU, vU] [(.int (own_x p0)), (.int 0), (.ref b107), (.ref b107)] t) => pre108 t (by
            show At p e below T107 m 102 #[vI p0, vI p1, vI p2, vI p3, vI p4, vI 3, vI (own_x p0), vI (own_x p1), vI (own_x p2), vI (own_x p3), vU, vU, vU] [(.ref b107)] _
            refine XS.dup X107.here hx rfl (hb hby at_102) rfl rfl ?_
            show At p e below T107 m 103 #[vI p0, vI p1, vI p2, vI p3, vI p4, vI 3, vI (own_x p0), vI (own_x p1), vI (own_x p2), vI (own_x p3), vU, vU, vU] [(.ref b107), (.ref b107)] _
            refine XS.iconst X107.here hx rfl (hb hby at_103) ?_
            show At p e below T107 m 104 #[vI p0, vI p1, vI p2, vI p3, vI p4, vI 3, vI (own_x p0), vI (own_x p1), vI (own_x p2), vI (own_x p3), vU, vU, vU] [(.int 0), (.ref b107), (.ref b107)] _
            refine XS.iload X107.here hx rfl (hb hby at_104) rfl ?_
            exact kt)
          obtain ⟨T111, h111, X111, e111, W111, st111⟩ := stC X107 hx hZ e107 Ar109 (j := (0 : Int32)) hin109 (g := (mkF m 106 #[vI p0, vI p1, vI p2, vI p3, vI p4, vI 3, vI (own_x p0), vI (own_x p1), vI (own_x p2), vI (own_x p3), vU, vU, vU] [(.int (own_x p0)), (.int 0), (.ref b107), (.ref b107)])) rfl rfl (hb hby at_106)
          have V111 := Arv.set Ar109 qk109 Sz109 Nn109 Hh109 Gg109 (fits_nar_char _) W111 0 rfl (Nat.le_of_ble_eq_true rfl)
          have V111' : Arv Z h111 b107 k107 .char (3 : Int32) [(.int (nar .char (own_x p0))), (.int 0), (.int 0)] (.int 0) := V111
          have N111 := Fr.snoc X111 N0 gg_b107
          have pre112 := fun t (kt : At p e below T111 m 107 #[vI p0, vI p1, vI p2, vI p3, vI p4, vI 3, vI (own_x p0), vI (own_x p1), vI (own_x p2), vI (own_x p3), vU, vU, vU] [(.ref b107)] t) => pre110 t (st111 _ kt)
          obtain ⟨cl113, Ar113, qk113, Sz113, Nn113, Hh113, Gg113⟩ := id V111'
          have hin113 : ¬ ((1 : Int32) < 0 ∨ cl113.slots.size ≤ ((1 : Int32)).toNatClampNeg) := inb_of Sz113 ⟨by decide, by decide⟩
          have pre114 := fun t (kt : At p e below T111 m 111 #[vI p0, vI p1, vI p2, vI p3, vI p4, vI 3, vI (own_x p0), vI (own_x p1), vI (own_x p2), vI (own_x p3), vU, vU, vU] [(.int (own_x p1)), (.int 1), (.ref b107), (.ref b107)] t) => pre112 t (by
            show At p e below T111 m 107 #[vI p0, vI p1, vI p2, vI p3, vI p4, vI 3, vI (own_x p0), vI (own_x p1), vI (own_x p2), vI (own_x p3), vU, vU, vU] [(.ref b107)] _
            refine XS.dup X111.here hx rfl (hb hby at_107) rfl rfl ?_
            show At p e below T111 m 108 #[vI p0, vI p1, vI p2, vI p3, vI p4, vI 3, vI (own_x p0), vI (own_x p1), vI (own_x p2), vI (own_x p3), vU, vU, vU] [(.ref b107), (.ref b107)] _
            refine XS.iconst X111.here hx rfl (hb hby at_108) ?_
            show At p e below T111 m 109 #[vI p0, vI p1, vI p2, vI p3, vI p4, vI 3, vI (own_x p0), vI (own_x p1), vI (own_x p2), vI (own_x p3), vU, vU, vU] [(.int 1), (.ref b107), (.ref b107)] _
            refine XS.iload X111.here hx rfl (hb hby at_109) rfl ?_
            exact kt)
          obtain ⟨T115, h115, X115, e115, W115, st115⟩ := stC X111 hx hZ e111 Ar113 (j := (1 : Int32)) hin113 (g := (mkF m 111 #[vI p0, vI p1, vI p2, vI p3, vI p4, vI 3, vI (own_x p0), vI (own_x p1), vI (own_x p2), vI (own_x p3), vU, vU, vU] [(.int (own_x p1)), (.int 1), (.ref b107), (.ref b107)])) rfl rfl (hb hby at_111)
          have V115 := Arv.set Ar113 qk113 Sz113 Nn113 Hh113 Gg113 (fits_nar_char _) W115 1 rfl (Nat.le_of_ble_eq_true rfl)
          have V115' : Arv Z h115 b107 k107 .char (3 : Int32) [(.int (nar .char (own_x p0))), (.int (nar .char (own_x p1))), (.int 0)] (.int 0) := V115
          have N115 := Fr.snoc X115 N111 gg_b107
          have pre116 := fun t (kt : At p e below T115 m 112 #[vI p0, vI p1, vI p2, vI p3, vI p4, vI 3, vI (own_x p0), vI (own_x p1), vI (own_x p2), vI (own_x p3), vU, vU, vU] [(.ref b107)] t) => pre114 t (st115 _ kt)
          obtain ⟨cl117, Ar117, qk117, Sz117, Nn117, Hh117, Gg117⟩ := id V115'
          have hin117 : ¬ ((2 : Int32) < 0 ∨ cl117.slots.size ≤ ((2 : Int32)).toNatClampNeg) := inb_of Sz117 ⟨by decide, by decide⟩
          have pre118 := fun t (kt : At p e below T115 m 116 #[vI p0, vI p1, vI p2, vI p3, vI p4, vI 3, vI (own_x p0), vI (own_x p1), vI (own_x p2), vI (own_x p3), vU, vU, vU] [(.int (own_x p2)), (.int 2), (.ref b107), (.ref b107)] t) => pre116 t (by
            show At p e below T115 m 112 #[vI p0, vI p1, vI p2, vI p3, vI p4, vI 3, vI (own_x p0), vI (own_x p1), vI (own_x p2), vI (own_x p3), vU, vU, vU] [(.ref b107)] _
            refine XS.dup X115.here hx rfl (hb hby at_112) rfl rfl ?_
            show At p e below T115 m 113 #[vI p0, vI p1, vI p2, vI p3, vI p4, vI 3, vI (own_x p0), vI (own_x p1), vI (own_x p2), vI (own_x p3), vU, vU, vU] [(.ref b107), (.ref b107)] _
            refine XS.iconst X115.here hx rfl (hb hby at_113) ?_
            show At p e below T115 m 114 #[vI p0, vI p1, vI p2, vI p3, vI p4, vI 3, vI (own_x p0), vI (own_x p1), vI (own_x p2), vI (own_x p3), vU, vU, vU] [(.int 2), (.ref b107), (.ref b107)] _
            refine XS.iload X115.here hx rfl (hb hby at_114) rfl ?_
            exact kt)
          obtain ⟨T119, h119, X119, e119, W119, st119⟩ := stC X115 hx hZ e115 Ar117 (j := (2 : Int32)) hin117 (g := (mkF m 116 #[vI p0, vI p1, vI p2, vI p3, vI p4, vI 3, vI (own_x p0), vI (own_x p1), vI (own_x p2), vI (own_x p3), vU, vU, vU] [(.int (own_x p2)), (.int 2), (.ref b107), (.ref b107)])) rfl rfl (hb hby at_116)
          have V119 := Arv.set Ar117 qk117 Sz117 Nn117 Hh117 Gg117 (fits_nar_char _) W119 2 rfl (Nat.le_of_ble_eq_true rfl)
          have V119' : Arv Z h119 b107 k107 .char (3 : Int32) [(.int (nar .char (own_x p0))), (.int (nar .char (own_x p1))), (.int (nar .char (own_x p2)))] (.int 0) := V119
          have N119 := Fr.snoc X119 N115 gg_b107
          have pre120 := fun t (kt : At p e below T119 m 117 #[vI p0, vI p1, vI p2, vI p3, vI p4, vI 3, vI (own_x p0), vI (own_x p1), vI (own_x p2), vI (own_x p3), vU, vU, vU] [(.ref b107)] t) => pre118 t (st119 _ kt)
          have pre121 := fun t (kt : At p e below T119 m 147 #[vI p0, vI p1, vI p2, vI p3, vI p4, vI 3, vI (own_x p0), vI (own_x p1), vI (own_x p2), vI (own_x p3), vR b107, vU, vU] [] t) => pre120 t (by
            show At p e below T119 m 117 #[vI p0, vI p1, vI p2, vI p3, vI p4, vI 3, vI (own_x p0), vI (own_x p1), vI (own_x p2), vI (own_x p3), vU, vU, vU] [(.ref b107)] _
            refine XS.astore X119.here hx rfl (hb hby at_117) rfl rfl (l' := #[vI p0, vI p1, vI p2, vI p3, vI p4, vI 3, vI (own_x p0), vI (own_x p1), vI (own_x p2), vI (own_x p3), vR b107, vU, vU]) rfl ?_
            show At p e below T119 m 119 #[vI p0, vI p1, vI p2, vI p3, vI p4, vI 3, vI (own_x p0), vI (own_x p1), vI (own_x p2), vI (own_x p3), vR b107, vU, vU] [] _
            refine XS.goto X119.here hx rfl (pc0 := 119) (pc' := 147) rfl (hb hby at_119) (by decide) (by decide) ?_
            exact kt)
          obtain ⟨T122, h122, X122, e122, E122, A122, D122, -, st122⟩ := newO X119 hx hZ hown (wd hw 3 rfl) (wd hw 4 rfl) (wd hw 5 rfl) e119 (g := (mkF m 147 #[vI p0, vI p1, vI p2, vI p3, vI p4, vI 3, vI (own_x p0), vI (own_x p1), vI (own_x p2), vI (own_x p3), vR b107, vU, vU] [])) rfl (hb hby at_147) (by decide) (by decide)
          obtain ⟨b122, gq122⟩ : ∃ z, z = h119.size := ⟨_, rfl⟩
          rw [← gq122] at A122 D122 st122
          have z123 : n0 ≤ h119.size := (Nat.le_trans (Nat.le_trans (Nat.le_trans (Nat.le_trans Z0 E107.1) (Keep.of_wr W111).1) (Keep.of_wr W115).1) (Keep.of_wr W119).1)
          have gg_b122 : n0 ≤ b122 := Nat.le_trans z123 (Nat.le_of_eq gq122.symm)
          have F122_value : Fld Z h122 b122 "java/lang/String" "value" "[B" .null := D122 (Or.inr (wd hw 18 rfl)) (ty := (.array .byte)) (by decide)
          have F122_coder : Fld Z h122 b122 "java/lang/String" "coder" "B" (.int 0) := D122 (Or.inr (wd hw 19 rfl)) (ty := .byte) (by decide)
          have pre124 := fun t (kt : At p e below T122 m 150 #[vI p0, vI p1, vI p2, vI p3, vI p4, vI 3, vI (own_x p0), vI (own_x p1), vI (own_x p2), vI (own_x p3), vR b107, vU, vU] [(.ref b122)] t) => pre121 t (st122 _ kt)
          have o125 : Old Z n0 h122 := (((((O0.ext E107).wr W111 gg_b107).wr W115 gg_b107).wr W119 gg_b107).ext E122)
          have f126 := (V119'.ext E122)
          have pre127 := fun t (kt : At p e below T122 m 153 #[vI p0, vI p1, vI p2, vI p3, vI p4, vI 3, vI (own_x p0), vI (own_x p1), vI (own_x p2), vI (own_x p3), vR b107, vU, vU] [(.ref b107), (.ref b122), (.ref b122)] t) => pre124 t (by
            show At p e below T122 m 150 #[vI p0, vI p1, vI p2, vI p3, vI p4, vI 3, vI (own_x p0), vI (own_x p1), vI (own_x p2), vI (own_x p3), vR b107, vU, vU] [(.ref b122)] _
            refine XS.dup X122.here hx rfl (hb hby at_150) rfl rfl ?_
            show At p e below T122 m 151 #[vI p0, vI p1, vI p2, vI p3, vI p4, vI 3, vI (own_x p0), vI (own_x p1), vI (own_x p2), vI (own_x p3), vR b107, vU, vU] [(.ref b122), (.ref b122)] _
            refine XS.aload X122.here hx rfl (hb hby at_151) rfl rfl ?_
            exact kt)
          obtain ⟨_, _, ⟨T128, L128, kc128, nc128⟩, -, X128, ⟨Lc128, hQ128, l128, y128, z128⟩, st128⟩ := X122.specialBack hx (y := (⟨"java/lang/String", "<init>", "([C)V"⟩ : MethodName)) rfl hown (mvT hZ (wd hw 6 rfl)) (mvT hZ (wd hw 7 rfl)) (mvT hZ (wd hw 8 rfl)) (by decide) (backOf (W := 1) (rm1_3 l Z a0 hw [] b122 b107 k107 cs (nar .char (own_x p0)) (nar .char (own_x p1)) (nar .char (own_x p2)) h122 n0 o125 A122 F122_value F122_coder gg_b122 SC hcs SA SH SL f126 (own_Rn _) (own_Rn _) (own_Rn _)) hZ (wd hw 8 rfl) (wd hw 5 rfl) (by decide) (by decide)) (g := (mkF m 153 #[vI p0, vI p1, vI p2, vI p3, vI p4, vI 3, vI (own_x p0), vI (own_x p1), vI (own_x p2), vI (own_x p3), vR b107, vU, vU] [(.ref b107), (.ref b122), (.ref b122)])) rfl (by rw [hml]; rfl) (Steps.refl _) (a := b122) (argsL := [(.ref b107)]) (rest := [(.ref b122)]) (lenOf pd_18 rfl) rfl (by show 2 * 0 + _ ≤ _; exact Nat.le_of_eq rfl) (hb hby at_153) (fun _ _ => ⟨rfl, e122, (by decide : 2 + 2 ≤ _), (by decide : 7 + 9 ≤ _)⟩)
          dsimp only [Pt.U, Pt.locs, Pt.cells, Pt.slots] at X128 l128 y128 z128 st128 hQ128
          subst l128 y128 z128
          obtain ⟨rfl, N128q, K128, S128⟩ := hQ128
          have N128 := Fr.app N119 N128q
          have pre129 := fun t (kt : At p e below T128 m 156 #[vI p0, vI p1, vI p2, vI p3, vI p4, vI 3, vI (own_x p0), vI (own_x p1), vI (own_x p2), vI (own_x p3), vR b107, vU, vU] [(.ref b122)] t) => pre127 t (st128.trans kt)
          have z130 : n0 ≤ T128.heap.size := (Nat.le_trans (Nat.le_trans z123 E122.1) K128.1)
          have pre131 := fun t (kt : At p e below T128 m 165 #[vI p0, vI p1, vI p2, vI p3, vI p4, vI 3, vI (own_x p0), vI (own_x p1), vI (own_x p2), vI (own_x p3), vR b107, vR b122, vU] [(.int (own_x p0))] t) => pre129 t (by
            show At p e below T128 m 156 #[vI p0, vI p1, vI p2, vI p3, vI p4, vI 3, vI (own_x p0), vI (own_x p1), vI (own_x p2), vI (own_x p3), vR b107, vU, vU] [(.ref b122)] _
            refine XS.astore X128.here hx rfl (hb hby at_156) rfl rfl (l' := #[vI p0, vI p1, vI p2, vI p3, vI p4, vI 3, vI (own_x p0), vI (own_x p1), vI (own_x p2), vI (own_x p3), vR b107, vR b122, vU]) rfl ?_
            show At p e below T128 m 158 #[vI p0, vI p1, vI p2, vI p3, vI p4, vI 3, vI (own_x p0), vI (own_x p1), vI (own_x p2), vI (own_x p3), vR b107, vR b122, vU] [] _
            refine XS.iload X128.here hx rfl (hb hby at_158) rfl ?_
            show At p e below T128 m 160 #[vI p0, vI p1, vI p2, vI p3, vI p4, vI 3, vI (own_x p0), vI (own_x p1), vI (own_x p2), vI (own_x p3), vR b107, vR b122, vU] [(.int 3)] _
            refine XS.ifNo X128.here hx rfl (hb hby at_160) rfl ((if0 _ _).trans (tlt (by decide : (0 : Int32) < (3 : Int32))).2.2.2) ?_
            show At p e below T128 m 163 #[vI p0, vI p1, vI p2, vI p3, vI p4, vI 3, vI (own_x p0), vI (own_x p1), vI (own_x p2), vI (own_x p3), vR b107, vR b122, vU] [] _
            refine XS.iload X128.here hx rfl (hb hby at_163) rfl ?_
            exact kt)
          obtain ⟨_, _, ⟨T132, L132, kc132, nc132⟩, -, X132, ⟨Lc132, hQ132, l132, y132, z132⟩, st132⟩ := Jvm.LawKit.callS X128 hx (y := (⟨"beanforge/core/PathPatternIsPatternPinLaw", "wild", "(C)Z"⟩ : MethodName)) hown (mvT hZ (wd hw 78 rfl)) (mvT hZ (wd hw 79 rfl)) (mvT hZ (wd hw 80 rfl)) (mvT hZ (wd hw 81 rfl)) (by decide) (backOf (W := 0) (rm17 l Z a0 hw [] (own_x p0) T128.heap n0 z130) hZ (wd hw 81 rfl) (wd hw 80 rfl) (by decide) (by decide)) (g := (mkF m 165 #[vI p0, vI p1, vI p2, vI p3, vI p4, vI 3, vI (own_x p0), vI (own_x p1), vI (own_x p2), vI (own_x p3), vR b107, vR b122, vU] [(.int (own_x p0))])) rfl (by rw [hml]; rfl) (argsL := [(.int (own_x p0))]) (rest := []) (lenOf pd_20 rfl) rfl (by show 2 * 0 + _ ≤ _; exact Nat.le_of_eq rfl) (hb hby at_165) (fun _ _ => ⟨rfl, rfl, (by decide : 4 + 0 ≤ _), (by decide : 16 + 0 ≤ _)⟩)
          dsimp only [Pt.U, Pt.locs, Pt.cells, Pt.slots] at X132 l132 y132 z132 st132 hQ132
          subst l132 y132 z132
          obtain ⟨rfl, N132q, he132⟩ := hQ132
          have N132 := Fr.app N128 N132q
          have pre133 := fun t (kt : At p e below T132 m 168 #[vI p0, vI p1, vI p2, vI p3, vI p4, vI 3, vI (own_x p0), vI (own_x p1), vI (own_x p2), vI (own_x p3), vR b107, vR b122, vU] [(.int (own_w (own_x p0)))] t) => pre131 t (st132 _ kt)
          by_cases d1 : (own_w (own_x p0)) = (0 : Int32)
          · have pre134 := fun t (kt : At p e below T132 m 179 #[vI p0, vI p1, vI p2, vI p3, vI p4, vI 3, vI (own_x p0), vI (own_x p1), vI (own_x p2), vI (own_x p3), vR b107, vR b122, vU] [(.int (own_x p1))] t) => pre133 t (by
              show At p e below T132 m 168 #[vI p0, vI p1, vI p2, vI p3, vI p4, vI 3, vI (own_x p0), vI (own_x p1), vI (own_x p2), vI (own_x p3), vR b107, vR b122, vU] [(.int (own_w (own_x p0)))] _
              refine XS.ifNo X132.here hx rfl (hb hby at_168) rfl ((if0 _ _).trans (teq (d1 : (own_w (own_x p0)) = (0 : Int32))).2) ?_
              show At p e below T132 m 171 #[vI p0, vI p1, vI p2, vI p3, vI p4, vI 3, vI (own_x p0), vI (own_x p1), vI (own_x p2), vI (own_x p3), vR b107, vR b122, vU] [] _
              refine XS.iload X132.here hx rfl (hb hby at_171) rfl ?_
              show At p e below T132 m 173 #[vI p0, vI p1, vI p2, vI p3, vI p4, vI 3, vI (own_x p0), vI (own_x p1), vI (own_x p2), vI (own_x p3), vR b107, vR b122, vU] [(.int 3)] _
              refine XS.iconst X132.here hx rfl (hb hby at_173) ?_
              show At p e below T132 m 174 #[vI p0, vI p1, vI p2, vI p3, vI p4, vI 3, vI (own_x p0), vI (own_x p1), vI (own_x p2), vI (own_x p3), vR b107, vR b122, vU] [(.int 1), (.int 3)] _
              refine XS.icmpNo X132.here hx rfl (hb hby at_174) rfl (tlt (by decide : (1 : Int32) < (3 : Int32))).2.2.2 ?_
              show At p e below T132 m 177 #[vI p0, vI p1, vI p2, vI p3, vI p4, vI 3, vI (own_x p0), vI (own_x p1), vI (own_x p2), vI (own_x p3), vR b107, vR b122, vU] [] _
              refine XS.iload X132.here hx rfl (hb hby at_177) rfl ?_
              exact kt)
            obtain ⟨_, _, ⟨T135, L135, kc135, nc135⟩, -, X135, ⟨Lc135, hQ135, l135, y135, z135⟩, st135⟩ := Jvm.LawKit.callS X132 hx (y := (⟨"beanforge/core/PathPatternIsPatternPinLaw", "wild", "(C)Z"⟩ : MethodName)) hown (mvT hZ (wd hw 78 rfl)) (mvT hZ (wd hw 79 rfl)) (mvT hZ (wd hw 80 rfl)) (mvT hZ (wd hw 81 rfl)) (by decide) (backOf (W := 0) (rm17 l Z a0 hw [] (own_x p1) T128.heap n0 z130) hZ (wd hw 81 rfl) (wd hw 80 rfl) (by decide) (by decide)) (g := (mkF m 179 #[vI p0, vI p1, vI p2, vI p3, vI p4, vI 3, vI (own_x p0), vI (own_x p1), vI (own_x p2), vI (own_x p3), vR b107, vR b122, vU] [(.int (own_x p1))])) rfl (by rw [hml]; rfl) (argsL := [(.int (own_x p1))]) (rest := []) (lenOf pd_20 rfl) rfl (by show 2 * 0 + _ ≤ _; exact Nat.le_of_eq rfl) (hb hby at_179) (fun _ _ => ⟨rfl, he132, (by decide : 4 + 0 ≤ _), (by decide : 16 + 0 ≤ _)⟩)
            dsimp only [Pt.U, Pt.locs, Pt.cells, Pt.slots] at X135 l135 y135 z135 st135 hQ135
            subst l135 y135 z135
            obtain ⟨rfl, N135q, he135⟩ := hQ135
            have N135 := Fr.app N132 N135q
            have pre136 := fun t (kt : At p e below T135 m 182 #[vI p0, vI p1, vI p2, vI p3, vI p4, vI 3, vI (own_x p0), vI (own_x p1), vI (own_x p2), vI (own_x p3), vR b107, vR b122, vU] [(.int (own_w (own_x p1)))] t) => pre134 t (st135 _ kt)
            by_cases d2 : (own_w (own_x p1)) = (0 : Int32)
            · have pre137 := fun t (kt : At p e below T135 m 193 #[vI p0, vI p1, vI p2, vI p3, vI p4, vI 3, vI (own_x p0), vI (own_x p1), vI (own_x p2), vI (own_x p3), vR b107, vR b122, vU] [(.int (own_x p2))] t) => pre136 t (by
                show At p e below T135 m 182 #[vI p0, vI p1, vI p2, vI p3, vI p4, vI 3, vI (own_x p0), vI (own_x p1), vI (own_x p2), vI (own_x p3), vR b107, vR b122, vU] [(.int (own_w (own_x p1)))] _
                refine XS.ifNo X135.here hx rfl (hb hby at_182) rfl ((if0 _ _).trans (teq (d2 : (own_w (own_x p1)) = (0 : Int32))).2) ?_
                show At p e below T135 m 185 #[vI p0, vI p1, vI p2, vI p3, vI p4, vI 3, vI (own_x p0), vI (own_x p1), vI (own_x p2), vI (own_x p3), vR b107, vR b122, vU] [] _
                refine XS.iload X135.here hx rfl (hb hby at_185) rfl ?_
                show At p e below T135 m 187 #[vI p0, vI p1, vI p2, vI p3, vI p4, vI 3, vI (own_x p0), vI (own_x p1), vI (own_x p2), vI (own_x p3), vR b107, vR b122, vU] [(.int 3)] _
                refine XS.iconst X135.here hx rfl (hb hby at_187) ?_
                show At p e below T135 m 188 #[vI p0, vI p1, vI p2, vI p3, vI p4, vI 3, vI (own_x p0), vI (own_x p1), vI (own_x p2), vI (own_x p3), vR b107, vR b122, vU] [(.int 2), (.int 3)] _
                refine XS.icmpNo X135.here hx rfl (hb hby at_188) rfl (tlt (by decide : (2 : Int32) < (3 : Int32))).2.2.2 ?_
                show At p e below T135 m 191 #[vI p0, vI p1, vI p2, vI p3, vI p4, vI 3, vI (own_x p0), vI (own_x p1), vI (own_x p2), vI (own_x p3), vR b107, vR b122, vU] [] _
                refine XS.iload X135.here hx rfl (hb hby at_191) rfl ?_
                exact kt)
              obtain ⟨_, _, ⟨T138, L138, kc138, nc138⟩, -, X138, ⟨Lc138, hQ138, l138, y138, z138⟩, st138⟩ := Jvm.LawKit.callS X135 hx (y := (⟨"beanforge/core/PathPatternIsPatternPinLaw", "wild", "(C)Z"⟩ : MethodName)) hown (mvT hZ (wd hw 78 rfl)) (mvT hZ (wd hw 79 rfl)) (mvT hZ (wd hw 80 rfl)) (mvT hZ (wd hw 81 rfl)) (by decide) (backOf (W := 0) (rm17 l Z a0 hw [] (own_x p2) T128.heap n0 z130) hZ (wd hw 81 rfl) (wd hw 80 rfl) (by decide) (by decide)) (g := (mkF m 193 #[vI p0, vI p1, vI p2, vI p3, vI p4, vI 3, vI (own_x p0), vI (own_x p1), vI (own_x p2), vI (own_x p3), vR b107, vR b122, vU] [(.int (own_x p2))])) rfl (by rw [hml]; rfl) (argsL := [(.int (own_x p2))]) (rest := []) (lenOf pd_20 rfl) rfl (by show 2 * 0 + _ ≤ _; exact Nat.le_of_eq rfl) (hb hby at_193) (fun _ _ => ⟨rfl, he135, (by decide : 4 + 0 ≤ _), (by decide : 16 + 0 ≤ _)⟩)
              dsimp only [Pt.U, Pt.locs, Pt.cells, Pt.slots] at X138 l138 y138 z138 st138 hQ138
              subst l138 y138 z138
              obtain ⟨rfl, N138q, he138⟩ := hQ138
              have N138 := Fr.app N135 N138q
              have pre139 := fun t (kt : At p e below T138 m 196 #[vI p0, vI p1, vI p2, vI p3, vI p4, vI 3, vI (own_x p0), vI (own_x p1), vI (own_x p2), vI (own_x p3), vR b107, vR b122, vU] [(.int (own_w (own_x p2)))] t) => pre137 t (st138 _ kt)
              by_cases d3 : (own_w (own_x p2)) = (0 : Int32)
              · have o140 : Old Z n0 T128.heap := (o125.keep K128 (allS gg_b122 all0))
                have pre141 := fun t (kt : At p e below T138 m 222 #[vI p0, vI p1, vI p2, vI p3, vI p4, vI 3, vI (own_x p0), vI (own_x p1), vI (own_x p2), vI (own_x p3), vR b107, vR b122, vI 0] [(.ref b122)] t) => pre139 t (by
                  show At p e below T138 m 196 #[vI p0, vI p1, vI p2, vI p3, vI p4, vI 3, vI (own_x p0), vI (own_x p1), vI (own_x p2), vI (own_x p3), vR b107, vR b122, vU] [(.int (own_w (own_x p2)))] _
                  refine XS.ifNo X138.here hx rfl (hb hby at_196) rfl ((if0 _ _).trans (teq (d3 : (own_w (own_x p2)) = (0 : Int32))).2) ?_
                  show At p e below T138 m 199 #[vI p0, vI p1, vI p2, vI p3, vI p4, vI 3, vI (own_x p0), vI (own_x p1), vI (own_x p2), vI (own_x p3), vR b107, vR b122, vU] [] _
                  refine XS.iload X138.here hx rfl (hb hby at_199) rfl ?_
                  show At p e below T138 m 201 #[vI p0, vI p1, vI p2, vI p3, vI p4, vI 3, vI (own_x p0), vI (own_x p1), vI (own_x p2), vI (own_x p3), vR b107, vR b122, vU] [(.int 3)] _
                  refine XS.iconst X138.here hx rfl (hb hby at_201) ?_
                  show At p e below T138 m 202 #[vI p0, vI p1, vI p2, vI p3, vI p4, vI 3, vI (own_x p0), vI (own_x p1), vI (own_x p2), vI (own_x p3), vR b107, vR b122, vU] [(.int 3), (.int 3)] _
                  refine XS.icmpYes X138.here hx rfl (pc0 := 202) (pc' := 217) rfl (hb hby at_202) rfl (flt (by decide : ¬ ((3 : Int32) < (3 : Int32)))).2.2.2 (by decide) (by decide) ?_
                  show At p e below T138 m 217 #[vI p0, vI p1, vI p2, vI p3, vI p4, vI 3, vI (own_x p0), vI (own_x p1), vI (own_x p2), vI (own_x p3), vR b107, vR b122, vU] [] _
                  refine XS.iconst X138.here hx rfl (hb hby at_217) ?_
                  show At p e below T138 m 218 #[vI p0, vI p1, vI p2, vI p3, vI p4, vI 3, vI (own_x p0), vI (own_x p1), vI (own_x p2), vI (own_x p3), vR b107, vR b122, vU] [(.int 0)] _
                  refine XS.istore X138.here hx rfl (hb hby at_218) rfl (l' := #[vI p0, vI p1, vI p2, vI p3, vI p4, vI 3, vI (own_x p0), vI (own_x p1), vI (own_x p2), vI (own_x p3), vR b107, vR b122, vI 0]) rfl ?_
                  show At p e below T138 m 220 #[vI p0, vI p1, vI p2, vI p3, vI p4, vI 3, vI (own_x p0), vI (own_x p1), vI (own_x p2), vI (own_x p3), vR b107, vR b122, vI 0] [] _
                  refine XS.aload X138.here hx rfl (hb hby at_220) rfl rfl ?_
                  exact kt)
                obtain ⟨_, _, ⟨T142, L142, kc142, nc142⟩, -, X142, ⟨Lc142, hQ142, l142, y142, z142⟩, st142⟩ := Jvm.LawKit.callS X138 hx (y := (⟨"beanforge/core/PathPattern", "isPattern", "(Ljava/lang/String;)Z"⟩ : MethodName)) hown (mvT hZ (wd hw 24 rfl)) (mvT hZ (wd hw 25 rfl)) (mvT hZ (wd hw 26 rfl)) (mvT hZ (wd hw 27 rfl)) (by decide) (backOf (W := 0) (rm4 l Z a0 hw [] b122 cs (3 : Int32) (6 : Int32) _ _ _ _ [(nar .char (own_x p0)), (nar .char (own_x p1)), (nar .char (own_x p2))] T128.heap n0 o140 SC hcs S128 (by decide) (fun _ => by decide) (fun kk ab kb V ch hc => rm10 l Z a0 hw [] ab kb ch _ (3 : Int32) _ T128.heap n0 z130 V (by decide) (rm18_3 l Z a0 hw [] ab kb ch (nar .char (own_x p0)) (nar .char (own_x p1)) (nar .char (own_x p2)) T128.heap n0 z130 V (own_Rn _) (own_Rn _) (own_Rn _) kk.1 kk.2.1 kk.2.2.1 hc) hc) (fun _ ab kb V ch hc => rm24 l Z a0 hw [] ab kb ch u _ (6 : Int32) (3 : Int32) _ T128.heap n0 o140 hu SF V (by decide) (by decide) (by decide) (rm30_3 l Z a0 hw [] ab kb ch (nar .char (own_x p0)) (nar .char (own_x p1)) (nar .char (own_x p2)) T128.heap n0 o140 SA SH SL V (own_Rn _) (own_Rn _) (own_Rn _)) hc)) hZ (wd hw 27 rfl) (wd hw 26 rfl) (by decide) (by decide)) (g := (mkF m 222 #[vI p0, vI p1, vI p2, vI p3, vI p4, vI 3, vI (own_x p0), vI (own_x p1), vI (own_x p2), vI (own_x p3), vR b107, vR b122, vI 0] [(.ref b122)])) rfl (by rw [hml]; rfl) (argsL := [(.ref b122)]) (rest := []) (lenOf pd_19 rfl) rfl (by show 2 * 0 + _ ≤ _; exact Nat.le_of_eq rfl) (hb hby at_222) (fun _ _ => ⟨rfl, he138, (by decide : 4 + 0 ≤ _), (by decide : 16 + 0 ≤ _)⟩)
                dsimp only [Pt.U, Pt.locs, Pt.cells, Pt.slots] at X142 l142 y142 z142 st142 hQ142
                subst l142 y142 z142
                obtain ⟨r142, rfl, N142q, he142, hr142⟩ := hQ142
                have N142 := Fr.app N138 N142q
                have pre143 := fun t (kt : At p e below T142 m 225 #[vI p0, vI p1, vI p2, vI p3, vI p4, vI 3, vI (own_x p0), vI (own_x p1), vI (own_x p2), vI (own_x p3), vR b107, vR b122, vI 0] [(.int r142)] t) => pre141 t (st142 _ kt)
                have hv : r142 = (0 : Int32) := own_r0 hr142 (own_w0 (by rw [own_nc]; exact d1) (own_w0 (by rw [own_nc]; exact d2) (own_w0 (by rw [own_nc]; exact d3) (own_wn))))
                have pre144 := fun t (kt : At p e below T142 m 235 #[vI p0, vI p1, vI p2, vI p3, vI p4, vI 3, vI (own_x p0), vI (own_x p1), vI (own_x p2), vI (own_x p3), vR b107, vR b122, vI 0] [(.int 1)] t) => pre143 t (by
                  show At p e below T142 m 225 #[vI p0, vI p1, vI p2, vI p3, vI p4, vI 3, vI (own_x p0), vI (own_x p1), vI (own_x p2), vI (own_x p3), vR b107, vR b122, vI 0] [(.int r142)] _
                  rw [show r142 = (0 : Int32) from hv]
                  show At p e below T142 m 225 #[vI p0, vI p1, vI p2, vI p3, vI p4, vI 3, vI (own_x p0), vI (own_x p1), vI (own_x p2), vI (own_x p3), vR b107, vR b122, vI 0] [(.int 0)] _
                  refine XS.iload X142.here hx rfl (hb hby at_225) rfl ?_
                  show At p e below T142 m 227 #[vI p0, vI p1, vI p2, vI p3, vI p4, vI 3, vI (own_x p0), vI (own_x p1), vI (own_x p2), vI (own_x p3), vR b107, vR b122, vI 0] [(.int 0), (.int 0)] _
                  refine XS.icmpNo X142.here hx rfl (hb hby at_227) rfl (teq (by decide : (0 : Int32) = (0 : Int32))).2 ?_
                  show At p e below T142 m 230 #[vI p0, vI p1, vI p2, vI p3, vI p4, vI 3, vI (own_x p0), vI (own_x p1), vI (own_x p2), vI (own_x p3), vR b107, vR b122, vI 0] [] _
                  refine XS.iconst X142.here hx rfl (hb hby at_230) ?_
                  show At p e below T142 m 231 #[vI p0, vI p1, vI p2, vI p3, vI p4, vI 3, vI (own_x p0), vI (own_x p1), vI (own_x p2), vI (own_x p3), vR b107, vR b122, vI 0] [(.int 1)] _
                  refine XS.goto X142.here hx rfl (pc0 := 231) (pc' := 235) rfl (hb hby at_231) (by decide) (by decide) ?_
                  exact kt)
                have hk145 := (Nat.le_trans (Nat.le_trans (Nat.le_trans (Nat.le_trans (Nat.le_trans (Nat.le_trans hk E107.1) (Keep.of_wr W111).1) (Keep.of_wr W115).1) (Keep.of_wr W119).1) E122.1) K128.1)
                obtain ⟨fs, hr, hrun, hended, -, hW, hI, hsame⟩ := X142.leaveW hS (he142.symm ▸ hk145) (v := (some (.int 1))) (fun h => by rw [Bd.returns] at h; cases h)
                refine ⟨_, _, pre144 _ ?_, hrun, hended, _, _, rfl, ?_, ⟨_, rfl⟩, hW, hI, hsame.mono (by decide) (by decide)⟩
                · show At p e below T142 m 235 #[vI p0, vI p1, vI p2, vI p3, vI p4, vI 3, vI (own_x p0), vI (own_x p1), vI (own_x p2), vI (own_x p3), vR b107, vR b122, vI 0] [(.int 1)] _
                  exact retN X142 hx (t := .boolean) Bd.returns (by simp) (hb hby at_235) hr
                · show Q0 Z p0 p1 p2 p3 p4 cs u h0 n0 _ T142.heap _
                  rw [he142]
                  exact ⟨rfl, N142⟩
              · have o146 : Old Z n0 T128.heap := (o125.keep K128 (allS gg_b122 all0))
                have pre147 := fun t (kt : At p e below T138 m 222 #[vI p0, vI p1, vI p2, vI p3, vI p4, vI 3, vI (own_x p0), vI (own_x p1), vI (own_x p2), vI (own_x p3), vR b107, vR b122, vI 1] [(.ref b122)] t) => pre139 t (by
                  show At p e below T138 m 196 #[vI p0, vI p1, vI p2, vI p3, vI p4, vI 3, vI (own_x p0), vI (own_x p1), vI (own_x p2), vI (own_x p3), vR b107, vR b122, vU] [(.int (own_w (own_x p2)))] _
                  refine XS.ifYes X138.here hx rfl (pc0 := 196) (pc' := 213) rfl (hb hby at_196) rfl ((if0 _ _).trans (feq (d3 : ¬ ((own_w (own_x p2)) = (0 : Int32)))).2) (by decide) (by decide) ?_
                  show At p e below T138 m 213 #[vI p0, vI p1, vI p2, vI p3, vI p4, vI 3, vI (own_x p0), vI (own_x p1), vI (own_x p2), vI (own_x p3), vR b107, vR b122, vU] [] _
                  refine XS.iconst X138.here hx rfl (hb hby at_213) ?_
                  show At p e below T138 m 214 #[vI p0, vI p1, vI p2, vI p3, vI p4, vI 3, vI (own_x p0), vI (own_x p1), vI (own_x p2), vI (own_x p3), vR b107, vR b122, vU] [(.int 1)] _
                  refine XS.goto X138.here hx rfl (pc0 := 214) (pc' := 218) rfl (hb hby at_214) (by decide) (by decide) ?_
                  show At p e below T138 m 218 #[vI p0, vI p1, vI p2, vI p3, vI p4, vI 3, vI (own_x p0), vI (own_x p1), vI (own_x p2), vI (own_x p3), vR b107, vR b122, vU] [(.int 1)] _
                  refine XS.istore X138.here hx rfl (hb hby at_218) rfl (l' := #[vI p0, vI p1, vI p2, vI p3, vI p4, vI 3, vI (own_x p0), vI (own_x p1), vI (own_x p2), vI (own_x p3), vR b107, vR b122, vI 1]) rfl ?_
                  show At p e below T138 m 220 #[vI p0, vI p1, vI p2, vI p3, vI p4, vI 3, vI (own_x p0), vI (own_x p1), vI (own_x p2), vI (own_x p3), vR b107, vR b122, vI 1] [] _
                  refine XS.aload X138.here hx rfl (hb hby at_220) rfl rfl ?_
                  exact kt)
                obtain ⟨_, _, ⟨T148, L148, kc148, nc148⟩, -, X148, ⟨Lc148, hQ148, l148, y148, z148⟩, st148⟩ := Jvm.LawKit.callS X138 hx (y := (⟨"beanforge/core/PathPattern", "isPattern", "(Ljava/lang/String;)Z"⟩ : MethodName)) hown (mvT hZ (wd hw 24 rfl)) (mvT hZ (wd hw 25 rfl)) (mvT hZ (wd hw 26 rfl)) (mvT hZ (wd hw 27 rfl)) (by decide) (backOf (W := 0) (rm4 l Z a0 hw [] b122 cs (3 : Int32) (6 : Int32) _ _ _ _ [(nar .char (own_x p0)), (nar .char (own_x p1)), (nar .char (own_x p2))] T128.heap n0 o146 SC hcs S128 (by decide) (fun _ => by decide) (fun kk ab kb V ch hc => rm10 l Z a0 hw [] ab kb ch _ (3 : Int32) _ T128.heap n0 z130 V (by decide) (rm18_3 l Z a0 hw [] ab kb ch (nar .char (own_x p0)) (nar .char (own_x p1)) (nar .char (own_x p2)) T128.heap n0 z130 V (own_Rn _) (own_Rn _) (own_Rn _) kk.1 kk.2.1 kk.2.2.1 hc) hc) (fun _ ab kb V ch hc => rm24 l Z a0 hw [] ab kb ch u _ (6 : Int32) (3 : Int32) _ T128.heap n0 o146 hu SF V (by decide) (by decide) (by decide) (rm30_3 l Z a0 hw [] ab kb ch (nar .char (own_x p0)) (nar .char (own_x p1)) (nar .char (own_x p2)) T128.heap n0 o146 SA SH SL V (own_Rn _) (own_Rn _) (own_Rn _)) hc)) hZ (wd hw 27 rfl) (wd hw 26 rfl) (by decide) (by decide)) (g := (mkF m 222 #[vI p0, vI p1, vI p2, vI p3, vI p4, vI 3, vI (own_x p0), vI (own_x p1), vI (own_x p2), vI (own_x p3), vR b107, vR b122, vI 1] [(.ref b122)])) rfl (by rw [hml]; rfl) (argsL := [(.ref b122)]) (rest := []) (lenOf pd_19 rfl) rfl (by show 2 * 0 + _ ≤ _; exact Nat.le_of_eq rfl) (hb hby at_222) (fun _ _ => ⟨rfl, he138, (by decide : 4 + 0 ≤ _), (by decide : 16 + 0 ≤ _)⟩)
                dsimp only [Pt.U, Pt.locs, Pt.cells, Pt.slots] at X148 l148 y148 z148 st148 hQ148
                subst l148 y148 z148
                obtain ⟨r148, rfl, N148q, he148, hr148⟩ := hQ148
                have N148 := Fr.app N138 N148q
                have pre149 := fun t (kt : At p e below T148 m 225 #[vI p0, vI p1, vI p2, vI p3, vI p4, vI 3, vI (own_x p0), vI (own_x p1), vI (own_x p2), vI (own_x p3), vR b107, vR b122, vI 1] [(.int r148)] t) => pre147 t (st148 _ kt)
                have hv : r148 = (1 : Int32) := own_r1 hr148 (own_wt (own_wt (own_w1 (by rw [own_nc]; exact d3))))
                have pre150 := fun t (kt : At p e below T148 m 235 #[vI p0, vI p1, vI p2, vI p3, vI p4, vI 3, vI (own_x p0), vI (own_x p1), vI (own_x p2), vI (own_x p3), vR b107, vR b122, vI 1] [(.int 1)] t) => pre149 t (by
                  show At p e below T148 m 225 #[vI p0, vI p1, vI p2, vI p3, vI p4, vI 3, vI (own_x p0), vI (own_x p1), vI (own_x p2), vI (own_x p3), vR b107, vR b122, vI 1] [(.int r148)] _
                  rw [show r148 = (1 : Int32) from hv]
                  show At p e below T148 m 225 #[vI p0, vI p1, vI p2, vI p3, vI p4, vI 3, vI (own_x p0), vI (own_x p1), vI (own_x p2), vI (own_x p3), vR b107, vR b122, vI 1] [(.int 1)] _
                  refine XS.iload X148.here hx rfl (hb hby at_225) rfl ?_
                  show At p e below T148 m 227 #[vI p0, vI p1, vI p2, vI p3, vI p4, vI 3, vI (own_x p0), vI (own_x p1), vI (own_x p2), vI (own_x p3), vR b107, vR b122, vI 1] [(.int 1), (.int 1)] _
                  refine XS.icmpNo X148.here hx rfl (hb hby at_227) rfl (teq (by decide : (1 : Int32) = (1 : Int32))).2 ?_
                  show At p e below T148 m 230 #[vI p0, vI p1, vI p2, vI p3, vI p4, vI 3, vI (own_x p0), vI (own_x p1), vI (own_x p2), vI (own_x p3), vR b107, vR b122, vI 1] [] _
                  refine XS.iconst X148.here hx rfl (hb hby at_230) ?_
                  show At p e below T148 m 231 #[vI p0, vI p1, vI p2, vI p3, vI p4, vI 3, vI (own_x p0), vI (own_x p1), vI (own_x p2), vI (own_x p3), vR b107, vR b122, vI 1] [(.int 1)] _
                  refine XS.goto X148.here hx rfl (pc0 := 231) (pc' := 235) rfl (hb hby at_231) (by decide) (by decide) ?_
                  exact kt)
                have hk151 := (Nat.le_trans (Nat.le_trans (Nat.le_trans (Nat.le_trans (Nat.le_trans (Nat.le_trans hk E107.1) (Keep.of_wr W111).1) (Keep.of_wr W115).1) (Keep.of_wr W119).1) E122.1) K128.1)
                obtain ⟨fs, hr, hrun, hended, -, hW, hI, hsame⟩ := X148.leaveW hS (he148.symm ▸ hk151) (v := (some (.int 1))) (fun h => by rw [Bd.returns] at h; cases h)
                refine ⟨_, _, pre150 _ ?_, hrun, hended, _, _, rfl, ?_, ⟨_, rfl⟩, hW, hI, hsame.mono (by decide) (by decide)⟩
                · show At p e below T148 m 235 #[vI p0, vI p1, vI p2, vI p3, vI p4, vI 3, vI (own_x p0), vI (own_x p1), vI (own_x p2), vI (own_x p3), vR b107, vR b122, vI 1] [(.int 1)] _
                  exact retN X148 hx (t := .boolean) Bd.returns (by simp) (hb hby at_235) hr
                · show Q0 Z p0 p1 p2 p3 p4 cs u h0 n0 _ T148.heap _
                  rw [he148]
                  exact ⟨rfl, N148⟩
            · have o152 : Old Z n0 T128.heap := (o125.keep K128 (allS gg_b122 all0))
              have pre153 := fun t (kt : At p e below T135 m 222 #[vI p0, vI p1, vI p2, vI p3, vI p4, vI 3, vI (own_x p0), vI (own_x p1), vI (own_x p2), vI (own_x p3), vR b107, vR b122, vI 1] [(.ref b122)] t) => pre136 t (by
                show At p e below T135 m 182 #[vI p0, vI p1, vI p2, vI p3, vI p4, vI 3, vI (own_x p0), vI (own_x p1), vI (own_x p2), vI (own_x p3), vR b107, vR b122, vU] [(.int (own_w (own_x p1)))] _
                refine XS.ifYes X135.here hx rfl (pc0 := 182) (pc' := 213) rfl (hb hby at_182) rfl ((if0 _ _).trans (feq (d2 : ¬ ((own_w (own_x p1)) = (0 : Int32)))).2) (by decide) (by decide) ?_
                show At p e below T135 m 213 #[vI p0, vI p1, vI p2, vI p3, vI p4, vI 3, vI (own_x p0), vI (own_x p1), vI (own_x p2), vI (own_x p3), vR b107, vR b122, vU] [] _
                refine XS.iconst X135.here hx rfl (hb hby at_213) ?_
                show At p e below T135 m 214 #[vI p0, vI p1, vI p2, vI p3, vI p4, vI 3, vI (own_x p0), vI (own_x p1), vI (own_x p2), vI (own_x p3), vR b107, vR b122, vU] [(.int 1)] _
                refine XS.goto X135.here hx rfl (pc0 := 214) (pc' := 218) rfl (hb hby at_214) (by decide) (by decide) ?_
                show At p e below T135 m 218 #[vI p0, vI p1, vI p2, vI p3, vI p4, vI 3, vI (own_x p0), vI (own_x p1), vI (own_x p2), vI (own_x p3), vR b107, vR b122, vU] [(.int 1)] _
                refine XS.istore X135.here hx rfl (hb hby at_218) rfl (l' := #[vI p0, vI p1, vI p2, vI p3, vI p4, vI 3, vI (own_x p0), vI (own_x p1), vI (own_x p2), vI (own_x p3), vR b107, vR b122, vI 1]) rfl ?_
                show At p e below T135 m 220 #[vI p0, vI p1, vI p2, vI p3, vI p4, vI 3, vI (own_x p0), vI (own_x p1), vI (own_x p2), vI (own_x p3), vR b107, vR b122, vI 1] [] _
                refine XS.aload X135.here hx rfl (hb hby at_220) rfl rfl ?_
                exact kt)
              obtain ⟨_, _, ⟨T154, L154, kc154, nc154⟩, -, X154, ⟨Lc154, hQ154, l154, y154, z154⟩, st154⟩ := Jvm.LawKit.callS X135 hx (y := (⟨"beanforge/core/PathPattern", "isPattern", "(Ljava/lang/String;)Z"⟩ : MethodName)) hown (mvT hZ (wd hw 24 rfl)) (mvT hZ (wd hw 25 rfl)) (mvT hZ (wd hw 26 rfl)) (mvT hZ (wd hw 27 rfl)) (by decide) (backOf (W := 0) (rm4 l Z a0 hw [] b122 cs (3 : Int32) (6 : Int32) _ _ _ _ [(nar .char (own_x p0)), (nar .char (own_x p1)), (nar .char (own_x p2))] T128.heap n0 o152 SC hcs S128 (by decide) (fun _ => by decide) (fun kk ab kb V ch hc => rm10 l Z a0 hw [] ab kb ch _ (3 : Int32) _ T128.heap n0 z130 V (by decide) (rm18_3 l Z a0 hw [] ab kb ch (nar .char (own_x p0)) (nar .char (own_x p1)) (nar .char (own_x p2)) T128.heap n0 z130 V (own_Rn _) (own_Rn _) (own_Rn _) kk.1 kk.2.1 kk.2.2.1 hc) hc) (fun _ ab kb V ch hc => rm24 l Z a0 hw [] ab kb ch u _ (6 : Int32) (3 : Int32) _ T128.heap n0 o152 hu SF V (by decide) (by decide) (by decide) (rm30_3 l Z a0 hw [] ab kb ch (nar .char (own_x p0)) (nar .char (own_x p1)) (nar .char (own_x p2)) T128.heap n0 o152 SA SH SL V (own_Rn _) (own_Rn _) (own_Rn _)) hc)) hZ (wd hw 27 rfl) (wd hw 26 rfl) (by decide) (by decide)) (g := (mkF m 222 #[vI p0, vI p1, vI p2, vI p3, vI p4, vI 3, vI (own_x p0), vI (own_x p1), vI (own_x p2), vI (own_x p3), vR b107, vR b122, vI 1] [(.ref b122)])) rfl (by rw [hml]; rfl) (argsL := [(.ref b122)]) (rest := []) (lenOf pd_19 rfl) rfl (by show 2 * 0 + _ ≤ _; exact Nat.le_of_eq rfl) (hb hby at_222) (fun _ _ => ⟨rfl, he135, (by decide : 4 + 0 ≤ _), (by decide : 16 + 0 ≤ _)⟩)
              dsimp only [Pt.U, Pt.locs, Pt.cells, Pt.slots] at X154 l154 y154 z154 st154 hQ154
              subst l154 y154 z154
              obtain ⟨r154, rfl, N154q, he154, hr154⟩ := hQ154
              have N154 := Fr.app N135 N154q
              have pre155 := fun t (kt : At p e below T154 m 225 #[vI p0, vI p1, vI p2, vI p3, vI p4, vI 3, vI (own_x p0), vI (own_x p1), vI (own_x p2), vI (own_x p3), vR b107, vR b122, vI 1] [(.int r154)] t) => pre153 t (st154 _ kt)
              have hv : r154 = (1 : Int32) := own_r1 hr154 (own_wt (own_w1 (by rw [own_nc]; exact d2)))
              have pre156 := fun t (kt : At p e below T154 m 235 #[vI p0, vI p1, vI p2, vI p3, vI p4, vI 3, vI (own_x p0), vI (own_x p1), vI (own_x p2), vI (own_x p3), vR b107, vR b122, vI 1] [(.int 1)] t) => pre155 t (by
                show At p e below T154 m 225 #[vI p0, vI p1, vI p2, vI p3, vI p4, vI 3, vI (own_x p0), vI (own_x p1), vI (own_x p2), vI (own_x p3), vR b107, vR b122, vI 1] [(.int r154)] _
                rw [show r154 = (1 : Int32) from hv]
                show At p e below T154 m 225 #[vI p0, vI p1, vI p2, vI p3, vI p4, vI 3, vI (own_x p0), vI (own_x p1), vI (own_x p2), vI (own_x p3), vR b107, vR b122, vI 1] [(.int 1)] _
                refine XS.iload X154.here hx rfl (hb hby at_225) rfl ?_
                show At p e below T154 m 227 #[vI p0, vI p1, vI p2, vI p3, vI p4, vI 3, vI (own_x p0), vI (own_x p1), vI (own_x p2), vI (own_x p3), vR b107, vR b122, vI 1] [(.int 1), (.int 1)] _
                refine XS.icmpNo X154.here hx rfl (hb hby at_227) rfl (teq (by decide : (1 : Int32) = (1 : Int32))).2 ?_
                show At p e below T154 m 230 #[vI p0, vI p1, vI p2, vI p3, vI p4, vI 3, vI (own_x p0), vI (own_x p1), vI (own_x p2), vI (own_x p3), vR b107, vR b122, vI 1] [] _
                refine XS.iconst X154.here hx rfl (hb hby at_230) ?_
                show At p e below T154 m 231 #[vI p0, vI p1, vI p2, vI p3, vI p4, vI 3, vI (own_x p0), vI (own_x p1), vI (own_x p2), vI (own_x p3), vR b107, vR b122, vI 1] [(.int 1)] _
                refine XS.goto X154.here hx rfl (pc0 := 231) (pc' := 235) rfl (hb hby at_231) (by decide) (by decide) ?_
                exact kt)
              have hk157 := (Nat.le_trans (Nat.le_trans (Nat.le_trans (Nat.le_trans (Nat.le_trans (Nat.le_trans hk E107.1) (Keep.of_wr W111).1) (Keep.of_wr W115).1) (Keep.of_wr W119).1) E122.1) K128.1)
              obtain ⟨fs, hr, hrun, hended, -, hW, hI, hsame⟩ := X154.leaveW hS (he154.symm ▸ hk157) (v := (some (.int 1))) (fun h => by rw [Bd.returns] at h; cases h)
              refine ⟨_, _, pre156 _ ?_, hrun, hended, _, _, rfl, ?_, ⟨_, rfl⟩, hW, hI, hsame.mono (by decide) (by decide)⟩
              · show At p e below T154 m 235 #[vI p0, vI p1, vI p2, vI p3, vI p4, vI 3, vI (own_x p0), vI (own_x p1), vI (own_x p2), vI (own_x p3), vR b107, vR b122, vI 1] [(.int 1)] _
                exact retN X154 hx (t := .boolean) Bd.returns (by simp) (hb hby at_235) hr
              · show Q0 Z p0 p1 p2 p3 p4 cs u h0 n0 _ T154.heap _
                rw [he154]
                exact ⟨rfl, N154⟩
          · have o158 : Old Z n0 T128.heap := (o125.keep K128 (allS gg_b122 all0))
            have pre159 := fun t (kt : At p e below T132 m 222 #[vI p0, vI p1, vI p2, vI p3, vI p4, vI 3, vI (own_x p0), vI (own_x p1), vI (own_x p2), vI (own_x p3), vR b107, vR b122, vI 1] [(.ref b122)] t) => pre133 t (by
              show At p e below T132 m 168 #[vI p0, vI p1, vI p2, vI p3, vI p4, vI 3, vI (own_x p0), vI (own_x p1), vI (own_x p2), vI (own_x p3), vR b107, vR b122, vU] [(.int (own_w (own_x p0)))] _
              refine XS.ifYes X132.here hx rfl (pc0 := 168) (pc' := 213) rfl (hb hby at_168) rfl ((if0 _ _).trans (feq (d1 : ¬ ((own_w (own_x p0)) = (0 : Int32)))).2) (by decide) (by decide) ?_
              show At p e below T132 m 213 #[vI p0, vI p1, vI p2, vI p3, vI p4, vI 3, vI (own_x p0), vI (own_x p1), vI (own_x p2), vI (own_x p3), vR b107, vR b122, vU] [] _
              refine XS.iconst X132.here hx rfl (hb hby at_213) ?_
              show At p e below T132 m 214 #[vI p0, vI p1, vI p2, vI p3, vI p4, vI 3, vI (own_x p0), vI (own_x p1), vI (own_x p2), vI (own_x p3), vR b107, vR b122, vU] [(.int 1)] _
              refine XS.goto X132.here hx rfl (pc0 := 214) (pc' := 218) rfl (hb hby at_214) (by decide) (by decide) ?_
              show At p e below T132 m 218 #[vI p0, vI p1, vI p2, vI p3, vI p4, vI 3, vI (own_x p0), vI (own_x p1), vI (own_x p2), vI (own_x p3), vR b107, vR b122, vU] [(.int 1)] _
              refine XS.istore X132.here hx rfl (hb hby at_218) rfl (l' := #[vI p0, vI p1, vI p2, vI p3, vI p4, vI 3, vI (own_x p0), vI (own_x p1), vI (own_x p2), vI (own_x p3), vR b107, vR b122, vI 1]) rfl ?_
              show At p e below T132 m 220 #[vI p0, vI p1, vI p2, vI p3, vI p4, vI 3, vI (own_x p0), vI (own_x p1), vI (own_x p2), vI (own_x p3), vR b107, vR b122, vI 1] [] _
              refine XS.aload X132.here hx rfl (hb hby at_220) rfl rfl ?_
              exact kt)
            obtain ⟨_, _, ⟨T160, L160, kc160, nc160⟩, -, X160, ⟨Lc160, hQ160, l160, y160, z160⟩, st160⟩ := Jvm.LawKit.callS X132 hx (y := (⟨"beanforge/core/PathPattern", "isPattern", "(Ljava/lang/String;)Z"⟩ : MethodName)) hown (mvT hZ (wd hw 24 rfl)) (mvT hZ (wd hw 25 rfl)) (mvT hZ (wd hw 26 rfl)) (mvT hZ (wd hw 27 rfl)) (by decide) (backOf (W := 0) (rm4 l Z a0 hw [] b122 cs (3 : Int32) (6 : Int32) _ _ _ _ [(nar .char (own_x p0)), (nar .char (own_x p1)), (nar .char (own_x p2))] T128.heap n0 o158 SC hcs S128 (by decide) (fun _ => by decide) (fun kk ab kb V ch hc => rm10 l Z a0 hw [] ab kb ch _ (3 : Int32) _ T128.heap n0 z130 V (by decide) (rm18_3 l Z a0 hw [] ab kb ch (nar .char (own_x p0)) (nar .char (own_x p1)) (nar .char (own_x p2)) T128.heap n0 z130 V (own_Rn _) (own_Rn _) (own_Rn _) kk.1 kk.2.1 kk.2.2.1 hc) hc) (fun _ ab kb V ch hc => rm24 l Z a0 hw [] ab kb ch u _ (6 : Int32) (3 : Int32) _ T128.heap n0 o158 hu SF V (by decide) (by decide) (by decide) (rm30_3 l Z a0 hw [] ab kb ch (nar .char (own_x p0)) (nar .char (own_x p1)) (nar .char (own_x p2)) T128.heap n0 o158 SA SH SL V (own_Rn _) (own_Rn _) (own_Rn _)) hc)) hZ (wd hw 27 rfl) (wd hw 26 rfl) (by decide) (by decide)) (g := (mkF m 222 #[vI p0, vI p1, vI p2, vI p3, vI p4, vI 3, vI (own_x p0), vI (own_x p1), vI (own_x p2), vI (own_x p3), vR b107, vR b122, vI 1] [(.ref b122)])) rfl (by rw [hml]; rfl) (argsL := [(.ref b122)]) (rest := []) (lenOf pd_19 rfl) rfl (by show 2 * 0 + _ ≤ _; exact Nat.le_of_eq rfl) (hb hby at_222) (fun _ _ => ⟨rfl, he132, (by decide : 4 + 0 ≤ _), (by decide : 16 + 0 ≤ _)⟩)
            dsimp only [Pt.U, Pt.locs, Pt.cells, Pt.slots] at X160 l160 y160 z160 st160 hQ160
            subst l160 y160 z160
            obtain ⟨r160, rfl, N160q, he160, hr160⟩ := hQ160
            have N160 := Fr.app N132 N160q
            have pre161 := fun t (kt : At p e below T160 m 225 #[vI p0, vI p1, vI p2, vI p3, vI p4, vI 3, vI (own_x p0), vI (own_x p1), vI (own_x p2), vI (own_x p3), vR b107, vR b122, vI 1] [(.int r160)] t) => pre159 t (st160 _ kt)
            have hv : r160 = (1 : Int32) := own_r1 hr160 (own_w1 (by rw [own_nc]; exact d1))
            have pre162 := fun t (kt : At p e below T160 m 235 #[vI p0, vI p1, vI p2, vI p3, vI p4, vI 3, vI (own_x p0), vI (own_x p1), vI (own_x p2), vI (own_x p3), vR b107, vR b122, vI 1] [(.int 1)] t) => pre161 t (by
              show At p e below T160 m 225 #[vI p0, vI p1, vI p2, vI p3, vI p4, vI 3, vI (own_x p0), vI (own_x p1), vI (own_x p2), vI (own_x p3), vR b107, vR b122, vI 1] [(.int r160)] _
              rw [show r160 = (1 : Int32) from hv]
              show At p e below T160 m 225 #[vI p0, vI p1, vI p2, vI p3, vI p4, vI 3, vI (own_x p0), vI (own_x p1), vI (own_x p2), vI (own_x p3), vR b107, vR b122, vI 1] [(.int 1)] _
              refine XS.iload X160.here hx rfl (hb hby at_225) rfl ?_
              show At p e below T160 m 227 #[vI p0, vI p1, vI p2, vI p3, vI p4, vI 3, vI (own_x p0), vI (own_x p1), vI (own_x p2), vI (own_x p3), vR b107, vR b122, vI 1] [(.int 1), (.int 1)] _
              refine XS.icmpNo X160.here hx rfl (hb hby at_227) rfl (teq (by decide : (1 : Int32) = (1 : Int32))).2 ?_
              show At p e below T160 m 230 #[vI p0, vI p1, vI p2, vI p3, vI p4, vI 3, vI (own_x p0), vI (own_x p1), vI (own_x p2), vI (own_x p3), vR b107, vR b122, vI 1] [] _
              refine XS.iconst X160.here hx rfl (hb hby at_230) ?_
              show At p e below T160 m 231 #[vI p0, vI p1, vI p2, vI p3, vI p4, vI 3, vI (own_x p0), vI (own_x p1), vI (own_x p2), vI (own_x p3), vR b107, vR b122, vI 1] [(.int 1)] _
              refine XS.goto X160.here hx rfl (pc0 := 231) (pc' := 235) rfl (hb hby at_231) (by decide) (by decide) ?_
              exact kt)
            have hk163 := (Nat.le_trans (Nat.le_trans (Nat.le_trans (Nat.le_trans (Nat.le_trans (Nat.le_trans hk E107.1) (Keep.of_wr W111).1) (Keep.of_wr W115).1) (Keep.of_wr W119).1) E122.1) K128.1)
            obtain ⟨fs, hr, hrun, hended, -, hW, hI, hsame⟩ := X160.leaveW hS (he160.symm ▸ hk163) (v := (some (.int 1))) (fun h => by rw [Bd.returns] at h; cases h)
            refine ⟨_, _, pre162 _ ?_, hrun, hended, _, _, rfl, ?_, ⟨_, rfl⟩, hW, hI, hsame.mono (by decide) (by decide)⟩
            · show At p e below T160 m 235 #[vI p0, vI p1, vI p2, vI p3, vI p4, vI 3, vI (own_x p0), vI (own_x p1), vI (own_x p2), vI (own_x p3), vR b107, vR b122, vI 1] [(.int 1)] _
              exact retN X160 hx (t := .boolean) Bd.returns (by simp) (hb hby at_235) hr
            · show Q0 Z p0 p1 p2 p3 p4 cs u h0 n0 _ T160.heap _
              rw [he160]
              exact ⟨rfl, N160⟩
        · have pre164 := fun t (kt : At p e below s₁ m 123 #[vI p0, vI p1, vI p2, vI p3, vI p4, vI 4, vI (own_x p0), vI (own_x p1), vI (own_x p2), vI (own_x p3), vU, vU, vU] [(.int 4)] t) => pre105 t (by
            show At p e below s₁ m 96 #[vI p0, vI p1, vI p2, vI p3, vI p4, vI (own_nn p4), vI (own_x p0), vI (own_x p1), vI (own_x p2), vI (own_x p3), vU, vU, vU] [(.int 3), (.int (own_nn p4))] _
            refine XS.icmpYes X0.here hx rfl (pc0 := 96) (pc' := 122) rfl (hb hby at_96) rfl (feq (nn3 : ¬ ((own_nn p4) = (3 : Int32)))).2 (by decide) (by decide) ?_
            show At p e below s₁ m 122 #[vI p0, vI p1, vI p2, vI p3, vI p4, vI (own_nn p4), vI (own_x p0), vI (own_x p1), vI (own_x p2), vI (own_x p3), vU, vU, vU] [] _
            rw [show (own_nn p4) = (4 : Int32) from own_n4 nn0 nn1 nn2 nn3]
            show At p e below s₁ m 122 #[vI p0, vI p1, vI p2, vI p3, vI p4, vI 4, vI (own_x p0), vI (own_x p1), vI (own_x p2), vI (own_x p3), vU, vU, vU] [] _
            refine XS.iconst X0.here hx rfl (hb hby at_122) ?_
            exact kt)
          obtain ⟨T165, h165, k165, X165, e165, E165, A165, st165⟩ := newP X0 hx hZ (wd hw 2 rfl) e0 (g := (mkF m 123 #[vI p0, vI p1, vI p2, vI p3, vI p4, vI 4, vI (own_x p0), vI (own_x p1), vI (own_x p2), vI (own_x p3), vU, vU, vU] [(.int 4)])) rfl (hb hby at_123) rfl (by decide) (cap := 4) (by decide) (by decide) (by decide) (by decide)
          obtain ⟨b165, gq165⟩ : ∃ z, z = h0.size := ⟨_, rfl⟩
          rw [← gq165] at A165 st165
          have gg_b165 : n0 ≤ b165 := Nat.le_trans Z0 (Nat.le_of_eq gq165.symm)
          have V165 : Arv Z h165 b165 k165 .char (4 : Int32) [(.int 0), (.int 0), (.int 0), (.int 0)] (.int 0) := (Arv.new A165 (by decide)).pad (pad_rep [] (.int 0) 4)
          have pre166 := fun t (kt : At p e below T165 m 125 #[vI p0, vI p1, vI p2, vI p3, vI p4, vI 4, vI (own_x p0), vI (own_x p1), vI (own_x p2), vI (own_x p3), vU, vU, vU] [(.ref b165)] t) => pre164 t (st165 _ kt)
          obtain ⟨cl167, Ar167, qk167, Sz167, Nn167, Hh167, Gg167⟩ := id V165
          have hin167 : ¬ ((0 : Int32) < 0 ∨ cl167.slots.size ≤ ((0 : Int32)).toNatClampNeg) := inb_of Sz167 ⟨by decide, by decide⟩
          have pre168 := fun t (kt : At p e below T165 m 129 #[vI p0, vI p1, vI p2, vI p3, vI p4, vI 4, vI (own_x p0), vI (own_x p1), vI (own_x p2), vI (own_x p3), vU, vU, vU] [(.int (own_x p0)), (.int 0), (.ref b165), (.ref b165)] t) => pre166 t (by
            show At p e below T165 m 125 #[vI p0, vI p1, vI p2, vI p3, vI p4, vI 4, vI (own_x p0), vI (own_x p1), vI (own_x p2), vI (own_x p3), vU, vU, vU] [(.ref b165)] _
            refine XS.dup X165.here hx rfl (hb hby at_125) rfl rfl ?_
            show At p e below T165 m 126 #[vI p0, vI p1, vI p2, vI p3, vI p4, vI 4, vI (own_x p0), vI (own_x p1), vI (own_x p2), vI (own_x p3), vU, vU, vU] [(.ref b165), (.ref b165)] _
            refine XS.iconst X165.here hx rfl (hb hby at_126) ?_
            show At p e below T165 m 127 #[vI p0, vI p1, vI p2, vI p3, vI p4, vI 4, vI (own_x p0), vI (own_x p1), vI (own_x p2), vI (own_x p3), vU, vU, vU] [(.int 0), (.ref b165), (.ref b165)] _
            refine XS.iload X165.here hx rfl (hb hby at_127) rfl ?_
            exact kt)
          obtain ⟨T169, h169, X169, e169, W169, st169⟩ := stC X165 hx hZ e165 Ar167 (j := (0 : Int32)) hin167 (g := (mkF m 129 #[vI p0, vI p1, vI p2, vI p3, vI p4, vI 4, vI (own_x p0), vI (own_x p1), vI (own_x p2), vI (own_x p3), vU, vU, vU] [(.int (own_x p0)), (.int 0), (.ref b165), (.ref b165)])) rfl rfl (hb hby at_129)
          have V169 := Arv.set Ar167 qk167 Sz167 Nn167 Hh167 Gg167 (fits_nar_char _) W169 0 rfl (Nat.le_of_ble_eq_true rfl)
          have V169' : Arv Z h169 b165 k165 .char (4 : Int32) [(.int (nar .char (own_x p0))), (.int 0), (.int 0), (.int 0)] (.int 0) := V169
          have N169 := Fr.snoc X169 N0 gg_b165
          have pre170 := fun t (kt : At p e below T169 m 130 #[vI p0, vI p1, vI p2, vI p3, vI p4, vI 4, vI (own_x p0), vI (own_x p1), vI (own_x p2), vI (own_x p3), vU, vU, vU] [(.ref b165)] t) => pre168 t (st169 _ kt)
          obtain ⟨cl171, Ar171, qk171, Sz171, Nn171, Hh171, Gg171⟩ := id V169'
          have hin171 : ¬ ((1 : Int32) < 0 ∨ cl171.slots.size ≤ ((1 : Int32)).toNatClampNeg) := inb_of Sz171 ⟨by decide, by decide⟩
          have pre172 := fun t (kt : At p e below T169 m 134 #[vI p0, vI p1, vI p2, vI p3, vI p4, vI 4, vI (own_x p0), vI (own_x p1), vI (own_x p2), vI (own_x p3), vU, vU, vU] [(.int (own_x p1)), (.int 1), (.ref b165), (.ref b165)] t) => pre170 t (by
            show At p e below T169 m 130 #[vI p0, vI p1, vI p2, vI p3, vI p4, vI 4, vI (own_x p0), vI (own_x p1), vI (own_x p2), vI (own_x p3), vU, vU, vU] [(.ref b165)] _
            refine XS.dup X169.here hx rfl (hb hby at_130) rfl rfl ?_
            show At p e below T169 m 131 #[vI p0, vI p1, vI p2, vI p3, vI p4, vI 4, vI (own_x p0), vI (own_x p1), vI (own_x p2), vI (own_x p3), vU, vU, vU] [(.ref b165), (.ref b165)] _
            refine XS.iconst X169.here hx rfl (hb hby at_131) ?_
            show At p e below T169 m 132 #[vI p0, vI p1, vI p2, vI p3, vI p4, vI 4, vI (own_x p0), vI (own_x p1), vI (own_x p2), vI (own_x p3), vU, vU, vU] [(.int 1), (.ref b165), (.ref b165)] _
            refine XS.iload X169.here hx rfl (hb hby at_132) rfl ?_
            exact kt)
          obtain ⟨T173, h173, X173, e173, W173, st173⟩ := stC X169 hx hZ e169 Ar171 (j := (1 : Int32)) hin171 (g := (mkF m 134 #[vI p0, vI p1, vI p2, vI p3, vI p4, vI 4, vI (own_x p0), vI (own_x p1), vI (own_x p2), vI (own_x p3), vU, vU, vU] [(.int (own_x p1)), (.int 1), (.ref b165), (.ref b165)])) rfl rfl (hb hby at_134)
          have V173 := Arv.set Ar171 qk171 Sz171 Nn171 Hh171 Gg171 (fits_nar_char _) W173 1 rfl (Nat.le_of_ble_eq_true rfl)
          have V173' : Arv Z h173 b165 k165 .char (4 : Int32) [(.int (nar .char (own_x p0))), (.int (nar .char (own_x p1))), (.int 0), (.int 0)] (.int 0) := V173
          have N173 := Fr.snoc X173 N169 gg_b165
          have pre174 := fun t (kt : At p e below T173 m 135 #[vI p0, vI p1, vI p2, vI p3, vI p4, vI 4, vI (own_x p0), vI (own_x p1), vI (own_x p2), vI (own_x p3), vU, vU, vU] [(.ref b165)] t) => pre172 t (st173 _ kt)
          obtain ⟨cl175, Ar175, qk175, Sz175, Nn175, Hh175, Gg175⟩ := id V173'
          have hin175 : ¬ ((2 : Int32) < 0 ∨ cl175.slots.size ≤ ((2 : Int32)).toNatClampNeg) := inb_of Sz175 ⟨by decide, by decide⟩
          have pre176 := fun t (kt : At p e below T173 m 139 #[vI p0, vI p1, vI p2, vI p3, vI p4, vI 4, vI (own_x p0), vI (own_x p1), vI (own_x p2), vI (own_x p3), vU, vU, vU] [(.int (own_x p2)), (.int 2), (.ref b165), (.ref b165)] t) => pre174 t (by
            show At p e below T173 m 135 #[vI p0, vI p1, vI p2, vI p3, vI p4, vI 4, vI (own_x p0), vI (own_x p1), vI (own_x p2), vI (own_x p3), vU, vU, vU] [(.ref b165)] _
            refine XS.dup X173.here hx rfl (hb hby at_135) rfl rfl ?_
            show At p e below T173 m 136 #[vI p0, vI p1, vI p2, vI p3, vI p4, vI 4, vI (own_x p0), vI (own_x p1), vI (own_x p2), vI (own_x p3), vU, vU, vU] [(.ref b165), (.ref b165)] _
            refine XS.iconst X173.here hx rfl (hb hby at_136) ?_
            show At p e below T173 m 137 #[vI p0, vI p1, vI p2, vI p3, vI p4, vI 4, vI (own_x p0), vI (own_x p1), vI (own_x p2), vI (own_x p3), vU, vU, vU] [(.int 2), (.ref b165), (.ref b165)] _
            refine XS.iload X173.here hx rfl (hb hby at_137) rfl ?_
            exact kt)
          obtain ⟨T177, h177, X177, e177, W177, st177⟩ := stC X173 hx hZ e173 Ar175 (j := (2 : Int32)) hin175 (g := (mkF m 139 #[vI p0, vI p1, vI p2, vI p3, vI p4, vI 4, vI (own_x p0), vI (own_x p1), vI (own_x p2), vI (own_x p3), vU, vU, vU] [(.int (own_x p2)), (.int 2), (.ref b165), (.ref b165)])) rfl rfl (hb hby at_139)
          have V177 := Arv.set Ar175 qk175 Sz175 Nn175 Hh175 Gg175 (fits_nar_char _) W177 2 rfl (Nat.le_of_ble_eq_true rfl)
          have V177' : Arv Z h177 b165 k165 .char (4 : Int32) [(.int (nar .char (own_x p0))), (.int (nar .char (own_x p1))), (.int (nar .char (own_x p2))), (.int 0)] (.int 0) := V177
          have N177 := Fr.snoc X177 N173 gg_b165
          have pre178 := fun t (kt : At p e below T177 m 140 #[vI p0, vI p1, vI p2, vI p3, vI p4, vI 4, vI (own_x p0), vI (own_x p1), vI (own_x p2), vI (own_x p3), vU, vU, vU] [(.ref b165)] t) => pre176 t (st177 _ kt)
          obtain ⟨cl179, Ar179, qk179, Sz179, Nn179, Hh179, Gg179⟩ := id V177'
          have hin179 : ¬ ((3 : Int32) < 0 ∨ cl179.slots.size ≤ ((3 : Int32)).toNatClampNeg) := inb_of Sz179 ⟨by decide, by decide⟩
          have pre180 := fun t (kt : At p e below T177 m 144 #[vI p0, vI p1, vI p2, vI p3, vI p4, vI 4, vI (own_x p0), vI (own_x p1), vI (own_x p2), vI (own_x p3), vU, vU, vU] [(.int (own_x p3)), (.int 3), (.ref b165), (.ref b165)] t) => pre178 t (by
            show At p e below T177 m 140 #[vI p0, vI p1, vI p2, vI p3, vI p4, vI 4, vI (own_x p0), vI (own_x p1), vI (own_x p2), vI (own_x p3), vU, vU, vU] [(.ref b165)] _
            refine XS.dup X177.here hx rfl (hb hby at_140) rfl rfl ?_
            show At p e below T177 m 141 #[vI p0, vI p1, vI p2, vI p3, vI p4, vI 4, vI (own_x p0), vI (own_x p1), vI (own_x p2), vI (own_x p3), vU, vU, vU] [(.ref b165), (.ref b165)] _
            refine XS.iconst X177.here hx rfl (hb hby at_141) ?_
            show At p e below T177 m 142 #[vI p0, vI p1, vI p2, vI p3, vI p4, vI 4, vI (own_x p0), vI (own_x p1), vI (own_x p2), vI (own_x p3), vU, vU, vU] [(.int 3), (.ref b165), (.ref b165)] _
            refine XS.iload X177.here hx rfl (hb hby at_142) rfl ?_
            exact kt)
          obtain ⟨T181, h181, X181, e181, W181, st181⟩ := stC X177 hx hZ e177 Ar179 (j := (3 : Int32)) hin179 (g := (mkF m 144 #[vI p0, vI p1, vI p2, vI p3, vI p4, vI 4, vI (own_x p0), vI (own_x p1), vI (own_x p2), vI (own_x p3), vU, vU, vU] [(.int (own_x p3)), (.int 3), (.ref b165), (.ref b165)])) rfl rfl (hb hby at_144)
          have V181 := Arv.set Ar179 qk179 Sz179 Nn179 Hh179 Gg179 (fits_nar_char _) W181 3 rfl (Nat.le_of_ble_eq_true rfl)
          have V181' : Arv Z h181 b165 k165 .char (4 : Int32) [(.int (nar .char (own_x p0))), (.int (nar .char (own_x p1))), (.int (nar .char (own_x p2))), (.int (nar .char (own_x p3)))] (.int 0) := V181
          have N181 := Fr.snoc X181 N177 gg_b165
          have pre182 := fun t (kt : At p e below T181 m 145 #[vI p0, vI p1, vI p2, vI p3, vI p4, vI 4, vI (own_x p0), vI (own_x p1), vI (own_x p2), vI (own_x p3), vU, vU, vU] [(.ref b165)] t) => pre180 t (st181 _ kt)
          have pre183 := fun t (kt : At p e below T181 m 147 #[vI p0, vI p1, vI p2, vI p3, vI p4, vI 4, vI (own_x p0), vI (own_x p1), vI (own_x p2), vI (own_x p3), vR b165, vU, vU] [] t) => pre182 t (by
            show At p e below T181 m 145 #[vI p0, vI p1, vI p2, vI p3, vI p4, vI 4, vI (own_x p0), vI (own_x p1), vI (own_x p2), vI (own_x p3), vU, vU, vU] [(.ref b165)] _
            refine XS.astore X181.here hx rfl (hb hby at_145) rfl rfl (l' := #[vI p0, vI p1, vI p2, vI p3, vI p4, vI 4, vI (own_x p0), vI (own_x p1), vI (own_x p2), vI (own_x p3), vR b165, vU, vU]) rfl ?_
            exact kt)
          obtain ⟨T184, h184, X184, e184, E184, A184, D184, -, st184⟩ := newO X181 hx hZ hown (wd hw 3 rfl) (wd hw 4 rfl) (wd hw 5 rfl) e181 (g := (mkF m 147 #[vI p0, vI p1, vI p2, vI p3, vI p4, vI 4, vI (own_x p0), vI (own_x p1), vI (own_x p2), vI (own_x p3), vR b165, vU, vU] [])) rfl (hb hby at_147) (by decide) (by decide)
          obtain ⟨b184, gq184⟩ : ∃ z, z = h181.size := ⟨_, rfl⟩
          rw [← gq184] at A184 D184 st184
          have z185 : n0 ≤ h181.size := (Nat.le_trans (Nat.le_trans (Nat.le_trans (Nat.le_trans (Nat.le_trans Z0 E165.1) (Keep.of_wr W169).1) (Keep.of_wr W173).1) (Keep.of_wr W177).1) (Keep.of_wr W181).1)
          have gg_b184 : n0 ≤ b184 := Nat.le_trans z185 (Nat.le_of_eq gq184.symm)
          have F184_value : Fld Z h184 b184 "java/lang/String" "value" "[B" .null := D184 (Or.inr (wd hw 18 rfl)) (ty := (.array .byte)) (by decide)
          have F184_coder : Fld Z h184 b184 "java/lang/String" "coder" "B" (.int 0) := D184 (Or.inr (wd hw 19 rfl)) (ty := .byte) (by decide)
          have pre186 := fun t (kt : At p e below T184 m 150 #[vI p0, vI p1, vI p2, vI p3, vI p4, vI 4, vI (own_x p0), vI (own_x p1), vI (own_x p2), vI (own_x p3), vR b165, vU, vU] [(.ref b184)] t) => pre183 t (st184 _ kt)
          have o187 : Old Z n0 h184 := ((((((O0.ext E165).wr W169 gg_b165).wr W173 gg_b165).wr W177 gg_b165).wr W181 gg_b165).ext E184)
          have f188 := (V181'.ext E184)
          have pre189 := fun t (kt : At p e below T184 m 153 #[vI p0, vI p1, vI p2, vI p3, vI p4, vI 4, vI (own_x p0), vI (own_x p1), vI (own_x p2), vI (own_x p3), vR b165, vU, vU] [(.ref b165), (.ref b184), (.ref b184)] t) => pre186 t (by
            show At p e below T184 m 150 #[vI p0, vI p1, vI p2, vI p3, vI p4, vI 4, vI (own_x p0), vI (own_x p1), vI (own_x p2), vI (own_x p3), vR b165, vU, vU] [(.ref b184)] _
            refine XS.dup X184.here hx rfl (hb hby at_150) rfl rfl ?_
            show At p e below T184 m 151 #[vI p0, vI p1, vI p2, vI p3, vI p4, vI 4, vI (own_x p0), vI (own_x p1), vI (own_x p2), vI (own_x p3), vR b165, vU, vU] [(.ref b184), (.ref b184)] _
            refine XS.aload X184.here hx rfl (hb hby at_151) rfl rfl ?_
            exact kt)
          obtain ⟨_, _, ⟨T190, L190, kc190, nc190⟩, -, X190, ⟨Lc190, hQ190, l190, y190, z190⟩, st190⟩ := X184.specialBack hx (y := (⟨"java/lang/String", "<init>", "([C)V"⟩ : MethodName)) rfl hown (mvT hZ (wd hw 6 rfl)) (mvT hZ (wd hw 7 rfl)) (mvT hZ (wd hw 8 rfl)) (by decide) (backOf (W := 1) (rm1_4 l Z a0 hw [] b184 b165 k165 cs (nar .char (own_x p0)) (nar .char (own_x p1)) (nar .char (own_x p2)) (nar .char (own_x p3)) h184 n0 o187 A184 F184_value F184_coder gg_b184 SC hcs SA SH SL f188 (own_Rn _) (own_Rn _) (own_Rn _) (own_Rn _)) hZ (wd hw 8 rfl) (wd hw 5 rfl) (by decide) (by decide)) (g := (mkF m 153 #[vI p0, vI p1, vI p2, vI p3, vI p4, vI 4, vI (own_x p0), vI (own_x p1), vI (own_x p2), vI (own_x p3), vR b165, vU, vU] [(.ref b165), (.ref b184), (.ref b184)])) rfl (by rw [hml]; rfl) (Steps.refl _) (a := b184) (argsL := [(.ref b165)]) (rest := [(.ref b184)]) (lenOf pd_18 rfl) rfl (by show 2 * 0 + _ ≤ _; exact Nat.le_of_eq rfl) (hb hby at_153) (fun _ _ => ⟨rfl, e184, (by decide : 2 + 2 ≤ _), (by decide : 8 + 12 ≤ _)⟩)
          dsimp only [Pt.U, Pt.locs, Pt.cells, Pt.slots] at X190 l190 y190 z190 st190 hQ190
          subst l190 y190 z190
          obtain ⟨rfl, N190q, K190, S190⟩ := hQ190
          have N190 := Fr.app N181 N190q
          have pre191 := fun t (kt : At p e below T190 m 156 #[vI p0, vI p1, vI p2, vI p3, vI p4, vI 4, vI (own_x p0), vI (own_x p1), vI (own_x p2), vI (own_x p3), vR b165, vU, vU] [(.ref b184)] t) => pre189 t (st190.trans kt)
          have z192 : n0 ≤ T190.heap.size := (Nat.le_trans (Nat.le_trans z185 E184.1) K190.1)
          have pre193 := fun t (kt : At p e below T190 m 165 #[vI p0, vI p1, vI p2, vI p3, vI p4, vI 4, vI (own_x p0), vI (own_x p1), vI (own_x p2), vI (own_x p3), vR b165, vR b184, vU] [(.int (own_x p0))] t) => pre191 t (by
            show At p e below T190 m 156 #[vI p0, vI p1, vI p2, vI p3, vI p4, vI 4, vI (own_x p0), vI (own_x p1), vI (own_x p2), vI (own_x p3), vR b165, vU, vU] [(.ref b184)] _
            refine XS.astore X190.here hx rfl (hb hby at_156) rfl rfl (l' := #[vI p0, vI p1, vI p2, vI p3, vI p4, vI 4, vI (own_x p0), vI (own_x p1), vI (own_x p2), vI (own_x p3), vR b165, vR b184, vU]) rfl ?_
            show At p e below T190 m 158 #[vI p0, vI p1, vI p2, vI p3, vI p4, vI 4, vI (own_x p0), vI (own_x p1), vI (own_x p2), vI (own_x p3), vR b165, vR b184, vU] [] _
            refine XS.iload X190.here hx rfl (hb hby at_158) rfl ?_
            show At p e below T190 m 160 #[vI p0, vI p1, vI p2, vI p3, vI p4, vI 4, vI (own_x p0), vI (own_x p1), vI (own_x p2), vI (own_x p3), vR b165, vR b184, vU] [(.int 4)] _
            refine XS.ifNo X190.here hx rfl (hb hby at_160) rfl ((if0 _ _).trans (tlt (by decide : (0 : Int32) < (4 : Int32))).2.2.2) ?_
            show At p e below T190 m 163 #[vI p0, vI p1, vI p2, vI p3, vI p4, vI 4, vI (own_x p0), vI (own_x p1), vI (own_x p2), vI (own_x p3), vR b165, vR b184, vU] [] _
            refine XS.iload X190.here hx rfl (hb hby at_163) rfl ?_
            exact kt)
          obtain ⟨_, _, ⟨T194, L194, kc194, nc194⟩, -, X194, ⟨Lc194, hQ194, l194, y194, z194⟩, st194⟩ := Jvm.LawKit.callS X190 hx (y := (⟨"beanforge/core/PathPatternIsPatternPinLaw", "wild", "(C)Z"⟩ : MethodName)) hown (mvT hZ (wd hw 78 rfl)) (mvT hZ (wd hw 79 rfl)) (mvT hZ (wd hw 80 rfl)) (mvT hZ (wd hw 81 rfl)) (by decide) (backOf (W := 0) (rm17 l Z a0 hw [] (own_x p0) T190.heap n0 z192) hZ (wd hw 81 rfl) (wd hw 80 rfl) (by decide) (by decide)) (g := (mkF m 165 #[vI p0, vI p1, vI p2, vI p3, vI p4, vI 4, vI (own_x p0), vI (own_x p1), vI (own_x p2), vI (own_x p3), vR b165, vR b184, vU] [(.int (own_x p0))])) rfl (by rw [hml]; rfl) (argsL := [(.int (own_x p0))]) (rest := []) (lenOf pd_20 rfl) rfl (by show 2 * 0 + _ ≤ _; exact Nat.le_of_eq rfl) (hb hby at_165) (fun _ _ => ⟨rfl, rfl, (by decide : 4 + 0 ≤ _), (by decide : 20 + 0 ≤ _)⟩)
          dsimp only [Pt.U, Pt.locs, Pt.cells, Pt.slots] at X194 l194 y194 z194 st194 hQ194
          subst l194 y194 z194
          obtain ⟨rfl, N194q, he194⟩ := hQ194
          have N194 := Fr.app N190 N194q
          have pre195 := fun t (kt : At p e below T194 m 168 #[vI p0, vI p1, vI p2, vI p3, vI p4, vI 4, vI (own_x p0), vI (own_x p1), vI (own_x p2), vI (own_x p3), vR b165, vR b184, vU] [(.int (own_w (own_x p0)))] t) => pre193 t (st194 _ kt)
          by_cases d1 : (own_w (own_x p0)) = (0 : Int32)
          · have pre196 := fun t (kt : At p e below T194 m 179 #[vI p0, vI p1, vI p2, vI p3, vI p4, vI 4, vI (own_x p0), vI (own_x p1), vI (own_x p2), vI (own_x p3), vR b165, vR b184, vU] [(.int (own_x p1))] t) => pre195 t (by
              show At p e below T194 m 168 #[vI p0, vI p1, vI p2, vI p3, vI p4, vI 4, vI (own_x p0), vI (own_x p1), vI (own_x p2), vI (own_x p3), vR b165, vR b184, vU] [(.int (own_w (own_x p0)))] _
              refine XS.ifNo X194.here hx rfl (hb hby at_168) rfl ((if0 _ _).trans (teq (d1 : (own_w (own_x p0)) = (0 : Int32))).2) ?_
              show At p e below T194 m 171 #[vI p0, vI p1, vI p2, vI p3, vI p4, vI 4, vI (own_x p0), vI (own_x p1), vI (own_x p2), vI (own_x p3), vR b165, vR b184, vU] [] _
              refine XS.iload X194.here hx rfl (hb hby at_171) rfl ?_
              show At p e below T194 m 173 #[vI p0, vI p1, vI p2, vI p3, vI p4, vI 4, vI (own_x p0), vI (own_x p1), vI (own_x p2), vI (own_x p3), vR b165, vR b184, vU] [(.int 4)] _
              refine XS.iconst X194.here hx rfl (hb hby at_173) ?_
              show At p e below T194 m 174 #[vI p0, vI p1, vI p2, vI p3, vI p4, vI 4, vI (own_x p0), vI (own_x p1), vI (own_x p2), vI (own_x p3), vR b165, vR b184, vU] [(.int 1), (.int 4)] _
              refine XS.icmpNo X194.here hx rfl (hb hby at_174) rfl (tlt (by decide : (1 : Int32) < (4 : Int32))).2.2.2 ?_
              show At p e below T194 m 177 #[vI p0, vI p1, vI p2, vI p3, vI p4, vI 4, vI (own_x p0), vI (own_x p1), vI (own_x p2), vI (own_x p3), vR b165, vR b184, vU] [] _
              refine XS.iload X194.here hx rfl (hb hby at_177) rfl ?_
              exact kt)
            obtain ⟨_, _, ⟨T197, L197, kc197, nc197⟩, -, X197, ⟨Lc197, hQ197, l197, y197, z197⟩, st197⟩ := Jvm.LawKit.callS X194 hx (y := (⟨"beanforge/core/PathPatternIsPatternPinLaw", "wild", "(C)Z"⟩ : MethodName)) hown (mvT hZ (wd hw 78 rfl)) (mvT hZ (wd hw 79 rfl)) (mvT hZ (wd hw 80 rfl)) (mvT hZ (wd hw 81 rfl)) (by decide) (backOf (W := 0) (rm17 l Z a0 hw [] (own_x p1) T190.heap n0 z192) hZ (wd hw 81 rfl) (wd hw 80 rfl) (by decide) (by decide)) (g := (mkF m 179 #[vI p0, vI p1, vI p2, vI p3, vI p4, vI 4, vI (own_x p0), vI (own_x p1), vI (own_x p2), vI (own_x p3), vR b165, vR b184, vU] [(.int (own_x p1))])) rfl (by rw [hml]; rfl) (argsL := [(.int (own_x p1))]) (rest := []) (lenOf pd_20 rfl) rfl (by show 2 * 0 + _ ≤ _; exact Nat.le_of_eq rfl) (hb hby at_179) (fun _ _ => ⟨rfl, he194, (by decide : 4 + 0 ≤ _), (by decide : 20 + 0 ≤ _)⟩)
            dsimp only [Pt.U, Pt.locs, Pt.cells, Pt.slots] at X197 l197 y197 z197 st197 hQ197
            subst l197 y197 z197
            obtain ⟨rfl, N197q, he197⟩ := hQ197
            have N197 := Fr.app N194 N197q
            have pre198 := fun t (kt : At p e below T197 m 182 #[vI p0, vI p1, vI p2, vI p3, vI p4, vI 4, vI (own_x p0), vI (own_x p1), vI (own_x p2), vI (own_x p3), vR b165, vR b184, vU] [(.int (own_w (own_x p1)))] t) => pre196 t (st197 _ kt)
            by_cases d2 : (own_w (own_x p1)) = (0 : Int32)
            · have pre199 := fun t (kt : At p e below T197 m 193 #[vI p0, vI p1, vI p2, vI p3, vI p4, vI 4, vI (own_x p0), vI (own_x p1), vI (own_x p2), vI (own_x p3), vR b165, vR b184, vU] [(.int (own_x p2))] t) => pre198 t (by
                show At p e below T197 m 182 #[vI p0, vI p1, vI p2, vI p3, vI p4, vI 4, vI (own_x p0), vI (own_x p1), vI (own_x p2), vI (own_x p3), vR b165, vR b184, vU] [(.int (own_w (own_x p1)))] _
                refine XS.ifNo X197.here hx rfl (hb hby at_182) rfl ((if0 _ _).trans (teq (d2 : (own_w (own_x p1)) = (0 : Int32))).2) ?_
                show At p e below T197 m 185 #[vI p0, vI p1, vI p2, vI p3, vI p4, vI 4, vI (own_x p0), vI (own_x p1), vI (own_x p2), vI (own_x p3), vR b165, vR b184, vU] [] _
                refine XS.iload X197.here hx rfl (hb hby at_185) rfl ?_
                show At p e below T197 m 187 #[vI p0, vI p1, vI p2, vI p3, vI p4, vI 4, vI (own_x p0), vI (own_x p1), vI (own_x p2), vI (own_x p3), vR b165, vR b184, vU] [(.int 4)] _
                refine XS.iconst X197.here hx rfl (hb hby at_187) ?_
                show At p e below T197 m 188 #[vI p0, vI p1, vI p2, vI p3, vI p4, vI 4, vI (own_x p0), vI (own_x p1), vI (own_x p2), vI (own_x p3), vR b165, vR b184, vU] [(.int 2), (.int 4)] _
                refine XS.icmpNo X197.here hx rfl (hb hby at_188) rfl (tlt (by decide : (2 : Int32) < (4 : Int32))).2.2.2 ?_
                show At p e below T197 m 191 #[vI p0, vI p1, vI p2, vI p3, vI p4, vI 4, vI (own_x p0), vI (own_x p1), vI (own_x p2), vI (own_x p3), vR b165, vR b184, vU] [] _
                refine XS.iload X197.here hx rfl (hb hby at_191) rfl ?_
                exact kt)
              obtain ⟨_, _, ⟨T200, L200, kc200, nc200⟩, -, X200, ⟨Lc200, hQ200, l200, y200, z200⟩, st200⟩ := Jvm.LawKit.callS X197 hx (y := (⟨"beanforge/core/PathPatternIsPatternPinLaw", "wild", "(C)Z"⟩ : MethodName)) hown (mvT hZ (wd hw 78 rfl)) (mvT hZ (wd hw 79 rfl)) (mvT hZ (wd hw 80 rfl)) (mvT hZ (wd hw 81 rfl)) (by decide) (backOf (W := 0) (rm17 l Z a0 hw [] (own_x p2) T190.heap n0 z192) hZ (wd hw 81 rfl) (wd hw 80 rfl) (by decide) (by decide)) (g := (mkF m 193 #[vI p0, vI p1, vI p2, vI p3, vI p4, vI 4, vI (own_x p0), vI (own_x p1), vI (own_x p2), vI (own_x p3), vR b165, vR b184, vU] [(.int (own_x p2))])) rfl (by rw [hml]; rfl) (argsL := [(.int (own_x p2))]) (rest := []) (lenOf pd_20 rfl) rfl (by show 2 * 0 + _ ≤ _; exact Nat.le_of_eq rfl) (hb hby at_193) (fun _ _ => ⟨rfl, he197, (by decide : 4 + 0 ≤ _), (by decide : 20 + 0 ≤ _)⟩)
              dsimp only [Pt.U, Pt.locs, Pt.cells, Pt.slots] at X200 l200 y200 z200 st200 hQ200
              subst l200 y200 z200
              obtain ⟨rfl, N200q, he200⟩ := hQ200
              have N200 := Fr.app N197 N200q
              have pre201 := fun t (kt : At p e below T200 m 196 #[vI p0, vI p1, vI p2, vI p3, vI p4, vI 4, vI (own_x p0), vI (own_x p1), vI (own_x p2), vI (own_x p3), vR b165, vR b184, vU] [(.int (own_w (own_x p2)))] t) => pre199 t (st200 _ kt)
              by_cases d3 : (own_w (own_x p2)) = (0 : Int32)
              · have pre202 := fun t (kt : At p e below T200 m 207 #[vI p0, vI p1, vI p2, vI p3, vI p4, vI 4, vI (own_x p0), vI (own_x p1), vI (own_x p2), vI (own_x p3), vR b165, vR b184, vU] [(.int (own_x p3))] t) => pre201 t (by
                  show At p e below T200 m 196 #[vI p0, vI p1, vI p2, vI p3, vI p4, vI 4, vI (own_x p0), vI (own_x p1), vI (own_x p2), vI (own_x p3), vR b165, vR b184, vU] [(.int (own_w (own_x p2)))] _
                  refine XS.ifNo X200.here hx rfl (hb hby at_196) rfl ((if0 _ _).trans (teq (d3 : (own_w (own_x p2)) = (0 : Int32))).2) ?_
                  show At p e below T200 m 199 #[vI p0, vI p1, vI p2, vI p3, vI p4, vI 4, vI (own_x p0), vI (own_x p1), vI (own_x p2), vI (own_x p3), vR b165, vR b184, vU] [] _
                  refine XS.iload X200.here hx rfl (hb hby at_199) rfl ?_
                  show At p e below T200 m 201 #[vI p0, vI p1, vI p2, vI p3, vI p4, vI 4, vI (own_x p0), vI (own_x p1), vI (own_x p2), vI (own_x p3), vR b165, vR b184, vU] [(.int 4)] _
                  refine XS.iconst X200.here hx rfl (hb hby at_201) ?_
                  show At p e below T200 m 202 #[vI p0, vI p1, vI p2, vI p3, vI p4, vI 4, vI (own_x p0), vI (own_x p1), vI (own_x p2), vI (own_x p3), vR b165, vR b184, vU] [(.int 3), (.int 4)] _
                  refine XS.icmpNo X200.here hx rfl (hb hby at_202) rfl (tlt (by decide : (3 : Int32) < (4 : Int32))).2.2.2 ?_
                  show At p e below T200 m 205 #[vI p0, vI p1, vI p2, vI p3, vI p4, vI 4, vI (own_x p0), vI (own_x p1), vI (own_x p2), vI (own_x p3), vR b165, vR b184, vU] [] _
                  refine XS.iload X200.here hx rfl (hb hby at_205) rfl ?_
                  exact kt)
                obtain ⟨_, _, ⟨T203, L203, kc203, nc203⟩, -, X203, ⟨Lc203, hQ203, l203, y203, z203⟩, st203⟩ := Jvm.LawKit.callS X200 hx (y := (⟨"beanforge/core/PathPatternIsPatternPinLaw", "wild", "(C)Z"⟩ : MethodName)) hown (mvT hZ (wd hw 78 rfl)) (mvT hZ (wd hw 79 rfl)) (mvT hZ (wd hw 80 rfl)) (mvT hZ (wd hw 81 rfl)) (by decide) (backOf (W := 0) (rm17 l Z a0 hw [] (own_x p3) T190.heap n0 z192) hZ (wd hw 81 rfl) (wd hw 80 rfl) (by decide) (by decide)) (g := (mkF m 207 #[vI p0, vI p1, vI p2, vI p3, vI p4, vI 4, vI (own_x p0), vI (own_x p1), vI (own_x p2), vI (own_x p3), vR b165, vR b184, vU] [(.int (own_x p3))])) rfl (by rw [hml]; rfl) (argsL := [(.int (own_x p3))]) (rest := []) (lenOf pd_20 rfl) rfl (by show 2 * 0 + _ ≤ _; exact Nat.le_of_eq rfl) (hb hby at_207) (fun _ _ => ⟨rfl, he200, (by decide : 4 + 0 ≤ _), (by decide : 20 + 0 ≤ _)⟩)
                dsimp only [Pt.U, Pt.locs, Pt.cells, Pt.slots] at X203 l203 y203 z203 st203 hQ203
                subst l203 y203 z203
                obtain ⟨rfl, N203q, he203⟩ := hQ203
                have N203 := Fr.app N200 N203q
                have pre204 := fun t (kt : At p e below T203 m 210 #[vI p0, vI p1, vI p2, vI p3, vI p4, vI 4, vI (own_x p0), vI (own_x p1), vI (own_x p2), vI (own_x p3), vR b165, vR b184, vU] [(.int (own_w (own_x p3)))] t) => pre202 t (st203 _ kt)
                by_cases d4 : (own_w (own_x p3)) = (0 : Int32)
                · have o205 : Old Z n0 T190.heap := (o187.keep K190 (allS gg_b184 all0))
                  have pre206 := fun t (kt : At p e below T203 m 222 #[vI p0, vI p1, vI p2, vI p3, vI p4, vI 4, vI (own_x p0), vI (own_x p1), vI (own_x p2), vI (own_x p3), vR b165, vR b184, vI 0] [(.ref b184)] t) => pre204 t (by
                    show At p e below T203 m 210 #[vI p0, vI p1, vI p2, vI p3, vI p4, vI 4, vI (own_x p0), vI (own_x p1), vI (own_x p2), vI (own_x p3), vR b165, vR b184, vU] [(.int (own_w (own_x p3)))] _
                    refine XS.ifYes X203.here hx rfl (pc0 := 210) (pc' := 217) rfl (hb hby at_210) rfl ((if0 _ _).trans (teq (d4 : (own_w (own_x p3)) = (0 : Int32))).1) (by decide) (by decide) ?_
                    show At p e below T203 m 217 #[vI p0, vI p1, vI p2, vI p3, vI p4, vI 4, vI (own_x p0), vI (own_x p1), vI (own_x p2), vI (own_x p3), vR b165, vR b184, vU] [] _
                    refine XS.iconst X203.here hx rfl (hb hby at_217) ?_
                    show At p e below T203 m 218 #[vI p0, vI p1, vI p2, vI p3, vI p4, vI 4, vI (own_x p0), vI (own_x p1), vI (own_x p2), vI (own_x p3), vR b165, vR b184, vU] [(.int 0)] _
                    refine XS.istore X203.here hx rfl (hb hby at_218) rfl (l' := #[vI p0, vI p1, vI p2, vI p3, vI p4, vI 4, vI (own_x p0), vI (own_x p1), vI (own_x p2), vI (own_x p3), vR b165, vR b184, vI 0]) rfl ?_
                    show At p e below T203 m 220 #[vI p0, vI p1, vI p2, vI p3, vI p4, vI 4, vI (own_x p0), vI (own_x p1), vI (own_x p2), vI (own_x p3), vR b165, vR b184, vI 0] [] _
                    refine XS.aload X203.here hx rfl (hb hby at_220) rfl rfl ?_
                    exact kt)
                  obtain ⟨_, _, ⟨T207, L207, kc207, nc207⟩, -, X207, ⟨Lc207, hQ207, l207, y207, z207⟩, st207⟩ := Jvm.LawKit.callS X203 hx (y := (⟨"beanforge/core/PathPattern", "isPattern", "(Ljava/lang/String;)Z"⟩ : MethodName)) hown (mvT hZ (wd hw 24 rfl)) (mvT hZ (wd hw 25 rfl)) (mvT hZ (wd hw 26 rfl)) (mvT hZ (wd hw 27 rfl)) (by decide) (backOf (W := 0) (rm4 l Z a0 hw [] b184 cs (4 : Int32) (8 : Int32) _ _ _ _ [(nar .char (own_x p0)), (nar .char (own_x p1)), (nar .char (own_x p2)), (nar .char (own_x p3))] T190.heap n0 o205 SC hcs S190 (by decide) (fun _ => by decide) (fun kk ab kb V ch hc => rm10 l Z a0 hw [] ab kb ch _ (4 : Int32) _ T190.heap n0 z192 V (by decide) (rm18_4 l Z a0 hw [] ab kb ch (nar .char (own_x p0)) (nar .char (own_x p1)) (nar .char (own_x p2)) (nar .char (own_x p3)) T190.heap n0 z192 V (own_Rn _) (own_Rn _) (own_Rn _) (own_Rn _) kk.1 kk.2.1 kk.2.2.1 kk.2.2.2.1 hc) hc) (fun _ ab kb V ch hc => rm24 l Z a0 hw [] ab kb ch u _ (8 : Int32) (4 : Int32) _ T190.heap n0 o205 hu SF V (by decide) (by decide) (by decide) (rm30_4 l Z a0 hw [] ab kb ch (nar .char (own_x p0)) (nar .char (own_x p1)) (nar .char (own_x p2)) (nar .char (own_x p3)) T190.heap n0 o205 SA SH SL V (own_Rn _) (own_Rn _) (own_Rn _) (own_Rn _)) hc)) hZ (wd hw 27 rfl) (wd hw 26 rfl) (by decide) (by decide)) (g := (mkF m 222 #[vI p0, vI p1, vI p2, vI p3, vI p4, vI 4, vI (own_x p0), vI (own_x p1), vI (own_x p2), vI (own_x p3), vR b165, vR b184, vI 0] [(.ref b184)])) rfl (by rw [hml]; rfl) (argsL := [(.ref b184)]) (rest := []) (lenOf pd_19 rfl) rfl (by show 2 * 0 + _ ≤ _; exact Nat.le_of_eq rfl) (hb hby at_222) (fun _ _ => ⟨rfl, he203, (by decide : 4 + 0 ≤ _), (by decide : 20 + 0 ≤ _)⟩)
                  dsimp only [Pt.U, Pt.locs, Pt.cells, Pt.slots] at X207 l207 y207 z207 st207 hQ207
                  subst l207 y207 z207
                  obtain ⟨r207, rfl, N207q, he207, hr207⟩ := hQ207
                  have N207 := Fr.app N203 N207q
                  have pre208 := fun t (kt : At p e below T207 m 225 #[vI p0, vI p1, vI p2, vI p3, vI p4, vI 4, vI (own_x p0), vI (own_x p1), vI (own_x p2), vI (own_x p3), vR b165, vR b184, vI 0] [(.int r207)] t) => pre206 t (st207 _ kt)
                  have hv : r207 = (0 : Int32) := own_r0 hr207 (own_w0 (by rw [own_nc]; exact d1) (own_w0 (by rw [own_nc]; exact d2) (own_w0 (by rw [own_nc]; exact d3) (own_w0 (by rw [own_nc]; exact d4) (own_wn)))))
                  have pre209 := fun t (kt : At p e below T207 m 235 #[vI p0, vI p1, vI p2, vI p3, vI p4, vI 4, vI (own_x p0), vI (own_x p1), vI (own_x p2), vI (own_x p3), vR b165, vR b184, vI 0] [(.int 1)] t) => pre208 t (by
                    show At p e below T207 m 225 #[vI p0, vI p1, vI p2, vI p3, vI p4, vI 4, vI (own_x p0), vI (own_x p1), vI (own_x p2), vI (own_x p3), vR b165, vR b184, vI 0] [(.int r207)] _
                    rw [show r207 = (0 : Int32) from hv]
                    show At p e below T207 m 225 #[vI p0, vI p1, vI p2, vI p3, vI p4, vI 4, vI (own_x p0), vI (own_x p1), vI (own_x p2), vI (own_x p3), vR b165, vR b184, vI 0] [(.int 0)] _
                    refine XS.iload X207.here hx rfl (hb hby at_225) rfl ?_
                    show At p e below T207 m 227 #[vI p0, vI p1, vI p2, vI p3, vI p4, vI 4, vI (own_x p0), vI (own_x p1), vI (own_x p2), vI (own_x p3), vR b165, vR b184, vI 0] [(.int 0), (.int 0)] _
                    refine XS.icmpNo X207.here hx rfl (hb hby at_227) rfl (teq (by decide : (0 : Int32) = (0 : Int32))).2 ?_
                    show At p e below T207 m 230 #[vI p0, vI p1, vI p2, vI p3, vI p4, vI 4, vI (own_x p0), vI (own_x p1), vI (own_x p2), vI (own_x p3), vR b165, vR b184, vI 0] [] _
                    refine XS.iconst X207.here hx rfl (hb hby at_230) ?_
                    show At p e below T207 m 231 #[vI p0, vI p1, vI p2, vI p3, vI p4, vI 4, vI (own_x p0), vI (own_x p1), vI (own_x p2), vI (own_x p3), vR b165, vR b184, vI 0] [(.int 1)] _
                    refine XS.goto X207.here hx rfl (pc0 := 231) (pc' := 235) rfl (hb hby at_231) (by decide) (by decide) ?_
                    exact kt)
                  have hk210 := (Nat.le_trans (Nat.le_trans (Nat.le_trans (Nat.le_trans (Nat.le_trans (Nat.le_trans (Nat.le_trans hk E165.1) (Keep.of_wr W169).1) (Keep.of_wr W173).1) (Keep.of_wr W177).1) (Keep.of_wr W181).1) E184.1) K190.1)
                  obtain ⟨fs, hr, hrun, hended, -, hW, hI, hsame⟩ := X207.leaveW hS (he207.symm ▸ hk210) (v := (some (.int 1))) (fun h => by rw [Bd.returns] at h; cases h)
                  refine ⟨_, _, pre209 _ ?_, hrun, hended, _, _, rfl, ?_, ⟨_, rfl⟩, hW, hI, hsame.mono (by decide) (by decide)⟩
                  · show At p e below T207 m 235 #[vI p0, vI p1, vI p2, vI p3, vI p4, vI 4, vI (own_x p0), vI (own_x p1), vI (own_x p2), vI (own_x p3), vR b165, vR b184, vI 0] [(.int 1)] _
                    exact retN X207 hx (t := .boolean) Bd.returns (by simp) (hb hby at_235) hr
                  · show Q0 Z p0 p1 p2 p3 p4 cs u h0 n0 _ T207.heap _
                    rw [he207]
                    exact ⟨rfl, N207⟩
                · have o211 : Old Z n0 T190.heap := (o187.keep K190 (allS gg_b184 all0))
                  have pre212 := fun t (kt : At p e below T203 m 222 #[vI p0, vI p1, vI p2, vI p3, vI p4, vI 4, vI (own_x p0), vI (own_x p1), vI (own_x p2), vI (own_x p3), vR b165, vR b184, vI 1] [(.ref b184)] t) => pre204 t (by
                    show At p e below T203 m 210 #[vI p0, vI p1, vI p2, vI p3, vI p4, vI 4, vI (own_x p0), vI (own_x p1), vI (own_x p2), vI (own_x p3), vR b165, vR b184, vU] [(.int (own_w (own_x p3)))] _
                    refine XS.ifNo X203.here hx rfl (hb hby at_210) rfl ((if0 _ _).trans (feq (d4 : ¬ ((own_w (own_x p3)) = (0 : Int32)))).1) ?_
                    show At p e below T203 m 213 #[vI p0, vI p1, vI p2, vI p3, vI p4, vI 4, vI (own_x p0), vI (own_x p1), vI (own_x p2), vI (own_x p3), vR b165, vR b184, vU] [] _
                    refine XS.iconst X203.here hx rfl (hb hby at_213) ?_
                    show At p e below T203 m 214 #[vI p0, vI p1, vI p2, vI p3, vI p4, vI 4, vI (own_x p0), vI (own_x p1), vI (own_x p2), vI (own_x p3), vR b165, vR b184, vU] [(.int 1)] _
                    refine XS.goto X203.here hx rfl (pc0 := 214) (pc' := 218) rfl (hb hby at_214) (by decide) (by decide) ?_
                    show At p e below T203 m 218 #[vI p0, vI p1, vI p2, vI p3, vI p4, vI 4, vI (own_x p0), vI (own_x p1), vI (own_x p2), vI (own_x p3), vR b165, vR b184, vU] [(.int 1)] _
                    refine XS.istore X203.here hx rfl (hb hby at_218) rfl (l' := #[vI p0, vI p1, vI p2, vI p3, vI p4, vI 4, vI (own_x p0), vI (own_x p1), vI (own_x p2), vI (own_x p3), vR b165, vR b184, vI 1]) rfl ?_
                    show At p e below T203 m 220 #[vI p0, vI p1, vI p2, vI p3, vI p4, vI 4, vI (own_x p0), vI (own_x p1), vI (own_x p2), vI (own_x p3), vR b165, vR b184, vI 1] [] _
                    refine XS.aload X203.here hx rfl (hb hby at_220) rfl rfl ?_
                    exact kt)
                  obtain ⟨_, _, ⟨T213, L213, kc213, nc213⟩, -, X213, ⟨Lc213, hQ213, l213, y213, z213⟩, st213⟩ := Jvm.LawKit.callS X203 hx (y := (⟨"beanforge/core/PathPattern", "isPattern", "(Ljava/lang/String;)Z"⟩ : MethodName)) hown (mvT hZ (wd hw 24 rfl)) (mvT hZ (wd hw 25 rfl)) (mvT hZ (wd hw 26 rfl)) (mvT hZ (wd hw 27 rfl)) (by decide) (backOf (W := 0) (rm4 l Z a0 hw [] b184 cs (4 : Int32) (8 : Int32) _ _ _ _ [(nar .char (own_x p0)), (nar .char (own_x p1)), (nar .char (own_x p2)), (nar .char (own_x p3))] T190.heap n0 o211 SC hcs S190 (by decide) (fun _ => by decide) (fun kk ab kb V ch hc => rm10 l Z a0 hw [] ab kb ch _ (4 : Int32) _ T190.heap n0 z192 V (by decide) (rm18_4 l Z a0 hw [] ab kb ch (nar .char (own_x p0)) (nar .char (own_x p1)) (nar .char (own_x p2)) (nar .char (own_x p3)) T190.heap n0 z192 V (own_Rn _) (own_Rn _) (own_Rn _) (own_Rn _) kk.1 kk.2.1 kk.2.2.1 kk.2.2.2.1 hc) hc) (fun _ ab kb V ch hc => rm24 l Z a0 hw [] ab kb ch u _ (8 : Int32) (4 : Int32) _ T190.heap n0 o211 hu SF V (by decide) (by decide) (by decide) (rm30_4 l Z a0 hw [] ab kb ch (nar .char (own_x p0)) (nar .char (own_x p1)) (nar .char (own_x p2)) (nar .char (own_x p3)) T190.heap n0 o211 SA SH SL V (own_Rn _) (own_Rn _) (own_Rn _) (own_Rn _)) hc)) hZ (wd hw 27 rfl) (wd hw 26 rfl) (by decide) (by decide)) (g := (mkF m 222 #[vI p0, vI p1, vI p2, vI p3, vI p4, vI 4, vI (own_x p0), vI (own_x p1), vI (own_x p2), vI (own_x p3), vR b165, vR b184, vI 1] [(.ref b184)])) rfl (by rw [hml]; rfl) (argsL := [(.ref b184)]) (rest := []) (lenOf pd_19 rfl) rfl (by show 2 * 0 + _ ≤ _; exact Nat.le_of_eq rfl) (hb hby at_222) (fun _ _ => ⟨rfl, he203, (by decide : 4 + 0 ≤ _), (by decide : 20 + 0 ≤ _)⟩)
                  dsimp only [Pt.U, Pt.locs, Pt.cells, Pt.slots] at X213 l213 y213 z213 st213 hQ213
                  subst l213 y213 z213
                  obtain ⟨r213, rfl, N213q, he213, hr213⟩ := hQ213
                  have N213 := Fr.app N203 N213q
                  have pre214 := fun t (kt : At p e below T213 m 225 #[vI p0, vI p1, vI p2, vI p3, vI p4, vI 4, vI (own_x p0), vI (own_x p1), vI (own_x p2), vI (own_x p3), vR b165, vR b184, vI 1] [(.int r213)] t) => pre212 t (st213 _ kt)
                  have hv : r213 = (1 : Int32) := own_r1 hr213 (own_wt (own_wt (own_wt (own_w1 (by rw [own_nc]; exact d4)))))
                  have pre215 := fun t (kt : At p e below T213 m 235 #[vI p0, vI p1, vI p2, vI p3, vI p4, vI 4, vI (own_x p0), vI (own_x p1), vI (own_x p2), vI (own_x p3), vR b165, vR b184, vI 1] [(.int 1)] t) => pre214 t (by
                    show At p e below T213 m 225 #[vI p0, vI p1, vI p2, vI p3, vI p4, vI 4, vI (own_x p0), vI (own_x p1), vI (own_x p2), vI (own_x p3), vR b165, vR b184, vI 1] [(.int r213)] _
                    rw [show r213 = (1 : Int32) from hv]
                    show At p e below T213 m 225 #[vI p0, vI p1, vI p2, vI p3, vI p4, vI 4, vI (own_x p0), vI (own_x p1), vI (own_x p2), vI (own_x p3), vR b165, vR b184, vI 1] [(.int 1)] _
                    refine XS.iload X213.here hx rfl (hb hby at_225) rfl ?_
                    show At p e below T213 m 227 #[vI p0, vI p1, vI p2, vI p3, vI p4, vI 4, vI (own_x p0), vI (own_x p1), vI (own_x p2), vI (own_x p3), vR b165, vR b184, vI 1] [(.int 1), (.int 1)] _
                    refine XS.icmpNo X213.here hx rfl (hb hby at_227) rfl (teq (by decide : (1 : Int32) = (1 : Int32))).2 ?_
                    show At p e below T213 m 230 #[vI p0, vI p1, vI p2, vI p3, vI p4, vI 4, vI (own_x p0), vI (own_x p1), vI (own_x p2), vI (own_x p3), vR b165, vR b184, vI 1] [] _
                    refine XS.iconst X213.here hx rfl (hb hby at_230) ?_
                    show At p e below T213 m 231 #[vI p0, vI p1, vI p2, vI p3, vI p4, vI 4, vI (own_x p0), vI (own_x p1), vI (own_x p2), vI (own_x p3), vR b165, vR b184, vI 1] [(.int 1)] _
                    refine XS.goto X213.here hx rfl (pc0 := 231) (pc' := 235) rfl (hb hby at_231) (by decide) (by decide) ?_
                    exact kt)
                  have hk216 := (Nat.le_trans (Nat.le_trans (Nat.le_trans (Nat.le_trans (Nat.le_trans (Nat.le_trans (Nat.le_trans hk E165.1) (Keep.of_wr W169).1) (Keep.of_wr W173).1) (Keep.of_wr W177).1) (Keep.of_wr W181).1) E184.1) K190.1)
                  obtain ⟨fs, hr, hrun, hended, -, hW, hI, hsame⟩ := X213.leaveW hS (he213.symm ▸ hk216) (v := (some (.int 1))) (fun h => by rw [Bd.returns] at h; cases h)
                  refine ⟨_, _, pre215 _ ?_, hrun, hended, _, _, rfl, ?_, ⟨_, rfl⟩, hW, hI, hsame.mono (by decide) (by decide)⟩
                  · show At p e below T213 m 235 #[vI p0, vI p1, vI p2, vI p3, vI p4, vI 4, vI (own_x p0), vI (own_x p1), vI (own_x p2), vI (own_x p3), vR b165, vR b184, vI 1] [(.int 1)] _
                    exact retN X213 hx (t := .boolean) Bd.returns (by simp) (hb hby at_235) hr
                  · show Q0 Z p0 p1 p2 p3 p4 cs u h0 n0 _ T213.heap _
                    rw [he213]
                    exact ⟨rfl, N213⟩
              · have o217 : Old Z n0 T190.heap := (o187.keep K190 (allS gg_b184 all0))
                have pre218 := fun t (kt : At p e below T200 m 222 #[vI p0, vI p1, vI p2, vI p3, vI p4, vI 4, vI (own_x p0), vI (own_x p1), vI (own_x p2), vI (own_x p3), vR b165, vR b184, vI 1] [(.ref b184)] t) => pre201 t (by
                  show At p e below T200 m 196 #[vI p0, vI p1, vI p2, vI p3, vI p4, vI 4, vI (own_x p0), vI (own_x p1), vI (own_x p2), vI (own_x p3), vR b165, vR b184, vU] [(.int (own_w (own_x p2)))] _
                  refine XS.ifYes X200.here hx rfl (pc0 := 196) (pc' := 213) rfl (hb hby at_196) rfl ((if0 _ _).trans (feq (d3 : ¬ ((own_w (own_x p2)) = (0 : Int32)))).2) (by decide) (by decide) ?_
                  show At p e below T200 m 213 #[vI p0, vI p1, vI p2, vI p3, vI p4, vI 4, vI (own_x p0), vI (own_x p1), vI (own_x p2), vI (own_x p3), vR b165, vR b184, vU] [] _
                  refine XS.iconst X200.here hx rfl (hb hby at_213) ?_
                  show At p e below T200 m 214 #[vI p0, vI p1, vI p2, vI p3, vI p4, vI 4, vI (own_x p0), vI (own_x p1), vI (own_x p2), vI (own_x p3), vR b165, vR b184, vU] [(.int 1)] _
                  refine XS.goto X200.here hx rfl (pc0 := 214) (pc' := 218) rfl (hb hby at_214) (by decide) (by decide) ?_
                  show At p e below T200 m 218 #[vI p0, vI p1, vI p2, vI p3, vI p4, vI 4, vI (own_x p0), vI (own_x p1), vI (own_x p2), vI (own_x p3), vR b165, vR b184, vU] [(.int 1)] _
                  refine XS.istore X200.here hx rfl (hb hby at_218) rfl (l' := #[vI p0, vI p1, vI p2, vI p3, vI p4, vI 4, vI (own_x p0), vI (own_x p1), vI (own_x p2), vI (own_x p3), vR b165, vR b184, vI 1]) rfl ?_
                  show At p e below T200 m 220 #[vI p0, vI p1, vI p2, vI p3, vI p4, vI 4, vI (own_x p0), vI (own_x p1), vI (own_x p2), vI (own_x p3), vR b165, vR b184, vI 1] [] _
                  refine XS.aload X200.here hx rfl (hb hby at_220) rfl rfl ?_
                  exact kt)
                obtain ⟨_, _, ⟨T219, L219, kc219, nc219⟩, -, X219, ⟨Lc219, hQ219, l219, y219, z219⟩, st219⟩ := Jvm.LawKit.callS X200 hx (y := (⟨"beanforge/core/PathPattern", "isPattern", "(Ljava/lang/String;)Z"⟩ : MethodName)) hown (mvT hZ (wd hw 24 rfl)) (mvT hZ (wd hw 25 rfl)) (mvT hZ (wd hw 26 rfl)) (mvT hZ (wd hw 27 rfl)) (by decide) (backOf (W := 0) (rm4 l Z a0 hw [] b184 cs (4 : Int32) (8 : Int32) _ _ _ _ [(nar .char (own_x p0)), (nar .char (own_x p1)), (nar .char (own_x p2)), (nar .char (own_x p3))] T190.heap n0 o217 SC hcs S190 (by decide) (fun _ => by decide) (fun kk ab kb V ch hc => rm10 l Z a0 hw [] ab kb ch _ (4 : Int32) _ T190.heap n0 z192 V (by decide) (rm18_4 l Z a0 hw [] ab kb ch (nar .char (own_x p0)) (nar .char (own_x p1)) (nar .char (own_x p2)) (nar .char (own_x p3)) T190.heap n0 z192 V (own_Rn _) (own_Rn _) (own_Rn _) (own_Rn _) kk.1 kk.2.1 kk.2.2.1 kk.2.2.2.1 hc) hc) (fun _ ab kb V ch hc => rm24 l Z a0 hw [] ab kb ch u _ (8 : Int32) (4 : Int32) _ T190.heap n0 o217 hu SF V (by decide) (by decide) (by decide) (rm30_4 l Z a0 hw [] ab kb ch (nar .char (own_x p0)) (nar .char (own_x p1)) (nar .char (own_x p2)) (nar .char (own_x p3)) T190.heap n0 o217 SA SH SL V (own_Rn _) (own_Rn _) (own_Rn _) (own_Rn _)) hc)) hZ (wd hw 27 rfl) (wd hw 26 rfl) (by decide) (by decide)) (g := (mkF m 222 #[vI p0, vI p1, vI p2, vI p3, vI p4, vI 4, vI (own_x p0), vI (own_x p1), vI (own_x p2), vI (own_x p3), vR b165, vR b184, vI 1] [(.ref b184)])) rfl (by rw [hml]; rfl) (argsL := [(.ref b184)]) (rest := []) (lenOf pd_19 rfl) rfl (by show 2 * 0 + _ ≤ _; exact Nat.le_of_eq rfl) (hb hby at_222) (fun _ _ => ⟨rfl, he200, (by decide : 4 + 0 ≤ _), (by decide : 20 + 0 ≤ _)⟩)
                dsimp only [Pt.U, Pt.locs, Pt.cells, Pt.slots] at X219 l219 y219 z219 st219 hQ219
                subst l219 y219 z219
                obtain ⟨r219, rfl, N219q, he219, hr219⟩ := hQ219
                have N219 := Fr.app N200 N219q
                have pre220 := fun t (kt : At p e below T219 m 225 #[vI p0, vI p1, vI p2, vI p3, vI p4, vI 4, vI (own_x p0), vI (own_x p1), vI (own_x p2), vI (own_x p3), vR b165, vR b184, vI 1] [(.int r219)] t) => pre218 t (st219 _ kt)
                have hv : r219 = (1 : Int32) := own_r1 hr219 (own_wt (own_wt (own_w1 (by rw [own_nc]; exact d3))))
                have pre221 := fun t (kt : At p e below T219 m 235 #[vI p0, vI p1, vI p2, vI p3, vI p4, vI 4, vI (own_x p0), vI (own_x p1), vI (own_x p2), vI (own_x p3), vR b165, vR b184, vI 1] [(.int 1)] t) => pre220 t (by
                  show At p e below T219 m 225 #[vI p0, vI p1, vI p2, vI p3, vI p4, vI 4, vI (own_x p0), vI (own_x p1), vI (own_x p2), vI (own_x p3), vR b165, vR b184, vI 1] [(.int r219)] _
                  rw [show r219 = (1 : Int32) from hv]
                  show At p e below T219 m 225 #[vI p0, vI p1, vI p2, vI p3, vI p4, vI 4, vI (own_x p0), vI (own_x p1), vI (own_x p2), vI (own_x p3), vR b165, vR b184, vI 1] [(.int 1)] _
                  refine XS.iload X219.here hx rfl (hb hby at_225) rfl ?_
                  show At p e below T219 m 227 #[vI p0, vI p1, vI p2, vI p3, vI p4, vI 4, vI (own_x p0), vI (own_x p1), vI (own_x p2), vI (own_x p3), vR b165, vR b184, vI 1] [(.int 1), (.int 1)] _
                  refine XS.icmpNo X219.here hx rfl (hb hby at_227) rfl (teq (by decide : (1 : Int32) = (1 : Int32))).2 ?_
                  show At p e below T219 m 230 #[vI p0, vI p1, vI p2, vI p3, vI p4, vI 4, vI (own_x p0), vI (own_x p1), vI (own_x p2), vI (own_x p3), vR b165, vR b184, vI 1] [] _
                  refine XS.iconst X219.here hx rfl (hb hby at_230) ?_
                  show At p e below T219 m 231 #[vI p0, vI p1, vI p2, vI p3, vI p4, vI 4, vI (own_x p0), vI (own_x p1), vI (own_x p2), vI (own_x p3), vR b165, vR b184, vI 1] [(.int 1)] _
                  refine XS.goto X219.here hx rfl (pc0 := 231) (pc' := 235) rfl (hb hby at_231) (by decide) (by decide) ?_
                  exact kt)
                have hk222 := (Nat.le_trans (Nat.le_trans (Nat.le_trans (Nat.le_trans (Nat.le_trans (Nat.le_trans (Nat.le_trans hk E165.1) (Keep.of_wr W169).1) (Keep.of_wr W173).1) (Keep.of_wr W177).1) (Keep.of_wr W181).1) E184.1) K190.1)
                obtain ⟨fs, hr, hrun, hended, -, hW, hI, hsame⟩ := X219.leaveW hS (he219.symm ▸ hk222) (v := (some (.int 1))) (fun h => by rw [Bd.returns] at h; cases h)
                refine ⟨_, _, pre221 _ ?_, hrun, hended, _, _, rfl, ?_, ⟨_, rfl⟩, hW, hI, hsame.mono (by decide) (by decide)⟩
                · show At p e below T219 m 235 #[vI p0, vI p1, vI p2, vI p3, vI p4, vI 4, vI (own_x p0), vI (own_x p1), vI (own_x p2), vI (own_x p3), vR b165, vR b184, vI 1] [(.int 1)] _
                  exact retN X219 hx (t := .boolean) Bd.returns (by simp) (hb hby at_235) hr
                · show Q0 Z p0 p1 p2 p3 p4 cs u h0 n0 _ T219.heap _
                  rw [he219]
                  exact ⟨rfl, N219⟩
            · have o223 : Old Z n0 T190.heap := (o187.keep K190 (allS gg_b184 all0))
              have pre224 := fun t (kt : At p e below T197 m 222 #[vI p0, vI p1, vI p2, vI p3, vI p4, vI 4, vI (own_x p0), vI (own_x p1), vI (own_x p2), vI (own_x p3), vR b165, vR b184, vI 1] [(.ref b184)] t) => pre198 t (by
                show At p e below T197 m 182 #[vI p0, vI p1, vI p2, vI p3, vI p4, vI 4, vI (own_x p0), vI (own_x p1), vI (own_x p2), vI (own_x p3), vR b165, vR b184, vU] [(.int (own_w (own_x p1)))] _
                refine XS.ifYes X197.here hx rfl (pc0 := 182) (pc' := 213) rfl (hb hby at_182) rfl ((if0 _ _).trans (feq (d2 : ¬ ((own_w (own_x p1)) = (0 : Int32)))).2) (by decide) (by decide) ?_
                show At p e below T197 m 213 #[vI p0, vI p1, vI p2, vI p3, vI p4, vI 4, vI (own_x p0), vI (own_x p1), vI (own_x p2), vI (own_x p3), vR b165, vR b184, vU] [] _
                refine XS.iconst X197.here hx rfl (hb hby at_213) ?_
                show At p e below T197 m 214 #[vI p0, vI p1, vI p2, vI p3, vI p4, vI 4, vI (own_x p0), vI (own_x p1), vI (own_x p2), vI (own_x p3), vR b165, vR b184, vU] [(.int 1)] _
                refine XS.goto X197.here hx rfl (pc0 := 214) (pc' := 218) rfl (hb hby at_214) (by decide) (by decide) ?_
                show At p e below T197 m 218 #[vI p0, vI p1, vI p2, vI p3, vI p4, vI 4, vI (own_x p0), vI (own_x p1), vI (own_x p2), vI (own_x p3), vR b165, vR b184, vU] [(.int 1)] _
                refine XS.istore X197.here hx rfl (hb hby at_218) rfl (l' := #[vI p0, vI p1, vI p2, vI p3, vI p4, vI 4, vI (own_x p0), vI (own_x p1), vI (own_x p2), vI (own_x p3), vR b165, vR b184, vI 1]) rfl ?_
                show At p e below T197 m 220 #[vI p0, vI p1, vI p2, vI p3, vI p4, vI 4, vI (own_x p0), vI (own_x p1), vI (own_x p2), vI (own_x p3), vR b165, vR b184, vI 1] [] _
                refine XS.aload X197.here hx rfl (hb hby at_220) rfl rfl ?_
                exact kt)
              obtain ⟨_, _, ⟨T225, L225, kc225, nc225⟩, -, X225, ⟨Lc225, hQ225, l225, y225, z225⟩, st225⟩ := Jvm.LawKit.callS X197 hx (y := (⟨"beanforge/core/PathPattern", "isPattern", "(Ljava/lang/String;)Z"⟩ : MethodName)) hown (mvT hZ (wd hw 24 rfl)) (mvT hZ (wd hw 25 rfl)) (mvT hZ (wd hw 26 rfl)) (mvT hZ (wd hw 27 rfl)) (by decide) (backOf (W := 0) (rm4 l Z a0 hw [] b184 cs (4 : Int32) (8 : Int32) _ _ _ _ [(nar .char (own_x p0)), (nar .char (own_x p1)), (nar .char (own_x p2)), (nar .char (own_x p3))] T190.heap n0 o223 SC hcs S190 (by decide) (fun _ => by decide) (fun kk ab kb V ch hc => rm10 l Z a0 hw [] ab kb ch _ (4 : Int32) _ T190.heap n0 z192 V (by decide) (rm18_4 l Z a0 hw [] ab kb ch (nar .char (own_x p0)) (nar .char (own_x p1)) (nar .char (own_x p2)) (nar .char (own_x p3)) T190.heap n0 z192 V (own_Rn _) (own_Rn _) (own_Rn _) (own_Rn _) kk.1 kk.2.1 kk.2.2.1 kk.2.2.2.1 hc) hc) (fun _ ab kb V ch hc => rm24 l Z a0 hw [] ab kb ch u _ (8 : Int32) (4 : Int32) _ T190.heap n0 o223 hu SF V (by decide) (by decide) (by decide) (rm30_4 l Z a0 hw [] ab kb ch (nar .char (own_x p0)) (nar .char (own_x p1)) (nar .char (own_x p2)) (nar .char (own_x p3)) T190.heap n0 o223 SA SH SL V (own_Rn _) (own_Rn _) (own_Rn _) (own_Rn _)) hc)) hZ (wd hw 27 rfl) (wd hw 26 rfl) (by decide) (by decide)) (g := (mkF m 222 #[vI p0, vI p1, vI p2, vI p3, vI p4, vI 4, vI (own_x p0), vI (own_x p1), vI (own_x p2), vI (own_x p3), vR b165, vR b184, vI 1] [(.ref b184)])) rfl (by rw [hml]; rfl) (argsL := [(.ref b184)]) (rest := []) (lenOf pd_19 rfl) rfl (by show 2 * 0 + _ ≤ _; exact Nat.le_of_eq rfl) (hb hby at_222) (fun _ _ => ⟨rfl, he197, (by decide : 4 + 0 ≤ _), (by decide : 20 + 0 ≤ _)⟩)
              dsimp only [Pt.U, Pt.locs, Pt.cells, Pt.slots] at X225 l225 y225 z225 st225 hQ225
              subst l225 y225 z225
              obtain ⟨r225, rfl, N225q, he225, hr225⟩ := hQ225
              have N225 := Fr.app N197 N225q
              have pre226 := fun t (kt : At p e below T225 m 225 #[vI p0, vI p1, vI p2, vI p3, vI p4, vI 4, vI (own_x p0), vI (own_x p1), vI (own_x p2), vI (own_x p3), vR b165, vR b184, vI 1] [(.int r225)] t) => pre224 t (st225 _ kt)
              have hv : r225 = (1 : Int32) := own_r1 hr225 (own_wt (own_w1 (by rw [own_nc]; exact d2)))
              have pre227 := fun t (kt : At p e below T225 m 235 #[vI p0, vI p1, vI p2, vI p3, vI p4, vI 4, vI (own_x p0), vI (own_x p1), vI (own_x p2), vI (own_x p3), vR b165, vR b184, vI 1] [(.int 1)] t) => pre226 t (by
                show At p e below T225 m 225 #[vI p0, vI p1, vI p2, vI p3, vI p4, vI 4, vI (own_x p0), vI (own_x p1), vI (own_x p2), vI (own_x p3), vR b165, vR b184, vI 1] [(.int r225)] _
                rw [show r225 = (1 : Int32) from hv]
                show At p e below T225 m 225 #[vI p0, vI p1, vI p2, vI p3, vI p4, vI 4, vI (own_x p0), vI (own_x p1), vI (own_x p2), vI (own_x p3), vR b165, vR b184, vI 1] [(.int 1)] _
                refine XS.iload X225.here hx rfl (hb hby at_225) rfl ?_
                show At p e below T225 m 227 #[vI p0, vI p1, vI p2, vI p3, vI p4, vI 4, vI (own_x p0), vI (own_x p1), vI (own_x p2), vI (own_x p3), vR b165, vR b184, vI 1] [(.int 1), (.int 1)] _
                refine XS.icmpNo X225.here hx rfl (hb hby at_227) rfl (teq (by decide : (1 : Int32) = (1 : Int32))).2 ?_
                show At p e below T225 m 230 #[vI p0, vI p1, vI p2, vI p3, vI p4, vI 4, vI (own_x p0), vI (own_x p1), vI (own_x p2), vI (own_x p3), vR b165, vR b184, vI 1] [] _
                refine XS.iconst X225.here hx rfl (hb hby at_230) ?_
                show At p e below T225 m 231 #[vI p0, vI p1, vI p2, vI p3, vI p4, vI 4, vI (own_x p0), vI (own_x p1), vI (own_x p2), vI (own_x p3), vR b165, vR b184, vI 1] [(.int 1)] _
                refine XS.goto X225.here hx rfl (pc0 := 231) (pc' := 235) rfl (hb hby at_231) (by decide) (by decide) ?_
                exact kt)
              have hk228 := (Nat.le_trans (Nat.le_trans (Nat.le_trans (Nat.le_trans (Nat.le_trans (Nat.le_trans (Nat.le_trans hk E165.1) (Keep.of_wr W169).1) (Keep.of_wr W173).1) (Keep.of_wr W177).1) (Keep.of_wr W181).1) E184.1) K190.1)
              obtain ⟨fs, hr, hrun, hended, -, hW, hI, hsame⟩ := X225.leaveW hS (he225.symm ▸ hk228) (v := (some (.int 1))) (fun h => by rw [Bd.returns] at h; cases h)
              refine ⟨_, _, pre227 _ ?_, hrun, hended, _, _, rfl, ?_, ⟨_, rfl⟩, hW, hI, hsame.mono (by decide) (by decide)⟩
              · show At p e below T225 m 235 #[vI p0, vI p1, vI p2, vI p3, vI p4, vI 4, vI (own_x p0), vI (own_x p1), vI (own_x p2), vI (own_x p3), vR b165, vR b184, vI 1] [(.int 1)] _
                exact retN X225 hx (t := .boolean) Bd.returns (by simp) (hb hby at_235) hr
              · show Q0 Z p0 p1 p2 p3 p4 cs u h0 n0 _ T225.heap _
                rw [he225]
                exact ⟨rfl, N225⟩
          · have o229 : Old Z n0 T190.heap := (o187.keep K190 (allS gg_b184 all0))
            have pre230 := fun t (kt : At p e below T194 m 222 #[vI p0, vI p1, vI p2, vI p3, vI p4, vI 4, vI (own_x p0), vI (own_x p1), vI (own_x p2), vI (own_x p3), vR b165, vR b184, vI 1] [(.ref b184)] t) => pre195 t (by
              show At p e below T194 m 168 #[vI p0, vI p1, vI p2, vI p3, vI p4, vI 4, vI (own_x p0), vI (own_x p1), vI (own_x p2), vI (own_x p3), vR b165, vR b184, vU] [(.int (own_w (own_x p0)))] _
              refine XS.ifYes X194.here hx rfl (pc0 := 168) (pc' := 213) rfl (hb hby at_168) rfl ((if0 _ _).trans (feq (d1 : ¬ ((own_w (own_x p0)) = (0 : Int32)))).2) (by decide) (by decide) ?_
              show At p e below T194 m 213 #[vI p0, vI p1, vI p2, vI p3, vI p4, vI 4, vI (own_x p0), vI (own_x p1), vI (own_x p2), vI (own_x p3), vR b165, vR b184, vU] [] _
              refine XS.iconst X194.here hx rfl (hb hby at_213) ?_
              show At p e below T194 m 214 #[vI p0, vI p1, vI p2, vI p3, vI p4, vI 4, vI (own_x p0), vI (own_x p1), vI (own_x p2), vI (own_x p3), vR b165, vR b184, vU] [(.int 1)] _
              refine XS.goto X194.here hx rfl (pc0 := 214) (pc' := 218) rfl (hb hby at_214) (by decide) (by decide) ?_
              show At p e below T194 m 218 #[vI p0, vI p1, vI p2, vI p3, vI p4, vI 4, vI (own_x p0), vI (own_x p1), vI (own_x p2), vI (own_x p3), vR b165, vR b184, vU] [(.int 1)] _
              refine XS.istore X194.here hx rfl (hb hby at_218) rfl (l' := #[vI p0, vI p1, vI p2, vI p3, vI p4, vI 4, vI (own_x p0), vI (own_x p1), vI (own_x p2), vI (own_x p3), vR b165, vR b184, vI 1]) rfl ?_
              show At p e below T194 m 220 #[vI p0, vI p1, vI p2, vI p3, vI p4, vI 4, vI (own_x p0), vI (own_x p1), vI (own_x p2), vI (own_x p3), vR b165, vR b184, vI 1] [] _
              refine XS.aload X194.here hx rfl (hb hby at_220) rfl rfl ?_
              exact kt)
            obtain ⟨_, _, ⟨T231, L231, kc231, nc231⟩, -, X231, ⟨Lc231, hQ231, l231, y231, z231⟩, st231⟩ := Jvm.LawKit.callS X194 hx (y := (⟨"beanforge/core/PathPattern", "isPattern", "(Ljava/lang/String;)Z"⟩ : MethodName)) hown (mvT hZ (wd hw 24 rfl)) (mvT hZ (wd hw 25 rfl)) (mvT hZ (wd hw 26 rfl)) (mvT hZ (wd hw 27 rfl)) (by decide) (backOf (W := 0) (rm4 l Z a0 hw [] b184 cs (4 : Int32) (8 : Int32) _ _ _ _ [(nar .char (own_x p0)), (nar .char (own_x p1)), (nar .char (own_x p2)), (nar .char (own_x p3))] T190.heap n0 o229 SC hcs S190 (by decide) (fun _ => by decide) (fun kk ab kb V ch hc => rm10 l Z a0 hw [] ab kb ch _ (4 : Int32) _ T190.heap n0 z192 V (by decide) (rm18_4 l Z a0 hw [] ab kb ch (nar .char (own_x p0)) (nar .char (own_x p1)) (nar .char (own_x p2)) (nar .char (own_x p3)) T190.heap n0 z192 V (own_Rn _) (own_Rn _) (own_Rn _) (own_Rn _) kk.1 kk.2.1 kk.2.2.1 kk.2.2.2.1 hc) hc) (fun _ ab kb V ch hc => rm24 l Z a0 hw [] ab kb ch u _ (8 : Int32) (4 : Int32) _ T190.heap n0 o229 hu SF V (by decide) (by decide) (by decide) (rm30_4 l Z a0 hw [] ab kb ch (nar .char (own_x p0)) (nar .char (own_x p1)) (nar .char (own_x p2)) (nar .char (own_x p3)) T190.heap n0 o229 SA SH SL V (own_Rn _) (own_Rn _) (own_Rn _) (own_Rn _)) hc)) hZ (wd hw 27 rfl) (wd hw 26 rfl) (by decide) (by decide)) (g := (mkF m 222 #[vI p0, vI p1, vI p2, vI p3, vI p4, vI 4, vI (own_x p0), vI (own_x p1), vI (own_x p2), vI (own_x p3), vR b165, vR b184, vI 1] [(.ref b184)])) rfl (by rw [hml]; rfl) (argsL := [(.ref b184)]) (rest := []) (lenOf pd_19 rfl) rfl (by show 2 * 0 + _ ≤ _; exact Nat.le_of_eq rfl) (hb hby at_222) (fun _ _ => ⟨rfl, he194, (by decide : 4 + 0 ≤ _), (by decide : 20 + 0 ≤ _)⟩)
            dsimp only [Pt.U, Pt.locs, Pt.cells, Pt.slots] at X231 l231 y231 z231 st231 hQ231
            subst l231 y231 z231
            obtain ⟨r231, rfl, N231q, he231, hr231⟩ := hQ231
            have N231 := Fr.app N194 N231q
            have pre232 := fun t (kt : At p e below T231 m 225 #[vI p0, vI p1, vI p2, vI p3, vI p4, vI 4, vI (own_x p0), vI (own_x p1), vI (own_x p2), vI (own_x p3), vR b165, vR b184, vI 1] [(.int r231)] t) => pre230 t (st231 _ kt)
            have hv : r231 = (1 : Int32) := own_r1 hr231 (own_w1 (by rw [own_nc]; exact d1))
            have pre233 := fun t (kt : At p e below T231 m 235 #[vI p0, vI p1, vI p2, vI p3, vI p4, vI 4, vI (own_x p0), vI (own_x p1), vI (own_x p2), vI (own_x p3), vR b165, vR b184, vI 1] [(.int 1)] t) => pre232 t (by
              show At p e below T231 m 225 #[vI p0, vI p1, vI p2, vI p3, vI p4, vI 4, vI (own_x p0), vI (own_x p1), vI (own_x p2), vI (own_x p3), vR b165, vR b184, vI 1] [(.int r231)] _
              rw [show r231 = (1 : Int32) from hv]
              show At p e below T231 m 225 #[vI p0, vI p1, vI p2, vI p3, vI p4, vI 4, vI (own_x p0), vI (own_x p1), vI (own_x p2), vI (own_x p3), vR b165, vR b184, vI 1] [(.int 1)] _
              refine XS.iload X231.here hx rfl (hb hby at_225) rfl ?_
              show At p e below T231 m 227 #[vI p0, vI p1, vI p2, vI p3, vI p4, vI 4, vI (own_x p0), vI (own_x p1), vI (own_x p2), vI (own_x p3), vR b165, vR b184, vI 1] [(.int 1), (.int 1)] _
              refine XS.icmpNo X231.here hx rfl (hb hby at_227) rfl (teq (by decide : (1 : Int32) = (1 : Int32))).2 ?_
              show At p e below T231 m 230 #[vI p0, vI p1, vI p2, vI p3, vI p4, vI 4, vI (own_x p0), vI (own_x p1), vI (own_x p2), vI (own_x p3), vR b165, vR b184, vI 1] [] _
              refine XS.iconst X231.here hx rfl (hb hby at_230) ?_
              show At p e below T231 m 231 #[vI p0, vI p1, vI p2, vI p3, vI p4, vI 4, vI (own_x p0), vI (own_x p1), vI (own_x p2), vI (own_x p3), vR b165, vR b184, vI 1] [(.int 1)] _
              refine XS.goto X231.here hx rfl (pc0 := 231) (pc' := 235) rfl (hb hby at_231) (by decide) (by decide) ?_
              exact kt)
            have hk234 := (Nat.le_trans (Nat.le_trans (Nat.le_trans (Nat.le_trans (Nat.le_trans (Nat.le_trans (Nat.le_trans hk E165.1) (Keep.of_wr W169).1) (Keep.of_wr W173).1) (Keep.of_wr W177).1) (Keep.of_wr W181).1) E184.1) K190.1)
            obtain ⟨fs, hr, hrun, hended, -, hW, hI, hsame⟩ := X231.leaveW hS (he231.symm ▸ hk234) (v := (some (.int 1))) (fun h => by rw [Bd.returns] at h; cases h)
            refine ⟨_, _, pre233 _ ?_, hrun, hended, _, _, rfl, ?_, ⟨_, rfl⟩, hW, hI, hsame.mono (by decide) (by decide)⟩
            · show At p e below T231 m 235 #[vI p0, vI p1, vI p2, vI p3, vI p4, vI 4, vI (own_x p0), vI (own_x p1), vI (own_x p2), vI (own_x p3), vR b165, vR b184, vI 1] [(.int 1)] _
              exact retN X231 hx (t := .boolean) Bd.returns (by simp) (hb hby at_235) hr
            · show Q0 Z p0 p1 p2 p3 p4 cs u h0 n0 _ T231.heap _
              rw [he231]
              exact ⟨rfl, N231⟩
theorem own_compact {s : State} {args : Array Value} (hsets : ∀ d ∈ jdkStatics_1, d.before args s = true) : ∃ cs : Int32, Sta s s.heap "java/lang/String" "COMPACT_STRINGS" "Z" (.int cs) ∧ ¬ (cs = (0 : Int32)) := by
  obtain ⟨cs, ev⟩ := is_v (Cond.before_iff.mp (hsets _ (List.mem_of_getElem? (i := 1) rfl)))
  refine ⟨cs, Sta.start ev (Or.inl (hsets _ (List.mem_of_getElem? (i := 0) rfl))), fun q => ?_⟩
  have h := Cond.before_iff.mp (hsets _ (List.mem_of_getElem? (i := 2) rfl))
  have h2 := not_v h
  subst q
  have h3 : (Jvm.Cond.eq (Jvm.Term.static "java/lang/String" "COMPACT_STRINGS" "Z") (Jvm.Term.int (0 : Int32))).value args s none s [] = some true := eq_i ev (Term.int_eval 0) rfl
  rw [h3] at h2
  cases h2

theorem own_stats {s : State} {args : Array Value} (hsets : ∀ d ∈ jdkStatics_1, d.before args s = true) : Sta s s.heap "java/lang/StringUTF16" "$assertionsDisabled" "Z" (.int 1) ∧ Sta s s.heap "java/lang/StringUTF16" "HI_BYTE_SHIFT" "I" (.int 0) ∧ Sta s s.heap "java/lang/StringUTF16" "LO_BYTE_SHIFT" "I" (.int 8) ∧ ∃ u : Value, u.isRef = true ∧ Sta s s.heap "jdk/internal/util/Preconditions" "SIOOBE_FORMATTER" "Ljava/util/function/BiFunction;" u := by
  have e1 := Cond.eq_int (show (Cond.eq (Term.static "java/lang/StringUTF16" "$assertionsDisabled" "Z") (.int 1)).holds args s none s [] = true from hsets _ (List.mem_of_getElem? (i := 12) rfl)) (rfl : (Term.int 1).eval args s none [] s = some (.int 1))
  have e2 := Cond.eq_int (show (Cond.eq (Term.static "java/lang/StringUTF16" "HI_BYTE_SHIFT" "I") (.int 0)).holds args s none s [] = true from hsets _ (List.mem_of_getElem? (i := 15) rfl)) (rfl : (Term.int 0).eval args s none [] s = some (.int 0))
  have e3 := Cond.eq_int (show (Cond.eq (Term.static "java/lang/StringUTF16" "LO_BYTE_SHIFT" "I") (.int 8)).holds args s none s [] = true from hsets _ (List.mem_of_getElem? (i := 18) rfl)) (rfl : (Term.int 8).eval args s none [] s = some (.int 8))
  obtain ⟨u, eu, hu⟩ := isR_v (Cond.before_iff.mp (hsets _ (List.mem_of_getElem? (i := 8) rfl)))
  exact ⟨Sta.start e1 (Or.inl (hsets _ (List.mem_of_getElem? (i := 11) rfl))), Sta.start e2 (Or.inl (hsets _ (List.mem_of_getElem? (i := 14) rfl))), Sta.start e3 (Or.inl (hsets _ (List.mem_of_getElem? (i := 17) rfl))), u, hu, Sta.start eu (Or.inl (hsets _ (List.mem_of_getElem? (i := 7) rfl)))⟩
set_option maxRecDepth 65536 in
set_option maxHeartbeats 40000000 in
theorem comes_1 {Post : Tables → Env → Array Value → State → Outcome → State → Prop} (hpost : ∀ tb e args s v u, (limb_1_1.after args s (.returned v) u = true ∧ limb_1_2.after args s (.returned v) u = true ∧ True) → ReturnedEndW s (.returned v) u (Jvm.fieldLocs frame_1_writes args s ++ Jvm.arrayLocs frame_1_arrays args s ++ Jvm.staticLocs frame_1_statics s) 24 1152 → Post tb e args s (.returned v) u) :
    ArmFor flags0 classFile x code maxLocals ret World_1 tables_1 room_1 Calls_1 rest_1 Pre_1 Post := by
  intro l hfl _ _ p e ha hc hk s m args below hf hA hF happ hP
  obtain ⟨hcalls, hrest, hpre⟩ := hP
  obtain ⟨-, -, -, hnamed, -, -, -, hat⟩ := (Spec.applies_iff hf).mp happ
  obtain ⟨hg, hn⟩ := and_e (Cond.before_iff.mp (show (Jvm.Cond.and given_1 narrow_1).before args s = true from hpre))
  obtain ⟨gc, g0⟩ := and_e hg
  obtain ⟨gg0, g1⟩ := and_e g0
  obtain ⟨gg1, g2⟩ := and_e g1
  obtain ⟨gg2, g3⟩ := and_e g2
  obtain ⟨gg3, g4⟩ := and_e g3
  obtain ⟨w0, w1, w2, w3, w4, rfl⟩ : ∃ w0 w1 w2 w3 w4 : Value, args = #[w0, w1, w2, w3, w4] := by
    have hs : args.size = 5 := by simpa [Cond.value, given_1] using gc
    obtain ⟨L⟩ := args
    match L, hs with
    | [w0, w1, w2, w3, w4], _ => exact ⟨w0, w1, w2, w3, w4, rfl⟩
  have hw := fun d (hd : d ∈ tables_1) => atoms_spec (ws := Jvm.Cond.code x code maxLocals ret :: tables_1) hat d (List.mem_cons_of_mem _ hd)
  have hfit : Fit s := fun {y c} hc i hi => by
    obtain ⟨ha, rfl⟩ := Array.getElem?_eq_some_iff.mp hc
    have q := List.all_eq_true.mp ((Array.all_eq_true_iff_forall_mem.mp hF) _ (Array.getElem_mem ha)) i (List.mem_range.mpr hi)
    simpa [Array.getElem?_eq_getElem hi] using q
  obtain ⟨i0, ei0⟩ := is_v gg0
  obtain rfl : w0 = (.int i0) := Option.some.inj ei0
  obtain ⟨i1, ei1⟩ := is_v gg1
  obtain rfl : w1 = (.int i1) := Option.some.inj ei1
  obtain ⟨i2, ei2⟩ := is_v gg2
  obtain rfl : w2 = (.int i2) := Option.some.inj ei2
  obtain ⟨i3, ei3⟩ := is_v gg3
  obtain rfl : w3 = (.int i3) := Option.some.inj ei3
  obtain ⟨i4, ei4⟩ := is_v g4
  obtain rfl : w4 = (.int i4) := Option.some.inj ei4
  obtain ⟨hsets, hown0⟩ := atoms_of _ (rest_1_c_eq ▸ (show rest_1_c.before _ s = true from hrest))
  obtain ⟨cs, SC, hcs⟩ := own_compact hsets
  obtain ⟨SA, SH, SL, u, hu, SF⟩ := own_stats hsets
  have hheld : ∀ p ∈ [("java/lang/String", (7 : Nat))], Jvm.Lit.constHeld s p.1 p.2 := hcalls.1
  have hC0 : CHv s [("java/lang/String", (7 : Nat))] s.vm s.heap := CHv.start (own_EL hw) hheld (hsets _ (List.mem_of_getElem? (i := 2) rfl)) (wd hw 17 rfl) (wd hw 4 rfl)
  obtain ⟨n, o, h1, h2, h3, _, L, rfl, ⟨rfl, N⟩, hq⟩ := rm0 l s _ hw tables_1 i0 i1 i2 i3 i4 cs u s.heap s.heap.size (Old.start s) SC hcs SA SH SL hu SF p e ha hc hk s m _ below hf ((Spec.applies_iff_loose hf).mp happ).1 ⟨rfl, State.Warmed39.refl s, rfl, hC0⟩ trivial
  refine ⟨n, _, h1, h2, h3, hpost _ _ _ _ _ _ ⟨Cond.after_iff.mpr rfl, Cond.after_iff.mpr (eq_i res_at (Term.int_eval (1)) rfl), trivial⟩ ⟨hq.1, hq.2.1, hq.2.2.1, (hq.2.2.2.sift fun y hy => Or.inr (N y hy)).mono (by decide) (by decide)⟩⟩
theorem main_1_1 : Claimed_1_1 := comes_1 fun _ _ _ _ _ _ h hF => ⟨h.1, hF⟩
theorem main_1_2 : Claimed_1_2 := comes_1 fun _ _ _ _ _ _ h hF => ⟨h.2.1, hF⟩
end Jvm.Pilot.@@N@@
namespace Jvm.Pilot.@@N@@
open Jvm Jvm.ClassFile Sem Op Lib Jvm.Free Jvm.Stand Jvm.Pilot.@@N@@.Jvm.D
/-! MADE BY PROGRAM (witnessworld.py) out of the Statement's table words and the real class files: 21 classes; the members and pool entries that the words name. The judged class is class 1, her method 2. -/
namespace start1
open Jvm.ClassFile
def u (s : String) : CpInfo := .utf8 (stringToUtf16 s)
/-- a pool by its gaps: so many unusable entries, then the entry; so many at the end -/
def gap : Nat → List CpInfo → List CpInfo
  | 0, r => r
  | n + 1, r => .unusable :: gap n r
def poolList (es : List (Nat × CpInfo)) (last : Nat) : List CpInfo := es.foldr (fun e r => gap e.1 (e.2 :: r)) (gap last [])
def pool (es : List (Nat × CpInfo)) (last : Nat) : Array CpInfo := ⟨poolList es last⟩
def fileOf (pool : Array CpInfo) (this : Nat) (attrs : Array Attribute := #[]) (ms : Array MethodInfo := #[]) (fl : Nat := 33) (sup : Nat := 0) (ifs : Array Nat := #[]) (fds : Array FieldInfo := #[]) : ClassFile where
  minorVersion := 0
  majorVersion := 65
  constantPool := pool
  accessFlags := fl
  thisClass := this
  superClass := sup
  interfaces := ifs
  fields := fds
  methods := ms
  attributes := attrs
def plain (name : String) (sup : Option ClassId) : Class where
  name := name
  kind := .ordinary
  loader := none
  accessFlags := 33
  super := sup
  interfaces := #[]
  cf := none
  fields := #[]
  methods := #[]
  instanceTypes := #[]
  staticTypes := #[]
  resolved := #[]
  callSites := []
  init := .initialized
  statics := none
  mirror := none

def pool0 : Array CpInfo := pool [(5, u "<init>"), (0, u "()V"), (1, .class_ 10), (1, u "java/lang/Object")] 113

def k0c0 : Code := { maxStack := 0, maxLocals := 1, code := object_method_1_code, exceptionTable := #[], attributes := #[] }
def k0m0 : Method := { name := "<init>", desc := "()V", sig := { parameters := [], returnType := none }, accessFlags := 1, code := some k0c0 }
/-- java/lang/Object -/
def k0 : Class := { plain "java/lang/Object" none with
  accessFlags := 33
  interfaces := #[]
  cf := some (fileOf pool0 8 #[] #[{ accessFlags := 1, nameIndex := 5, descriptorIndex := 6, attributes := #[] }] 33 0 #[] #[])
  fields := #[]
  methods := #[k0m0]
  instanceTypes := #[]
  staticTypes := #[]
  resolved := Array.replicate 124 none
  statics := none }

def pool1 : Array CpInfo := pool [(2, .class_ 4), (1, u "java/lang/Object"), (0, u "<init>"), (0, u "()V"), (0, .integer 2147483647), (0, .integer 65535), (0, .class_ 10), (0, u "java/lang/String"), (0, .methodref 9 12), (0, .nameAndType 5 13), (0, u "([C)V"), (0, .methodref 15 16), (0, .class_ 17), (0, .nameAndType 18 19), (0, u "beanforge/core/PathPatternIsPatternPinLaw"), (0, u "wild"), (0, u "(C)Z"), (0, .methodref 21 22), (0, .class_ 23), (0, .nameAndType 24 25), (0, u "beanforge/core/PathPattern"), (0, u "isPattern"), (0, u "(Ljava/lang/String;)Z"), (3, u "law"), (0, u "(IIIII)Z")] 4

def k1m0 : Method := { name := "<init>", desc := "()V", sig := { parameters := [], returnType := none }, accessFlags := 1, code := none }
def k1c1 : Code := { maxStack := 2, maxLocals := 1, code := method_2_code, exceptionTable := #[], attributes := #[] }
def k1m1 : Method := { name := "wild", desc := "(C)Z", sig := { parameters := [.char], returnType := some .boolean }, accessFlags := 10, code := some k1c1 }
def k1c2 : Code := { maxStack := 4, maxLocals := 13, code := code, exceptionTable := #[], attributes := #[] }
def k1m2 : Method := { name := "law", desc := "(IIIII)Z", sig := { parameters := [.int, .int, .int, .int, .int], returnType := some .boolean }, accessFlags := 9, code := some k1c2 }
/-- beanforge/core/PathPatternIsPatternPinLaw -/
def k1 : Class := { plain "beanforge/core/PathPatternIsPatternPinLaw" (some 0) with
  accessFlags := 49
  interfaces := #[]
  cf := some (fileOf pool1 15 #[] #[{ accessFlags := 1, nameIndex := 5, descriptorIndex := 6, attributes := #[] }, { accessFlags := 10, nameIndex := 18, descriptorIndex := 19, attributes := #[] }, { accessFlags := 9, nameIndex := 29, descriptorIndex := 30, attributes := #[] }] 49 2 #[] #[])
  fields := #[]
  methods := #[k1m0, k1m1, k1m2]
  instanceTypes := #[]
  staticTypes := #[]
  resolved := Array.replicate 35 none
  statics := none }

def pool2 : Array CpInfo := pool [(1, .class_ 2), (0, u "java/io/Serializable"), (0, .class_ 4), (0, u "java/lang/Object")] 2

/-- java/io/Serializable -/
def k2 : Class := { plain "java/io/Serializable" (some 0) with
  accessFlags := 1537
  interfaces := #[]
  cf := some (fileOf pool2 1 #[] #[] 1537 3 #[] #[])
  fields := #[]
  methods := #[]
  instanceTypes := #[]
  staticTypes := #[]
  resolved := Array.replicate 7 none
  statics := none }

def pool3 : Array CpInfo := pool [(1, .class_ 2), (0, u "java/lang/Comparable"), (0, .class_ 4), (0, u "java/lang/Object")] 7

/-- java/lang/Comparable -/
def k3 : Class := { plain "java/lang/Comparable" (some 0) with
  accessFlags := 1537
  interfaces := #[]
  cf := some (fileOf pool3 1 #[] #[] 1537 3 #[] #[])
  fields := #[]
  methods := #[]
  instanceTypes := #[]
  staticTypes := #[]
  resolved := Array.replicate 12 none
  statics := none }

def pool4 : Array CpInfo := pool [(2, .class_ 4), (1, u "java/lang/CharSequence"), (42, .class_ 48), (0, u "java/lang/CharSequence$1CodePointIterator"), (10, .class_ 60), (0, u "java/lang/CharSequence$1CharIterator"), (5, .class_ 67), (0, u "java/lang/Object")] 63

/-- java/lang/CharSequence -/
def k4 : Class := { plain "java/lang/CharSequence" (some 0) with
  accessFlags := 1537
  interfaces := #[]
  cf := some (fileOf pool4 2 #[.nestMembers #[47, 59]] #[] 1537 66 #[] #[])
  fields := #[]
  methods := #[]
  instanceTypes := #[]
  staticTypes := #[]
  resolved := Array.replicate 131 none
  statics := none }

def pool5 : Array CpInfo := pool [(1, .class_ 2), (0, u "java/lang/constant/Constable"), (0, .class_ 4), (0, u "java/lang/Object")] 6

/-- java/lang/constant/Constable -/
def k5 : Class := { plain "java/lang/constant/Constable" (some 0) with
  accessFlags := 1537
  interfaces := #[]
  cf := some (fileOf pool5 1 #[] #[] 1537 3 #[] #[])
  fields := #[]
  methods := #[]
  instanceTypes := #[]
  staticTypes := #[]
  resolved := Array.replicate 11 none
  statics := none }

def pool6 : Array CpInfo := pool [(1, .class_ 2), (0, u "java/lang/constant/ConstantDesc"), (0, .class_ 4), (0, u "java/lang/Object")] 32

/-- java/lang/constant/ConstantDesc -/
def k6 : Class := { plain "java/lang/constant/ConstantDesc" (some 0) with
  accessFlags := 1537
  interfaces := #[]
  cf := some (fileOf pool6 1 #[] #[] 1537 3 #[] #[])
  fields := #[]
  methods := #[]
  instanceTypes := #[]
  staticTypes := #[]
  resolved := Array.replicate 37 none
  statics := none }

def pool7 : Array CpInfo := pool [(1, .methodref 2 3), (0, .class_ 4), (0, .nameAndType 5 6), (0, u "java/lang/Object"), (0, u "<init>"), (0, u "()V"), (0, .string 8), (0, u ""), (0, .fieldref 10 11), (0, .class_ 12), (0, .nameAndType 13 14), (0, u "java/lang/String"), (0, u "value"), (0, u "[B"), (0, .fieldref 10 16), (0, .nameAndType 17 18), (0, u "coder"), (0, u "B"), (2, u "hash"), (0, u "I"), (2, u "hashIsZero"), (0, u "Z"), (0, .methodref 10 28), (0, .nameAndType 5 29), (0, u "([CIILjava/lang/Void;)V"), (8, .fieldref 10 39), (0, .nameAndType 40 26), (0, u "COMPACT_STRINGS"), (1, .class_ 44), (1, u "java/lang/StringUTF16"), (0, u "compress"), (1, .methodref 42 48), (0, .nameAndType 49 50), (0, u "coderFromArrayLen"), (0, u "([BI)B"), (56, .class_ 109), (1, u "java/lang/StringLatin1"), (32, u "()Z"), (34, .methodref 42 178), (0, .nameAndType 45 179), (0, u "([CII)[B"), (154, u "()I"), (0, .methodref 10 336), (0, .nameAndType 17 337), (0, u "()B"), (154, .methodref 10 493), (0, .nameAndType 494 142), (0, u "isLatin1"), (10, .methodref 10 506), (0, .nameAndType 507 334), (0, u "length"), (5, u "checkFromToIndex"), (9, u "checkBoundsBeginEnd"), (0, u "(III)V"), (50, .class_ 576), (0, u "java/lang/CharSequence"), (22, u "CASE_INSENSITIVE_ORDER"), (0, u "Ljava/util/Comparator;"), (32, .methodref 10 634), (0, .nameAndType 635 636), (0, u "indexOf"), (0, u "(II)I"), (0, .methodref 107 638), (0, .nameAndType 635 639), (0, u "([BIII)I"), (0, .methodref 42 638), (124, u "(I)I"), (244, u "([C)V"), (42, .fieldref 1054 1055), (0, .class_ 1056), (0, .nameAndType 1057 1058), (0, u "jdk/internal/util/Preconditions"), (0, u "SIOOBE_FORMATTER"), (0, u "Ljava/util/function/BiFunction;"), (3, .methodref 1054 1063), (0, .nameAndType 513 1064), (0, u "(IIILjava/util/function/BiFunction;)I"), (36, u "serialPersistentFields"), (0, u "[Ljava/io/ObjectStreamField;"), (0, .class_ 1104), (0, u "java/lang/String$CaseInsensitiveComparator"), (1, .class_ 1107), (0, u "java/io/Serializable"), (0, .class_ 1109), (0, u "java/lang/Comparable"), (0, .class_ 1111), (0, u "java/lang/constant/Constable"), (0, .class_ 1113), (0, u "java/lang/constant/ConstantDesc"), (2, u "serialVersionUID"), (0, u "J"), (3, u "REPL"), (0, u "C"), (2, u "LATIN1"), (1, u "UTF16")] 323

def k7m0 : Method := { name := "<init>", desc := "()V", sig := { parameters := [], returnType := none }, accessFlags := 1, code := none }
def k7c1 : Code := { maxStack := 5, maxLocals := 2, code := jdk_42_method_3_code, exceptionTable := #[], attributes := #[] }
def k7m1 : Method := { name := "<init>", desc := "([C)V", sig := { parameters := [(.array .char)], returnType := none }, accessFlags := 1, code := some k7c1 }
def k7c2 : Code := { maxStack := 2, maxLocals := 1, code := jdk_42_method_54_code, exceptionTable := #[], attributes := #[] }
def k7m2 : Method := { name := "length", desc := "()I", sig := { parameters := [], returnType := some .int }, accessFlags := 1, code := some k7c2 }
def k7c3 : Code := { maxStack := 3, maxLocals := 2, code := jdk_42_method_79_code, exceptionTable := #[], attributes := #[] }
def k7m3 : Method := { name := "indexOf", desc := "(I)I", sig := { parameters := [.int], returnType := some .int }, accessFlags := 1, code := some k7c3 }
def k7c4 : Code := { maxStack := 4, maxLocals := 3, code := jdk_42_method_80_code, exceptionTable := #[], attributes := #[] }
def k7m4 : Method := { name := "indexOf", desc := "(II)I", sig := { parameters := [.int, .int], returnType := some .int }, accessFlags := 1, code := some k7c4 }
def k7c5 : Code := { maxStack := 4, maxLocals := 6, code := jdk_42_method_149_code, exceptionTable := #[], attributes := #[] }
def k7m5 : Method := { name := "<init>", desc := "([CIILjava/lang/Void;)V", sig := { parameters := [(.array .char), .int, .int, (.object "java/lang/Void")], returnType := none }, accessFlags := 2, code := some k7c5 }
def k7c6 : Code := { maxStack := 1, maxLocals := 1, code := jdk_42_method_152_code, exceptionTable := #[], attributes := #[] }
def k7m6 : Method := { name := "coder", desc := "()B", sig := { parameters := [], returnType := some .byte }, accessFlags := 0, code := some k7c6 }
def k7c7 : Code := { maxStack := 1, maxLocals := 1, code := jdk_42_method_154_code, exceptionTable := #[], attributes := #[] }
def k7m7 : Method := { name := "isLatin1", desc := "()Z", sig := { parameters := [], returnType := some .boolean }, accessFlags := 0, code := some k7c7 }
def k7c8 : Code := { maxStack := 4, maxLocals := 3, code := jdk_42_method_158_code, exceptionTable := #[], attributes := #[] }
def k7m8 : Method := { name := "checkBoundsBeginEnd", desc := "(III)V", sig := { parameters := [.int, .int, .int], returnType := none }, accessFlags := 8, code := some k7c8 }
/-- java/lang/String -/
def k7 : Class := { plain "java/lang/String" (some 0) with
  accessFlags := 49
  interfaces := #[2, 3, 4, 5, 6]
  cf := some (fileOf pool7 10 #[.nestMembers #[1103]] #[{ accessFlags := 1, nameIndex := 5, descriptorIndex := 6, attributes := #[] }, { accessFlags := 1, nameIndex := 5, descriptorIndex := 1010, attributes := #[] }, { accessFlags := 1, nameIndex := 507, descriptorIndex := 334, attributes := #[] }, { accessFlags := 1, nameIndex := 635, descriptorIndex := 765, attributes := #[] }, { accessFlags := 1, nameIndex := 635, descriptorIndex := 636, attributes := #[] }, { accessFlags := 2, nameIndex := 5, descriptorIndex := 29, attributes := #[] }, { accessFlags := 0, nameIndex := 17, descriptorIndex := 337, attributes := #[] }, { accessFlags := 0, nameIndex := 494, descriptorIndex := 142, attributes := #[] }, { accessFlags := 8, nameIndex := 523, descriptorIndex := 524, attributes := #[] }] 49 2 #[1106, 1108, 575, 1110, 1112] #[{ accessFlags := 18, nameIndex := 13, descriptorIndex := 14, attributes := #[] }, { accessFlags := 18, nameIndex := 17, descriptorIndex := 18, attributes := #[] }, { accessFlags := 2, nameIndex := 21, descriptorIndex := 22, attributes := #[] }, { accessFlags := 2, nameIndex := 25, descriptorIndex := 26, attributes := #[] }, { accessFlags := 26, nameIndex := 1116, descriptorIndex := 1117, attributes := #[] }, { accessFlags := 24, nameIndex := 40, descriptorIndex := 26, attributes := #[] }, { accessFlags := 26, nameIndex := 1101, descriptorIndex := 1102, attributes := #[] }, { accessFlags := 26, nameIndex := 1121, descriptorIndex := 1122, attributes := #[] }, { accessFlags := 25, nameIndex := 599, descriptorIndex := 600, attributes := #[] }, { accessFlags := 24, nameIndex := 1125, descriptorIndex := 18, attributes := #[] }, { accessFlags := 24, nameIndex := 1127, descriptorIndex := 18, attributes := #[] }])
  fields := #[{ name := "value", type := (.array .byte), accessFlags := 18, slot := 0, constantValue := 0 }, { name := "coder", type := .byte, accessFlags := 18, slot := 1, constantValue := 0 }, { name := "hash", type := .int, accessFlags := 2, slot := 2, constantValue := 0 }, { name := "hashIsZero", type := .boolean, accessFlags := 2, slot := 3, constantValue := 0 }, { name := "serialVersionUID", type := .long, accessFlags := 26, slot := 0, constantValue := 0 }, { name := "COMPACT_STRINGS", type := .boolean, accessFlags := 24, slot := 1, constantValue := 0 }, { name := "serialPersistentFields", type := (.array (.object "java/io/ObjectStreamField")), accessFlags := 26, slot := 2, constantValue := 0 }, { name := "REPL", type := .char, accessFlags := 26, slot := 3, constantValue := 0 }, { name := "CASE_INSENSITIVE_ORDER", type := (.object "java/util/Comparator"), accessFlags := 25, slot := 4, constantValue := 0 }, { name := "LATIN1", type := .byte, accessFlags := 24, slot := 5, constantValue := 0 }, { name := "UTF16", type := .byte, accessFlags := 24, slot := 6, constantValue := 0 }]
  methods := #[k7m0, k7m1, k7m2, k7m3, k7m4, k7m5, k7m6, k7m7, k7m8]
  instanceTypes := #[(.array .byte), .byte, .int, .boolean]
  staticTypes := #[.long, .boolean, (.array (.object "java/io/ObjectStreamField")), .char, (.object "java/util/Comparator"), .byte, .byte]
  resolved := Array.replicate 1451 none
  statics := some 0 }

def pool8 : Array CpInfo := pool [(2, .class_ 4), (1, u "java/lang/Object"), (3, .class_ 10), (1, u "beanforge/core/PathPattern"), (0, u "base"), (0, u "Ljava/lang/String;"), (2, u "below"), (0, u "Ljava/util/regex/Pattern;"), (2, u "depth"), (0, u "I"), (0, .methodref 22 23), (0, .class_ 24), (0, .nameAndType 25 26), (0, u "java/lang/String"), (0, u "indexOf"), (0, u "(I)I"), (90, u "ANY_DIRECTORIES"), (3, u "isPattern"), (0, u "(Ljava/lang/String;)Z")] 7

def k8c0 : Code := { maxStack := 2, maxLocals := 1, code := prog_81_method_2_code, exceptionTable := #[], attributes := #[] }
def k8m0 : Method := { name := "isPattern", desc := "(Ljava/lang/String;)Z", sig := { parameters := [(.object "java/lang/String")], returnType := some .boolean }, accessFlags := 8, code := some k8c0 }
/-- beanforge/core/PathPattern -/
def k8 : Class := { plain "beanforge/core/PathPattern" (some 0) with
  accessFlags := 48
  interfaces := #[]
  cf := some (fileOf pool8 8 #[] #[{ accessFlags := 8, nameIndex := 121, descriptorIndex := 122, attributes := #[] }] 48 2 #[] #[{ accessFlags := 26, nameIndex := 117, descriptorIndex := 12, attributes := #[] }, { accessFlags := 18, nameIndex := 11, descriptorIndex := 12, attributes := #[] }, { accessFlags := 18, nameIndex := 15, descriptorIndex := 16, attributes := #[] }, { accessFlags := 18, nameIndex := 19, descriptorIndex := 20, attributes := #[] }])
  fields := #[{ name := "ANY_DIRECTORIES", type := (.object "java/lang/String"), accessFlags := 26, slot := 0, constantValue := 0 }, { name := "base", type := (.object "java/lang/String"), accessFlags := 18, slot := 0, constantValue := 0 }, { name := "below", type := (.object "java/util/regex/Pattern"), accessFlags := 18, slot := 1, constantValue := 0 }, { name := "depth", type := .int, accessFlags := 18, slot := 2, constantValue := 0 }]
  methods := #[k8m0]
  instanceTypes := #[(.object "java/lang/String"), (.object "java/util/regex/Pattern"), .int]
  staticTypes := #[(.object "java/lang/String")]
  resolved := Array.replicate 130 none
  statics := none }

def pool9 : Array CpInfo := pool [(4, .class_ 6), (1, u "java/lang/Object"), (0, u "<init>"), (0, u "()V"), (5, .class_ 16), (1, u "java/lang/StringLatin1"), (21, .methodref 39 40), (0, .class_ 41), (0, .nameAndType 42 43), (0, u "java/lang/Math"), (0, u "min"), (0, u "(II)I"), (44, .methodref 14 89), (0, .nameAndType 90 91), (0, u "canEncode"), (0, u "(I)Z"), (0, .methodref 39 93), (0, .nameAndType 94 43), (0, u "max"), (0, .methodref 14 96), (0, .nameAndType 97 98), (0, u "indexOfChar"), (0, u "([BIII)I"), (2, u "indexOf"), (19, u "$assertionsDisabled"), (0, u "Z"), (98, .class_ 223), (1, u "java/lang/StringLatin1$LinesSpliterator"), (166, .class_ 391), (0, u "java/lang/StringLatin1$CharsSpliterator")] 3

def k9m0 : Method := { name := "<init>", desc := "()V", sig := { parameters := [], returnType := none }, accessFlags := 0, code := none }
def k9c1 : Code := { maxStack := 2, maxLocals := 1, code := jdk_43_method_4_code, exceptionTable := #[], attributes := #[] }
def k9m1 : Method := { name := "canEncode", desc := "(I)Z", sig := { parameters := [.int], returnType := some .boolean }, accessFlags := 9, code := some k9c1 }
def k9c2 : Code := { maxStack := 4, maxLocals := 4, code := jdk_43_method_22_code, exceptionTable := #[], attributes := #[] }
def k9m2 : Method := { name := "indexOf", desc := "([BIII)I", sig := { parameters := [(.array .byte), .int, .int, .int], returnType := some .int }, accessFlags := 9, code := some k9c2 }
def k9c3 : Code := { maxStack := 2, maxLocals := 6, code := jdk_43_method_23_code, exceptionTable := #[], attributes := #[] }
def k9m3 : Method := { name := "indexOfChar", desc := "([BIII)I", sig := { parameters := [(.array .byte), .int, .int, .int], returnType := some .int }, accessFlags := 10, code := some k9c3 }
/-- java/lang/StringLatin1 -/
def k9 : Class := { plain "java/lang/StringLatin1" (some 0) with
  accessFlags := 48
  interfaces := #[]
  cf := some (fileOf pool9 14 #[.nestMembers #[390, 221]] #[{ accessFlags := 0, nameIndex := 7, descriptorIndex := 8, attributes := #[] }, { accessFlags := 9, nameIndex := 90, descriptorIndex := 91, attributes := #[] }, { accessFlags := 9, nameIndex := 101, descriptorIndex := 98, attributes := #[] }, { accessFlags := 10, nameIndex := 97, descriptorIndex := 98, attributes := #[] }] 48 4 #[] #[{ accessFlags := 4120, nameIndex := 121, descriptorIndex := 122, attributes := #[] }])
  fields := #[{ name := "$assertionsDisabled", type := .boolean, accessFlags := 4120, slot := 0, constantValue := 0 }]
  methods := #[k9m0, k9m1, k9m2, k9m3]
  instanceTypes := #[]
  staticTypes := #[.boolean]
  resolved := Array.replicate 395 none
  statics := none }

def pool10 : Array CpInfo := pool [(1, .class_ 2), (0, u "java/lang/Math"), (1, .class_ 6), (1, u "java/lang/Object"), (0, u "<init>"), (0, u "()V"), (89, .class_ 100), (1, u "java/lang/Math$RandomNumberGeneratorHolder"), (71, u "negativeZeroFloatBits"), (0, u "J"), (2, u "negativeZeroDoubleBits"), (21, u "max"), (2, u "min"), (43, u "$assertionsDisabled"), (0, u "Z"), (88, u "(II)I"), (2, u "twoToTheDoubleScaleDown"), (0, u "D"), (4, u "twoToTheDoubleScaleUp"), (9, u "E"), (3, u "PI"), (2, u "TAU"), (2, u "DEGREES_TO_RADIANS"), (0, u "RADIANS_TO_DEGREES")] 94

def k10m0 : Method := { name := "<init>", desc := "()V", sig := { parameters := [], returnType := none }, accessFlags := 2, code := none }
def k10c1 : Code := { maxStack := 2, maxLocals := 2, code := jdk_29_method_65_code, exceptionTable := #[], attributes := #[] }
def k10m1 : Method := { name := "max", desc := "(II)I", sig := { parameters := [.int, .int], returnType := some .int }, accessFlags := 9, code := some k10c1 }
def k10c2 : Code := { maxStack := 2, maxLocals := 2, code := jdk_29_method_69_code, exceptionTable := #[], attributes := #[] }
def k10m2 : Method := { name := "min", desc := "(II)I", sig := { parameters := [.int, .int], returnType := some .int }, accessFlags := 9, code := some k10c2 }
/-- java/lang/Math -/
def k10 : Class := { plain "java/lang/Math" (some 0) with
  accessFlags := 49
  interfaces := #[]
  cf := some (fileOf pool10 1 #[.nestMembers #[98]] #[{ accessFlags := 2, nameIndex := 7, descriptorIndex := 8, attributes := #[] }, { accessFlags := 9, nameIndex := 198, descriptorIndex := 335, attributes := #[] }, { accessFlags := 9, nameIndex := 201, descriptorIndex := 335, attributes := #[] }] 49 4 #[] #[{ accessFlags := 25, nameIndex := 354, descriptorIndex := 339, attributes := #[] }, { accessFlags := 25, nameIndex := 358, descriptorIndex := 339, attributes := #[] }, { accessFlags := 25, nameIndex := 361, descriptorIndex := 339, attributes := #[] }, { accessFlags := 26, nameIndex := 364, descriptorIndex := 339, attributes := #[] }, { accessFlags := 26, nameIndex := 365, descriptorIndex := 339, attributes := #[] }, { accessFlags := 26, nameIndex := 172, descriptorIndex := 173, attributes := #[] }, { accessFlags := 26, nameIndex := 176, descriptorIndex := 173, attributes := #[] }, { accessFlags := 8, nameIndex := 344, descriptorIndex := 339, attributes := #[] }, { accessFlags := 8, nameIndex := 338, descriptorIndex := 339, attributes := #[] }, { accessFlags := 4120, nameIndex := 245, descriptorIndex := 246, attributes := #[] }])
  fields := #[{ name := "E", type := .double, accessFlags := 25, slot := 0, constantValue := 0 }, { name := "PI", type := .double, accessFlags := 25, slot := 1, constantValue := 0 }, { name := "TAU", type := .double, accessFlags := 25, slot := 2, constantValue := 0 }, { name := "DEGREES_TO_RADIANS", type := .double, accessFlags := 26, slot := 3, constantValue := 0 }, { name := "RADIANS_TO_DEGREES", type := .double, accessFlags := 26, slot := 4, constantValue := 0 }, { name := "negativeZeroFloatBits", type := .long, accessFlags := 26, slot := 5, constantValue := 0 }, { name := "negativeZeroDoubleBits", type := .long, accessFlags := 26, slot := 6, constantValue := 0 }, { name := "twoToTheDoubleScaleUp", type := .double, accessFlags := 8, slot := 7, constantValue := 0 }, { name := "twoToTheDoubleScaleDown", type := .double, accessFlags := 8, slot := 8, constantValue := 0 }, { name := "$assertionsDisabled", type := .boolean, accessFlags := 4120, slot := 9, constantValue := 0 }]
  methods := #[k10m0, k10m1, k10m2]
  instanceTypes := #[]
  staticTypes := #[.double, .double, .double, .double, .double, .long, .long, .double, .double, .boolean]
  resolved := Array.replicate 460 none
  statics := none }

def pool11 : Array CpInfo := pool [(3, .class_ 4), (0, u "java/lang/String"), (1, .class_ 8), (1, u "java/lang/Object"), (0, u "<init>"), (0, u "()V"), (0, .methodref 12 13), (0, .class_ 14), (0, .nameAndType 15 16), (0, u "java/lang/StringUTF16"), (0, u "newBytesLength"), (0, u "(I)I"), (3, .integer 1073741823), (23, .fieldref 12 45), (0, .nameAndType 46 47), (0, u "$assertionsDisabled"), (0, u "Z"), (0, .methodref 12 49), (0, .nameAndType 50 51), (0, u "length"), (0, u "([B)I"), (7, .fieldref 12 60), (0, .nameAndType 61 62), (0, u "HI_BYTE_SHIFT"), (0, u "I"), (0, .fieldref 12 64), (0, .nameAndType 65 62), (0, u "LO_BYTE_SHIFT"), (5, .methodref 12 72), (0, .nameAndType 73 74), (0, u "getChar"), (0, u "([BI)C"), (21, .methodref 12 97), (0, .nameAndType 98 99), (0, u "checkBoundsBeginEnd"), (0, u "(II[B)V"), (7, .methodref 12 108), (0, .nameAndType 109 110), (0, u "newBytesFor"), (0, u "(I)[B"), (0, .methodref 12 112), (0, .nameAndType 113 114), (0, u "putChar"), (0, u "([BII)V"), (0, .methodref 12 116), (0, .nameAndType 117 118), (0, u "compress"), (0, u "([CI[BII)I"), (0, .methodref 12 120), (0, .nameAndType 121 122), (0, u "toBytes"), (0, u "([CII)[B"), (60, .methodref 184 185), (0, .class_ 186), (0, .nameAndType 187 188), (0, u "java/lang/Math"), (0, u "min"), (0, u "(II)I"), (35, .methodref 184 225), (0, .nameAndType 226 188), (0, u "max"), (0, .integer 65536), (0, .methodref 12 229), (0, .nameAndType 230 231), (0, u "indexOfChar"), (0, u "([BIII)I"), (9, .methodref 3 242), (0, .nameAndType 98 243), (0, u "(III)V"), (0, .methodref 12 245), (0, .nameAndType 246 231), (0, u "indexOfCharUnsafe"), (14, u "coderFromArrayLen"), (0, u "([BI)B"), (5, u "indexOf"), (100, .class_ 371), (1, u "java/lang/StringUTF16$LinesSpliterator"), (58, u "MAX_LENGTH"), (196, .class_ 628), (0, u "java/lang/StringUTF16$CodePointsSpliterator"), (0, .class_ 630), (0, u "java/lang/StringUTF16$CharsSpliterator")] 4

def k11m0 : Method := { name := "<init>", desc := "()V", sig := { parameters := [], returnType := none }, accessFlags := 0, code := none }
def k11c1 : Code := { maxStack := 1, maxLocals := 1, code := jdk_52_method_2_code, exceptionTable := #[], attributes := #[] }
def k11m1 : Method := { name := "newBytesFor", desc := "(I)[B", sig := { parameters := [.int], returnType := some (.array .byte) }, accessFlags := 9, code := some k11c1 }
def k11c2 : Code := { maxStack := 4, maxLocals := 1, code := jdk_52_method_3_code, exceptionTable := #[], attributes := #[] }
def k11m2 : Method := { name := "newBytesLength", desc := "(I)I", sig := { parameters := [.int], returnType := some .int }, accessFlags := 9, code := some k11c2 }
def k11c3 : Code := { maxStack := 4, maxLocals := 3, code := jdk_52_method_4_code, exceptionTable := #[], attributes := #[] }
def k11m3 : Method := { name := "putChar", desc := "([BII)V", sig := { parameters := [(.array .byte), .int, .int], returnType := none }, accessFlags := 8, code := some k11c3 }
def k11c4 : Code := { maxStack := 3, maxLocals := 2, code := jdk_52_method_5_code, exceptionTable := #[], attributes := #[] }
def k11m4 : Method := { name := "getChar", desc := "([BI)C", sig := { parameters := [(.array .byte), .int], returnType := some .char }, accessFlags := 8, code := some k11c4 }
def k11c5 : Code := { maxStack := 2, maxLocals := 1, code := jdk_52_method_6_code, exceptionTable := #[], attributes := #[] }
def k11m5 : Method := { name := "length", desc := "([B)I", sig := { parameters := [(.array .byte)], returnType := some .int }, accessFlags := 9, code := some k11c5 }
def k11c6 : Code := { maxStack := 4, maxLocals := 5, code := jdk_52_method_14_code, exceptionTable := #[], attributes := #[] }
def k11m6 : Method := { name := "toBytes", desc := "([CII)[B", sig := { parameters := [(.array .char), .int, .int], returnType := some (.array .byte) }, accessFlags := 9, code := some k11c6 }
def k11c7 : Code := { maxStack := 2, maxLocals := 2, code := jdk_52_method_15_code, exceptionTable := #[], attributes := #[] }
def k11m7 : Method := { name := "coderFromArrayLen", desc := "([BI)B", sig := { parameters := [(.array .byte), .int], returnType := some .byte }, accessFlags := 8, code := some k11c7 }
def k11c8 : Code := { maxStack := 5, maxLocals := 6, code := jdk_52_method_16_code, exceptionTable := #[], attributes := #[] }
def k11m8 : Method := { name := "compress", desc := "([CII)[B", sig := { parameters := [(.array .char), .int, .int], returnType := some (.array .byte) }, accessFlags := 9, code := some k11c8 }
def k11c9 : Code := { maxStack := 3, maxLocals := 7, code := jdk_52_method_21_code, exceptionTable := #[], attributes := #[] }
def k11m9 : Method := { name := "compress", desc := "([CI[BII)I", sig := { parameters := [(.array .char), .int, (.array .byte), .int, .int], returnType := some .int }, accessFlags := 9, code := some k11c9 }
def k11c10 : Code := { maxStack := 4, maxLocals := 4, code := jdk_52_method_40_code, exceptionTable := #[], attributes := #[] }
def k11m10 : Method := { name := "indexOf", desc := "([BIII)I", sig := { parameters := [(.array .byte), .int, .int, .int], returnType := some .int }, accessFlags := 9, code := some k11c10 }
def k11c11 : Code := { maxStack := 4, maxLocals := 4, code := jdk_52_method_47_code, exceptionTable := #[], attributes := #[] }
def k11m11 : Method := { name := "indexOfChar", desc := "([BIII)I", sig := { parameters := [(.array .byte), .int, .int, .int], returnType := some .int }, accessFlags := 10, code := some k11c11 }
def k11c12 : Code := { maxStack := 2, maxLocals := 5, code := jdk_52_method_48_code, exceptionTable := #[], attributes := #[] }
def k11m12 : Method := { name := "indexOfCharUnsafe", desc := "([BIII)I", sig := { parameters := [(.array .byte), .int, .int, .int], returnType := some .int }, accessFlags := 10, code := some k11c12 }
def k11c13 : Code := { maxStack := 3, maxLocals := 3, code := jdk_52_method_93_code, exceptionTable := #[], attributes := #[] }
def k11m13 : Method := { name := "checkBoundsBeginEnd", desc := "(II[B)V", sig := { parameters := [.int, .int, (.array .byte)], returnType := none }, accessFlags := 9, code := some k11c13 }
/-- java/lang/StringUTF16 -/
def k11 : Class := { plain "java/lang/StringUTF16" (some 0) with
  accessFlags := 48
  interfaces := #[]
  cf := some (fileOf pool11 12 #[.nestMembers #[627, 629, 369]] #[{ accessFlags := 0, nameIndex := 9, descriptorIndex := 10, attributes := #[] }, { accessFlags := 9, nameIndex := 109, descriptorIndex := 110, attributes := #[] }, { accessFlags := 9, nameIndex := 15, descriptorIndex := 16, attributes := #[] }, { accessFlags := 8, nameIndex := 113, descriptorIndex := 114, attributes := #[] }, { accessFlags := 8, nameIndex := 73, descriptorIndex := 74, attributes := #[] }, { accessFlags := 9, nameIndex := 50, descriptorIndex := 51, attributes := #[] }, { accessFlags := 9, nameIndex := 121, descriptorIndex := 122, attributes := #[] }, { accessFlags := 8, nameIndex := 261, descriptorIndex := 262, attributes := #[] }, { accessFlags := 9, nameIndex := 117, descriptorIndex := 122, attributes := #[] }, { accessFlags := 9, nameIndex := 117, descriptorIndex := 118, attributes := #[] }, { accessFlags := 9, nameIndex := 268, descriptorIndex := 231, attributes := #[] }, { accessFlags := 10, nameIndex := 230, descriptorIndex := 231, attributes := #[] }, { accessFlags := 10, nameIndex := 246, descriptorIndex := 231, attributes := #[] }, { accessFlags := 9, nameIndex := 98, descriptorIndex := 99, attributes := #[] }] 48 6 #[] #[{ accessFlags := 26, nameIndex := 61, descriptorIndex := 62, attributes := #[] }, { accessFlags := 26, nameIndex := 65, descriptorIndex := 62, attributes := #[] }, { accessFlags := 24, nameIndex := 430, descriptorIndex := 62, attributes := #[] }, { accessFlags := 4120, nameIndex := 46, descriptorIndex := 47, attributes := #[] }])
  fields := #[{ name := "HI_BYTE_SHIFT", type := .int, accessFlags := 26, slot := 0, constantValue := 0 }, { name := "LO_BYTE_SHIFT", type := .int, accessFlags := 26, slot := 1, constantValue := 0 }, { name := "MAX_LENGTH", type := .int, accessFlags := 24, slot := 2, constantValue := 0 }, { name := "$assertionsDisabled", type := .boolean, accessFlags := 4120, slot := 3, constantValue := 0 }]
  methods := #[k11m0, k11m1, k11m2, k11m3, k11m4, k11m5, k11m6, k11m7, k11m8, k11m9, k11m10, k11m11, k11m12, k11m13]
  instanceTypes := #[]
  staticTypes := #[.int, .int, .int, .boolean]
  resolved := Array.replicate 635 none
  statics := some 1 }

def pool12 : Array CpInfo := pool [(2, .class_ 4), (1, u "java/lang/Object"), (0, u "<init>"), (0, u "()V"), (17, .class_ 26), (1, u "jdk/internal/util/Preconditions"), (20, u "checkFromToIndex"), (7, .class_ 56), (0, u "jdk/internal/util/Preconditions$4"), (57, .class_ 115), (0, u "jdk/internal/util/Preconditions$1"), (7, u "SIOOBE_FORMATTER"), (0, u "Ljava/util/function/BiFunction;"), (0, .class_ 126), (0, u "jdk/internal/util/Preconditions$2"), (3, u "AIOOBE_FORMATTER"), (0, .class_ 132), (0, u "jdk/internal/util/Preconditions$3"), (3, u "IOOBE_FORMATTER"), (46, u "(IIILjava/util/function/BiFunction;)I")] 10

def k12m0 : Method := { name := "<init>", desc := "()V", sig := { parameters := [], returnType := none }, accessFlags := 1, code := none }
def k12c1 : Code := { maxStack := 4, maxLocals := 4, code := jdk_41_method_12_code, exceptionTable := #[], attributes := #[] }
def k12m1 : Method := { name := "checkFromToIndex", desc := "(IIILjava/util/function/BiFunction;)I", sig := { parameters := [.int, .int, .int, (.object "java/util/function/BiFunction")], returnType := some .int }, accessFlags := 9, code := some k12c1 }
/-- jdk/internal/util/Preconditions -/
def k12 : Class := { plain "jdk/internal/util/Preconditions" (some 0) with
  accessFlags := 33
  interfaces := #[]
  cf := some (fileOf pool12 24 #[.nestMembers #[55, 131, 125, 114]] #[{ accessFlags := 1, nameIndex := 5, descriptorIndex := 6, attributes := #[] }, { accessFlags := 9, nameIndex := 47, descriptorIndex := 183, attributes := #[] }] 33 2 #[] #[{ accessFlags := 25, nameIndex := 123, descriptorIndex := 124, attributes := #[] }, { accessFlags := 25, nameIndex := 130, descriptorIndex := 124, attributes := #[] }, { accessFlags := 25, nameIndex := 136, descriptorIndex := 124, attributes := #[] }])
  fields := #[{ name := "SIOOBE_FORMATTER", type := (.object "java/util/function/BiFunction"), accessFlags := 25, slot := 0, constantValue := 0 }, { name := "AIOOBE_FORMATTER", type := (.object "java/util/function/BiFunction"), accessFlags := 25, slot := 1, constantValue := 0 }, { name := "IOOBE_FORMATTER", type := (.object "java/util/function/BiFunction"), accessFlags := 25, slot := 2, constantValue := 0 }]
  methods := #[k12m0, k12m1]
  instanceTypes := #[]
  staticTypes := #[(.object "java/util/function/BiFunction"), (.object "java/util/function/BiFunction"), (.object "java/util/function/BiFunction")]
  resolved := Array.replicate 194 none
  statics := some 2 }

def pool13 : Array CpInfo := pool [(9, u "<init>"), (6, .class_ 18), (1, u "java/lang/Object"), (0, u "()V"), (1, .class_ 23), (1, u "jdk/internal/util/ArraysSupport"), (0, u "LOG2_ARRAY_LONG_INDEX_SCALE"), (0, u "I"), (2, u "U"), (0, u "Ljdk/internal/misc/Unsafe;"), (8, u "BIG_ENDIAN"), (0, u "Z"), (8, u "LOG2_BYTE_BIT_SIZE"), (4, u "LOG2_ARRAY_INT_INDEX_SCALE"), (54, u "JLA"), (0, u "Ljdk/internal/access/JavaLangAccess;"), (11, u "LOG2_ARRAY_BOOLEAN_INDEX_SCALE"), (9, u "LOG2_ARRAY_BYTE_INDEX_SCALE"), (5, u "LOG2_ARRAY_CHAR_INDEX_SCALE"), (5, u "LOG2_ARRAY_SHORT_INDEX_SCALE"), (18, u "LOG2_ARRAY_FLOAT_INDEX_SCALE"), (24, u "LOG2_ARRAY_DOUBLE_INDEX_SCALE"), (89, u "T_BOOLEAN"), (2, u "T_CHAR"), (1, u "T_FLOAT"), (1, u "T_DOUBLE"), (1, u "T_BYTE"), (1, u "T_SHORT"), (1, u "T_INT"), (1, u "T_LONG"), (1, u "SOFT_MAX_ARRAY_LENGTH")] 83

def k13m0 : Method := { name := "<init>", desc := "()V", sig := { parameters := [], returnType := none }, accessFlags := 2, code := none }
/-- jdk/internal/util/ArraysSupport -/
def k13 : Class := { plain "jdk/internal/util/ArraysSupport" (some 0) with
  accessFlags := 33
  interfaces := #[]
  cf := some (fileOf pool13 21 #[] #[{ accessFlags := 2, nameIndex := 9, descriptorIndex := 19, attributes := #[] }] 33 16 #[] #[{ accessFlags := 24, nameIndex := 28, descriptorIndex := 29, attributes := #[] }, { accessFlags := 26, nameIndex := 38, descriptorIndex := 39, attributes := #[] }, { accessFlags := 25, nameIndex := 121, descriptorIndex := 25, attributes := #[] }, { accessFlags := 25, nameIndex := 131, descriptorIndex := 25, attributes := #[] }, { accessFlags := 25, nameIndex := 137, descriptorIndex := 25, attributes := #[] }, { accessFlags := 25, nameIndex := 143, descriptorIndex := 25, attributes := #[] }, { accessFlags := 25, nameIndex := 53, descriptorIndex := 25, attributes := #[] }, { accessFlags := 25, nameIndex := 24, descriptorIndex := 25, attributes := #[] }, { accessFlags := 25, nameIndex := 162, descriptorIndex := 25, attributes := #[] }, { accessFlags := 25, nameIndex := 187, descriptorIndex := 25, attributes := #[] }, { accessFlags := 26, nameIndex := 48, descriptorIndex := 25, attributes := #[] }, { accessFlags := 25, nameIndex := 277, descriptorIndex := 25, attributes := #[] }, { accessFlags := 25, nameIndex := 280, descriptorIndex := 25, attributes := #[] }, { accessFlags := 25, nameIndex := 282, descriptorIndex := 25, attributes := #[] }, { accessFlags := 25, nameIndex := 284, descriptorIndex := 25, attributes := #[] }, { accessFlags := 25, nameIndex := 286, descriptorIndex := 25, attributes := #[] }, { accessFlags := 25, nameIndex := 288, descriptorIndex := 25, attributes := #[] }, { accessFlags := 25, nameIndex := 290, descriptorIndex := 25, attributes := #[] }, { accessFlags := 25, nameIndex := 292, descriptorIndex := 25, attributes := #[] }, { accessFlags := 26, nameIndex := 108, descriptorIndex := 109, attributes := #[] }, { accessFlags := 25, nameIndex := 294, descriptorIndex := 25, attributes := #[] }])
  fields := #[{ name := "U", type := (.object "jdk/internal/misc/Unsafe"), accessFlags := 24, slot := 0, constantValue := 0 }, { name := "BIG_ENDIAN", type := .boolean, accessFlags := 26, slot := 1, constantValue := 0 }, { name := "LOG2_ARRAY_BOOLEAN_INDEX_SCALE", type := .int, accessFlags := 25, slot := 2, constantValue := 0 }, { name := "LOG2_ARRAY_BYTE_INDEX_SCALE", type := .int, accessFlags := 25, slot := 3, constantValue := 0 }, { name := "LOG2_ARRAY_CHAR_INDEX_SCALE", type := .int, accessFlags := 25, slot := 4, constantValue := 0 }, { name := "LOG2_ARRAY_SHORT_INDEX_SCALE", type := .int, accessFlags := 25, slot := 5, constantValue := 0 }, { name := "LOG2_ARRAY_INT_INDEX_SCALE", type := .int, accessFlags := 25, slot := 6, constantValue := 0 }, { name := "LOG2_ARRAY_LONG_INDEX_SCALE", type := .int, accessFlags := 25, slot := 7, constantValue := 0 }, { name := "LOG2_ARRAY_FLOAT_INDEX_SCALE", type := .int, accessFlags := 25, slot := 8, constantValue := 0 }, { name := "LOG2_ARRAY_DOUBLE_INDEX_SCALE", type := .int, accessFlags := 25, slot := 9, constantValue := 0 }, { name := "LOG2_BYTE_BIT_SIZE", type := .int, accessFlags := 26, slot := 10, constantValue := 0 }, { name := "T_BOOLEAN", type := .int, accessFlags := 25, slot := 11, constantValue := 0 }, { name := "T_CHAR", type := .int, accessFlags := 25, slot := 12, constantValue := 0 }, { name := "T_FLOAT", type := .int, accessFlags := 25, slot := 13, constantValue := 0 }, { name := "T_DOUBLE", type := .int, accessFlags := 25, slot := 14, constantValue := 0 }, { name := "T_BYTE", type := .int, accessFlags := 25, slot := 15, constantValue := 0 }, { name := "T_SHORT", type := .int, accessFlags := 25, slot := 16, constantValue := 0 }, { name := "T_INT", type := .int, accessFlags := 25, slot := 17, constantValue := 0 }, { name := "T_LONG", type := .int, accessFlags := 25, slot := 18, constantValue := 0 }, { name := "JLA", type := (.object "jdk/internal/access/JavaLangAccess"), accessFlags := 26, slot := 19, constantValue := 0 }, { name := "SOFT_MAX_ARRAY_LENGTH", type := .int, accessFlags := 25, slot := 20, constantValue := 0 }]
  methods := #[k13m0]
  instanceTypes := #[]
  staticTypes := #[(.object "jdk/internal/misc/Unsafe"), .boolean, .int, .int, .int, .int, .int, .int, .int, .int, .int, .int, .int, .int, .int, .int, .int, .int, .int, (.object "jdk/internal/access/JavaLangAccess"), .int]
  resolved := Array.replicate 378 none
  statics := none }

def pool14 : Array CpInfo := pool [(1, u "java/lang/Cloneable"), (0, .class_ 1), (0, u "java/lang/Object"), (0, .class_ 3)] 3

/-- java/lang/Cloneable -/
def k14 : Class := { plain "java/lang/Cloneable" (some 0) with
  accessFlags := 1537
  interfaces := #[]
  cf := some (fileOf pool14 2 #[] #[] 1537 4 #[] #[])
  fields := #[]
  methods := #[]
  instanceTypes := #[]
  staticTypes := #[]
  resolved := Array.replicate 8 none
  statics := none }

/-- the primitive byte -/
def k15 : Class := { plain "byte" none with kind := .primitive 'B', accessFlags := 0x411 }
/-- [B -/
def k16 : Class := { plain "[B" (some 0) with kind := .array 15 .byte, interfaces := #[14, 2], accessFlags := 1041 }

/-- the primitive char -/
def k17 : Class := { plain "char" none with kind := .primitive 'C', accessFlags := 0x411 }
/-- [C -/
def k18 : Class := { plain "[C" (some 0) with kind := .array 17 .char, interfaces := #[14, 2], accessFlags := 1041 }

/-- the primitive int -/
def k19 : Class := { plain "int" none with kind := .primitive 'I', accessFlags := 0x411 }
/-- [I -/
def k20 : Class := { plain "[I" (some 0) with kind := .array 19 .int, interfaces := #[14, 2], accessFlags := 1041 }

def heap : Heap := #[{ cls := 7, slots := #[.long 0, .int 1, .null, .int 0, .null, .int 0, .int 0], vm := .statics 7 },
  { cls := 11, slots := #[.int 0, .int 8, .int 0, .int 1], vm := .statics 11 },
  { cls := 12, slots := #[.null, .null, .null], vm := .statics 12 }]
def classes : Array Class := #[k0, k1, k2, k3, k4, k5, k6, k7, k8, k9, k10, k11, k12, k13, k14, k15, k16, k17, k18, k19, k20]
def interned : List (Array UInt16 × Addr) := []
def slotsUsed : Nat := 14
def theMethod : MethodId := ⟨1, 2⟩
def args0 : Array Value := #[.int 5, .int 5, .int 5, .int 5, .int 5]
def aboutOver (below : List Frame) : State where
  vm := { classes := classes, interned := interned.toArray }
  heap := heap
  slotsUsed := slotsUsed
  threads := #[{ frames := .invoking theMethod args0 :: below }]
def below0 : List Frame := [.native { method := ⟨0, 0⟩, args := #[] }]
def about1 : State := aboutOver below0
def p0 : Program := .bare "" "" ""
def e0 : Env := launch0.env 0 0 0
theorem w_frames : about1.frames = Frame.invoking theMethod args0 :: below0 := rfl
set_option maxRecDepth 65536 in
theorem w_args : argsFit about1.vm theMethod args0 = true := by decide +kernel
set_option maxRecDepth 65536 in
theorem w_heap : heapFits about1 = true := by decide +kernel
set_option maxRecDepth 65536 in
theorem w_runnable : about1.curStatus? = some .runnable := by decide +kernel
set_option maxRecDepth 65536 in
theorem w_alone : about1.alone = true := by decide +kernel
set_option maxRecDepth 65536 in
theorem w_named : about1.methodNamed? x = some theMethod := by decide +kernel
set_option maxRecDepth 65536 in
theorem w_hears : about1.hears theMethod below0 = true := by decide +kernel
set_option maxRecDepth 65536 in
theorem w_ripe : about1.ripe theMethod args0 below0 = true := by decide +kernel
theorem w_running : about1.status = .running := rfl
set_option maxRecDepth 65536 in
theorem w_room : about1.hasRoom e0.platform room_1 = true :=
  launch0.hasRoom_least _ room_1 (by decide +kernel) (by decide +kernel) (by decide +kernel) (by decide +kernel) (by decide +kernel) (by decide +kernel)
theorem allAtoms_all (ts : List Jvm.Cond) (a : Array Jvm.Value) (st : Jvm.State) : (allAtoms ts).before a st = ts.all (fun c => c.before a st) := by
  induction ts with
  | nil => rfl
  | cons c t ih =>
    show (Jvm.Cond.and c (allAtoms t)).before a st = _
    rw [Jvm.Cond.before_and, ih, List.all_cons]
def words1 : List Jvm.Cond := Jvm.Cond.code x code maxLocals ret :: tables_1
/-- a 'code' word, met by the world's own term for the bytes: nothing is compared byte by byte -/
theorem code_word {y : MethodName} {bytes : ByteArray} {mx : Nat} {rt : Option FieldType} {a : Array Value} {s : State} {m : MethodId} {meth : Method} {c : Code} (h1 : s.methodNamed? y = some m) (h2 : s.vm.method? m = some meth) (h3 : meth.code = some c) (h4 : c.code = bytes)
    (h5 : (c.maxLocals == mx && c.exceptionTable.isEmpty && decide (c.maxStack ≤ mostOperands) && decide (meth.sig.returnType = rt) && !meth.locks && decide (parseMethodDescriptor y.desc = some meth.sig)) = true) : (Jvm.Cond.code y bytes mx rt).before a s = true := by
  simp only [Bool.and_eq_true, beq_iff_eq, Bool.not_eq_true', decide_eq_true_eq] at h5
  obtain ⟨⟨⟨⟨⟨g1, g2⟩, g3⟩, g4⟩, g5⟩, g6⟩ := h5
  simp [Cond.before, Cond.holds, Cond.value, h1, h2, h3, h4, g1, g2, g3, g4, g5, g6]
def isCode : Jvm.Cond → Bool
  | .code _ _ _ _ => true
  | _ => false
theorem all_split {L : List Jvm.Cond} {P : Jvm.Cond → Bool} (h1 : L.all (fun c => isCode c || P c) = true) (h2 : ∀ c ∈ L.filter isCode, P c = true) : L.all P = true := by
  refine List.all_eq_true.mpr fun c hc => ?_
  have h := List.all_eq_true.mp h1 c hc
  rcases Bool.eq_false_or_eq_true (isCode c) with hi | hi
  · exact h2 c (List.mem_filter.mpr ⟨hc, hi⟩)
  · simpa [hi] using h
set_option maxRecDepth 65536 in
theorem w_c0 : (Jvm.Cond.code x code maxLocals ret).before args0 about1 = true := code_word (m := ⟨1, 2⟩) (meth := k1m2) (c := k1c2) (by decide +kernel) rfl rfl rfl (by decide +kernel)
set_option maxRecDepth 65536 in
theorem w_c1 : (Jvm.Cond.code ({ cls := "java/lang/String", name := "<init>", desc := "([C)V" } : Jvm.MethodName) jdk_42_method_3_code (2 : Nat) (Option.none : Option Jvm.ClassFile.FieldType)).before args0 about1 = true := code_word (m := ⟨7, 1⟩) (meth := k7m1) (c := k7c1) (by decide +kernel) rfl rfl rfl (by decide +kernel)
set_option maxRecDepth 65536 in
theorem w_c2 : (Jvm.Cond.code ({ cls := "java/lang/String", name := "<init>", desc := "([CIILjava/lang/Void;)V" } : Jvm.MethodName) jdk_42_method_149_code (6 : Nat) (Option.none : Option Jvm.ClassFile.FieldType)).before args0 about1 = true := code_word (m := ⟨7, 5⟩) (meth := k7m5) (c := k7c5) (by decide +kernel) rfl rfl rfl (by decide +kernel)
set_option maxRecDepth 65536 in
theorem w_c3 : (Jvm.Cond.code ({ cls := "java/lang/Object", name := "<init>", desc := "()V" } : Jvm.MethodName) object_method_1_code (1 : Nat) (Option.none : Option Jvm.ClassFile.FieldType)).before args0 about1 = true := code_word (m := ⟨0, 0⟩) (meth := k0m0) (c := k0c0) (by decide +kernel) rfl rfl rfl (by decide +kernel)
set_option maxRecDepth 65536 in
theorem w_c4 : (Jvm.Cond.code ({ cls := "beanforge/core/PathPattern", name := "isPattern", desc := "(Ljava/lang/String;)Z" } : Jvm.MethodName) prog_81_method_2_code (1 : Nat) (Option.some Jvm.ClassFile.FieldType.boolean)).before args0 about1 = true := code_word (m := ⟨8, 0⟩) (meth := k8m0) (c := k8c0) (by decide +kernel) rfl rfl rfl (by decide +kernel)
set_option maxRecDepth 65536 in
theorem w_c5 : (Jvm.Cond.code ({ cls := "java/lang/String", name := "indexOf", desc := "(I)I" } : Jvm.MethodName) jdk_42_method_79_code (2 : Nat) (Option.some Jvm.ClassFile.FieldType.int)).before args0 about1 = true := code_word (m := ⟨7, 3⟩) (meth := k7m3) (c := k7c3) (by decide +kernel) rfl rfl rfl (by decide +kernel)
set_option maxRecDepth 65536 in
theorem w_c6 : (Jvm.Cond.code ({ cls := "java/lang/String", name := "indexOf", desc := "(II)I" } : Jvm.MethodName) jdk_42_method_80_code (3 : Nat) (Option.some Jvm.ClassFile.FieldType.int)).before args0 about1 = true := code_word (m := ⟨7, 4⟩) (meth := k7m4) (c := k7c4) (by decide +kernel) rfl rfl rfl (by decide +kernel)
set_option maxRecDepth 65536 in
theorem w_c7 : (Jvm.Cond.code ({ cls := "java/lang/String", name := "isLatin1", desc := "()Z" } : Jvm.MethodName) jdk_42_method_154_code (1 : Nat) (Option.some Jvm.ClassFile.FieldType.boolean)).before args0 about1 = true := code_word (m := ⟨7, 7⟩) (meth := k7m7) (c := k7c7) (by decide +kernel) rfl rfl rfl (by decide +kernel)
set_option maxRecDepth 65536 in
theorem w_c8 : (Jvm.Cond.code ({ cls := "java/lang/String", name := "length", desc := "()I" } : Jvm.MethodName) jdk_42_method_54_code (1 : Nat) (Option.some Jvm.ClassFile.FieldType.int)).before args0 about1 = true := code_word (m := ⟨7, 2⟩) (meth := k7m2) (c := k7c2) (by decide +kernel) rfl rfl rfl (by decide +kernel)
set_option maxRecDepth 65536 in
theorem w_c9 : (Jvm.Cond.code ({ cls := "java/lang/String", name := "coder", desc := "()B" } : Jvm.MethodName) jdk_42_method_152_code (1 : Nat) (Option.some Jvm.ClassFile.FieldType.byte)).before args0 about1 = true := code_word (m := ⟨7, 6⟩) (meth := k7m6) (c := k7c6) (by decide +kernel) rfl rfl rfl (by decide +kernel)
set_option maxRecDepth 65536 in
theorem w_c10 : (Jvm.Cond.code ({ cls := "java/lang/StringLatin1", name := "indexOf", desc := "([BIII)I" } : Jvm.MethodName) jdk_43_method_22_code (4 : Nat) (Option.some Jvm.ClassFile.FieldType.int)).before args0 about1 = true := code_word (m := ⟨9, 2⟩) (meth := k9m2) (c := k9c2) (by decide +kernel) rfl rfl rfl (by decide +kernel)
set_option maxRecDepth 65536 in
theorem w_c11 : (Jvm.Cond.code ({ cls := "java/lang/StringLatin1", name := "canEncode", desc := "(I)Z" } : Jvm.MethodName) jdk_43_method_4_code (1 : Nat) (Option.some Jvm.ClassFile.FieldType.boolean)).before args0 about1 = true := code_word (m := ⟨9, 1⟩) (meth := k9m1) (c := k9c1) (by decide +kernel) rfl rfl rfl (by decide +kernel)
set_option maxRecDepth 65536 in
theorem w_c12 : (Jvm.Cond.code ({ cls := "java/lang/Math", name := "max", desc := "(II)I" } : Jvm.MethodName) jdk_29_method_65_code (2 : Nat) (Option.some Jvm.ClassFile.FieldType.int)).before args0 about1 = true := code_word (m := ⟨10, 1⟩) (meth := k10m1) (c := k10c1) (by decide +kernel) rfl rfl rfl (by decide +kernel)
set_option maxRecDepth 65536 in
theorem w_c13 : (Jvm.Cond.code ({ cls := "java/lang/Math", name := "min", desc := "(II)I" } : Jvm.MethodName) jdk_29_method_69_code (2 : Nat) (Option.some Jvm.ClassFile.FieldType.int)).before args0 about1 = true := code_word (m := ⟨10, 2⟩) (meth := k10m2) (c := k10c2) (by decide +kernel) rfl rfl rfl (by decide +kernel)
set_option maxRecDepth 65536 in
theorem w_c14 : (Jvm.Cond.code ({ cls := "java/lang/StringUTF16", name := "compress", desc := "([CII)[B" } : Jvm.MethodName) jdk_52_method_16_code (6 : Nat) (Option.some (Jvm.ClassFile.FieldType.array Jvm.ClassFile.FieldType.byte))).before args0 about1 = true := code_word (m := ⟨11, 8⟩) (meth := k11m8) (c := k11c8) (by decide +kernel) rfl rfl rfl (by decide +kernel)
set_option maxRecDepth 65536 in
theorem w_c15 : (Jvm.Cond.code ({ cls := "java/lang/StringUTF16", name := "compress", desc := "([CI[BII)I" } : Jvm.MethodName) jdk_52_method_21_code (7 : Nat) (Option.some Jvm.ClassFile.FieldType.int)).before args0 about1 = true := code_word (m := ⟨11, 9⟩) (meth := k11m9) (c := k11c9) (by decide +kernel) rfl rfl rfl (by decide +kernel)
set_option maxRecDepth 65536 in
theorem w_c16 : (Jvm.Cond.code ({ cls := "java/lang/StringUTF16", name := "coderFromArrayLen", desc := "([BI)B" } : Jvm.MethodName) jdk_52_method_15_code (2 : Nat) (Option.some Jvm.ClassFile.FieldType.byte)).before args0 about1 = true := code_word (m := ⟨11, 7⟩) (meth := k11m7) (c := k11c7) (by decide +kernel) rfl rfl rfl (by decide +kernel)
set_option maxRecDepth 65536 in
theorem w_c17 : (Jvm.Cond.code ({ cls := "beanforge/core/PathPatternIsPatternPinLaw", name := "wild", desc := "(C)Z" } : Jvm.MethodName) method_2_code (1 : Nat) (Option.some Jvm.ClassFile.FieldType.boolean)).before args0 about1 = true := code_word (m := ⟨1, 1⟩) (meth := k1m1) (c := k1c1) (by decide +kernel) rfl rfl rfl (by decide +kernel)
set_option maxRecDepth 65536 in
theorem w_c18 : (Jvm.Cond.code ({ cls := "java/lang/StringLatin1", name := "indexOfChar", desc := "([BIII)I" } : Jvm.MethodName) jdk_43_method_23_code (6 : Nat) (Option.some Jvm.ClassFile.FieldType.int)).before args0 about1 = true := code_word (m := ⟨9, 3⟩) (meth := k9m3) (c := k9c3) (by decide +kernel) rfl rfl rfl (by decide +kernel)
set_option maxRecDepth 65536 in
theorem w_c19 : (Jvm.Cond.code ({ cls := "java/lang/StringUTF16", name := "toBytes", desc := "([CII)[B" } : Jvm.MethodName) jdk_52_method_14_code (5 : Nat) (Option.some (Jvm.ClassFile.FieldType.array Jvm.ClassFile.FieldType.byte))).before args0 about1 = true := code_word (m := ⟨11, 6⟩) (meth := k11m6) (c := k11c6) (by decide +kernel) rfl rfl rfl (by decide +kernel)
set_option maxRecDepth 65536 in
theorem w_c20 : (Jvm.Cond.code ({ cls := "java/lang/StringUTF16", name := "newBytesFor", desc := "(I)[B" } : Jvm.MethodName) jdk_52_method_2_code (1 : Nat) (Option.some (Jvm.ClassFile.FieldType.array Jvm.ClassFile.FieldType.byte))).before args0 about1 = true := code_word (m := ⟨11, 1⟩) (meth := k11m1) (c := k11c1) (by decide +kernel) rfl rfl rfl (by decide +kernel)
set_option maxRecDepth 65536 in
theorem w_c21 : (Jvm.Cond.code ({ cls := "java/lang/StringUTF16", name := "newBytesLength", desc := "(I)I" } : Jvm.MethodName) jdk_52_method_3_code (1 : Nat) (Option.some Jvm.ClassFile.FieldType.int)).before args0 about1 = true := code_word (m := ⟨11, 2⟩) (meth := k11m2) (c := k11c2) (by decide +kernel) rfl rfl rfl (by decide +kernel)
set_option maxRecDepth 65536 in
theorem w_c22 : (Jvm.Cond.code ({ cls := "java/lang/StringUTF16", name := "putChar", desc := "([BII)V" } : Jvm.MethodName) jdk_52_method_4_code (3 : Nat) (Option.none : Option Jvm.ClassFile.FieldType)).before args0 about1 = true := code_word (m := ⟨11, 3⟩) (meth := k11m3) (c := k11c3) (by decide +kernel) rfl rfl rfl (by decide +kernel)
set_option maxRecDepth 65536 in
theorem w_c23 : (Jvm.Cond.code ({ cls := "java/lang/StringUTF16", name := "getChar", desc := "([BI)C" } : Jvm.MethodName) jdk_52_method_5_code (2 : Nat) (Option.some Jvm.ClassFile.FieldType.char)).before args0 about1 = true := code_word (m := ⟨11, 4⟩) (meth := k11m4) (c := k11c4) (by decide +kernel) rfl rfl rfl (by decide +kernel)
set_option maxRecDepth 65536 in
theorem w_c24 : (Jvm.Cond.code ({ cls := "java/lang/StringUTF16", name := "indexOf", desc := "([BIII)I" } : Jvm.MethodName) jdk_52_method_40_code (4 : Nat) (Option.some Jvm.ClassFile.FieldType.int)).before args0 about1 = true := code_word (m := ⟨11, 10⟩) (meth := k11m10) (c := k11c10) (by decide +kernel) rfl rfl rfl (by decide +kernel)
set_option maxRecDepth 65536 in
theorem w_c25 : (Jvm.Cond.code ({ cls := "java/lang/StringUTF16", name := "indexOfChar", desc := "([BIII)I" } : Jvm.MethodName) jdk_52_method_47_code (4 : Nat) (Option.some Jvm.ClassFile.FieldType.int)).before args0 about1 = true := code_word (m := ⟨11, 11⟩) (meth := k11m11) (c := k11c11) (by decide +kernel) rfl rfl rfl (by decide +kernel)
set_option maxRecDepth 65536 in
theorem w_c26 : (Jvm.Cond.code ({ cls := "java/lang/StringUTF16", name := "checkBoundsBeginEnd", desc := "(II[B)V" } : Jvm.MethodName) jdk_52_method_93_code (3 : Nat) (Option.none : Option Jvm.ClassFile.FieldType)).before args0 about1 = true := code_word (m := ⟨11, 13⟩) (meth := k11m13) (c := k11c13) (by decide +kernel) rfl rfl rfl (by decide +kernel)
set_option maxRecDepth 65536 in
theorem w_c27 : (Jvm.Cond.code ({ cls := "java/lang/StringUTF16", name := "length", desc := "([B)I" } : Jvm.MethodName) jdk_52_method_6_code (1 : Nat) (Option.some Jvm.ClassFile.FieldType.int)).before args0 about1 = true := code_word (m := ⟨11, 5⟩) (meth := k11m5) (c := k11c5) (by decide +kernel) rfl rfl rfl (by decide +kernel)
set_option maxRecDepth 65536 in
theorem w_c28 : (Jvm.Cond.code ({ cls := "java/lang/String", name := "checkBoundsBeginEnd", desc := "(III)V" } : Jvm.MethodName) jdk_42_method_158_code (3 : Nat) (Option.none : Option Jvm.ClassFile.FieldType)).before args0 about1 = true := code_word (m := ⟨7, 8⟩) (meth := k7m8) (c := k7c8) (by decide +kernel) rfl rfl rfl (by decide +kernel)
set_option maxRecDepth 65536 in
theorem w_c29 : (Jvm.Cond.code ({ cls := "jdk/internal/util/Preconditions", name := "checkFromToIndex", desc := "(IIILjava/util/function/BiFunction;)I" } : Jvm.MethodName) jdk_41_method_12_code (4 : Nat) (Option.some Jvm.ClassFile.FieldType.int)).before args0 about1 = true := code_word (m := ⟨12, 1⟩) (meth := k12m1) (c := k12c1) (by decide +kernel) rfl rfl rfl (by decide +kernel)
set_option maxRecDepth 65536 in
theorem w_c30 : (Jvm.Cond.code ({ cls := "java/lang/StringUTF16", name := "indexOfCharUnsafe", desc := "([BIII)I" } : Jvm.MethodName) jdk_52_method_48_code (5 : Nat) (Option.some Jvm.ClassFile.FieldType.int)).before args0 about1 = true := code_word (m := ⟨11, 12⟩) (meth := k11m12) (c := k11c12) (by decide +kernel) rfl rfl rfl (by decide +kernel)
def codes1 : List Jvm.Cond := [Jvm.Cond.code x code maxLocals ret, Jvm.Cond.code ({ cls := "java/lang/String", name := "<init>", desc := "([C)V" } : Jvm.MethodName) jdk_42_method_3_code (2 : Nat) (Option.none : Option Jvm.ClassFile.FieldType), Jvm.Cond.code ({ cls := "java/lang/String", name := "<init>", desc := "([CIILjava/lang/Void;)V" } : Jvm.MethodName) jdk_42_method_149_code (6 : Nat) (Option.none : Option Jvm.ClassFile.FieldType), Jvm.Cond.code ({ cls := "java/lang/Object", name := "<init>", desc := "()V" } : Jvm.MethodName) object_method_1_code (1 : Nat) (Option.none : Option Jvm.ClassFile.FieldType), Jvm.Cond.code ({ cls := "beanforge/core/PathPattern", name := "isPattern", desc := "(Ljava/lang/String;)Z" } : Jvm.MethodName) prog_81_method_2_code (1 : Nat) (Option.some Jvm.ClassFile.FieldType.boolean), Jvm.Cond.code ({ cls := "java/lang/String", name := "indexOf", desc := "(I)I" } : Jvm.MethodName) jdk_42_method_79_code (2 : Nat) (Option.some Jvm.ClassFile.FieldType.int), Jvm.Cond.code ({ cls := "java/lang/String", name := "indexOf", desc := "(II)I" } : Jvm.MethodName) jdk_42_method_80_code (3 : Nat) (Option.some Jvm.ClassFile.FieldType.int), Jvm.Cond.code ({ cls := "java/lang/String", name := "isLatin1", desc := "()Z" } : Jvm.MethodName) jdk_42_method_154_code (1 : Nat) (Option.some Jvm.ClassFile.FieldType.boolean), Jvm.Cond.code ({ cls := "java/lang/String", name := "length", desc := "()I" } : Jvm.MethodName) jdk_42_method_54_code (1 : Nat) (Option.some Jvm.ClassFile.FieldType.int), Jvm.Cond.code ({ cls := "java/lang/String", name := "coder", desc := "()B" } : Jvm.MethodName) jdk_42_method_152_code (1 : Nat) (Option.some Jvm.ClassFile.FieldType.byte), Jvm.Cond.code ({ cls := "java/lang/StringLatin1", name := "indexOf", desc := "([BIII)I" } : Jvm.MethodName) jdk_43_method_22_code (4 : Nat) (Option.some Jvm.ClassFile.FieldType.int), Jvm.Cond.code ({ cls := "java/lang/StringLatin1", name := "canEncode", desc := "(I)Z" } : Jvm.MethodName) jdk_43_method_4_code (1 : Nat) (Option.some Jvm.ClassFile.FieldType.boolean), Jvm.Cond.code ({ cls := "java/lang/Math", name := "max", desc := "(II)I" } : Jvm.MethodName) jdk_29_method_65_code (2 : Nat) (Option.some Jvm.ClassFile.FieldType.int), Jvm.Cond.code ({ cls := "java/lang/Math", name := "min", desc := "(II)I" } : Jvm.MethodName) jdk_29_method_69_code (2 : Nat) (Option.some Jvm.ClassFile.FieldType.int), Jvm.Cond.code ({ cls := "java/lang/StringUTF16", name := "compress", desc := "([CII)[B" } : Jvm.MethodName) jdk_52_method_16_code (6 : Nat) (Option.some (Jvm.ClassFile.FieldType.array Jvm.ClassFile.FieldType.byte)), Jvm.Cond.code ({ cls := "java/lang/StringUTF16", name := "compress", desc := "([CI[BII)I" } : Jvm.MethodName) jdk_52_method_21_code (7 : Nat) (Option.some Jvm.ClassFile.FieldType.int), Jvm.Cond.code ({ cls := "java/lang/StringUTF16", name := "coderFromArrayLen", desc := "([BI)B" } : Jvm.MethodName) jdk_52_method_15_code (2 : Nat) (Option.some Jvm.ClassFile.FieldType.byte), Jvm.Cond.code ({ cls := "beanforge/core/PathPatternIsPatternPinLaw", name := "wild", desc := "(C)Z" } : Jvm.MethodName) method_2_code (1 : Nat) (Option.some Jvm.ClassFile.FieldType.boolean), Jvm.Cond.code ({ cls := "java/lang/StringLatin1", name := "indexOfChar", desc := "([BIII)I" } : Jvm.MethodName) jdk_43_method_23_code (6 : Nat) (Option.some Jvm.ClassFile.FieldType.int), Jvm.Cond.code ({ cls := "java/lang/StringUTF16", name := "toBytes", desc := "([CII)[B" } : Jvm.MethodName) jdk_52_method_14_code (5 : Nat) (Option.some (Jvm.ClassFile.FieldType.array Jvm.ClassFile.FieldType.byte)), Jvm.Cond.code ({ cls := "java/lang/StringUTF16", name := "newBytesFor", desc := "(I)[B" } : Jvm.MethodName) jdk_52_method_2_code (1 : Nat) (Option.some (Jvm.ClassFile.FieldType.array Jvm.ClassFile.FieldType.byte)), Jvm.Cond.code ({ cls := "java/lang/StringUTF16", name := "newBytesLength", desc := "(I)I" } : Jvm.MethodName) jdk_52_method_3_code (1 : Nat) (Option.some Jvm.ClassFile.FieldType.int), Jvm.Cond.code ({ cls := "java/lang/StringUTF16", name := "putChar", desc := "([BII)V" } : Jvm.MethodName) jdk_52_method_4_code (3 : Nat) (Option.none : Option Jvm.ClassFile.FieldType), Jvm.Cond.code ({ cls := "java/lang/StringUTF16", name := "getChar", desc := "([BI)C" } : Jvm.MethodName) jdk_52_method_5_code (2 : Nat) (Option.some Jvm.ClassFile.FieldType.char), Jvm.Cond.code ({ cls := "java/lang/StringUTF16", name := "indexOf", desc := "([BIII)I" } : Jvm.MethodName) jdk_52_method_40_code (4 : Nat) (Option.some Jvm.ClassFile.FieldType.int), Jvm.Cond.code ({ cls := "java/lang/StringUTF16", name := "indexOfChar", desc := "([BIII)I" } : Jvm.MethodName) jdk_52_method_47_code (4 : Nat) (Option.some Jvm.ClassFile.FieldType.int), Jvm.Cond.code ({ cls := "java/lang/StringUTF16", name := "checkBoundsBeginEnd", desc := "(II[B)V" } : Jvm.MethodName) jdk_52_method_93_code (3 : Nat) (Option.none : Option Jvm.ClassFile.FieldType), Jvm.Cond.code ({ cls := "java/lang/StringUTF16", name := "length", desc := "([B)I" } : Jvm.MethodName) jdk_52_method_6_code (1 : Nat) (Option.some Jvm.ClassFile.FieldType.int), Jvm.Cond.code ({ cls := "java/lang/String", name := "checkBoundsBeginEnd", desc := "(III)V" } : Jvm.MethodName) jdk_42_method_158_code (3 : Nat) (Option.none : Option Jvm.ClassFile.FieldType), Jvm.Cond.code ({ cls := "jdk/internal/util/Preconditions", name := "checkFromToIndex", desc := "(IIILjava/util/function/BiFunction;)I" } : Jvm.MethodName) jdk_41_method_12_code (4 : Nat) (Option.some Jvm.ClassFile.FieldType.int), Jvm.Cond.code ({ cls := "java/lang/StringUTF16", name := "indexOfCharUnsafe", desc := "([BIII)I" } : Jvm.MethodName) jdk_52_method_48_code (5 : Nat) (Option.some Jvm.ClassFile.FieldType.int)]
set_option maxRecDepth 65536 in
theorem codes_eq : words1.filter isCode = codes1 := rfl
theorem w_codes : ∀ c ∈ words1.filter isCode, c.before args0 about1 = true := by
  rw [codes_eq]
  intro c hc
  simp only [codes1, List.mem_cons, List.not_mem_nil, or_false] at hc
  rcases hc with rfl | rfl | rfl | rfl | rfl | rfl | rfl | rfl | rfl | rfl | rfl | rfl | rfl | rfl | rfl | rfl | rfl | rfl | rfl | rfl | rfl | rfl | rfl | rfl | rfl | rfl | rfl | rfl | rfl | rfl | rfl
  · exact w_c0
  · exact w_c1
  · exact w_c2
  · exact w_c3
  · exact w_c4
  · exact w_c5
  · exact w_c6
  · exact w_c7
  · exact w_c8
  · exact w_c9
  · exact w_c10
  · exact w_c11
  · exact w_c12
  · exact w_c13
  · exact w_c14
  · exact w_c15
  · exact w_c16
  · exact w_c17
  · exact w_c18
  · exact w_c19
  · exact w_c20
  · exact w_c21
  · exact w_c22
  · exact w_c23
  · exact w_c24
  · exact w_c25
  · exact w_c26
  · exact w_c27
  · exact w_c28
  · exact w_c29
  · exact w_c30
set_option maxRecDepth 65536 in
theorem w_t1 : (words1.take 24).all (fun c => isCode c || c.before args0 about1) = true := by decide +kernel
set_option maxRecDepth 65536 in
theorem w_t2 : ((words1.drop 24).take 24).all (fun c => isCode c || c.before args0 about1) = true := by decide +kernel
set_option maxRecDepth 65536 in
theorem w_t3 : (((words1.drop 24).drop 24).take 24).all (fun c => isCode c || c.before args0 about1) = true := by decide +kernel
set_option maxRecDepth 65536 in
theorem w_t4 : ((((words1.drop 24).drop 24).drop 24).take 24).all (fun c => isCode c || c.before args0 about1) = true := by decide +kernel
set_option maxRecDepth 65536 in
theorem w_t5 : (((((words1.drop 24).drop 24).drop 24).drop 24).take 24).all (fun c => isCode c || c.before args0 about1) = true := by decide +kernel
set_option maxRecDepth 65536 in
theorem w_t6 : (((((words1.drop 24).drop 24).drop 24).drop 24).drop 24).all (fun c => isCode c || c.before args0 about1) = true := by decide +kernel
theorem w_tables : (allAtoms (Jvm.Cond.code x code maxLocals ret :: tables_1)).before args0 about1 = true := by
  rw [allAtoms_all]
  show words1.all (fun c => c.before args0 about1) = true
  refine all_split ?_ w_codes
  rw [← List.take_append_drop 24 words1, List.all_append, w_t1, ← List.take_append_drop 24 (words1.drop 24), List.all_append, w_t2, ← List.take_append_drop 24 ((words1.drop 24).drop 24), List.all_append, w_t3, ← List.take_append_drop 24 (((words1.drop 24).drop 24).drop 24), List.all_append, w_t4, ← List.take_append_drop 24 ((((words1.drop 24).drop 24).drop 24).drop 24), List.all_append, w_t5, w_t6]
  rfl
set_option maxRecDepth 65536 in
theorem w_rest : rest_1_c.before args0 about1 = true := by decide +kernel
set_option maxRecDepth 65536 in
theorem w_case : (Jvm.Cond.and given_1 narrow_1).before args0 about1 = true := by decide +kernel
set_option maxRecDepth 65536 in
theorem w_consts : constsHeld consts_1 about1 := Jvm.Lit.constsHeldB_iff.mp (by decide +kernel)
theorem w_applies : (headSpec (Jvm.Cond.code x code maxLocals ret :: tables_1) room_1).applies x e0.platform about1 = true :=
  (Spec.applies_iff w_frames).mpr ⟨w_running, w_runnable, w_alone, w_named, w_hears, w_ripe, w_room, w_tables⟩
theorem atStart : AtStart classFile x code maxLocals ret World_1 tables_1 room_1 Calls_1 rest_1 Pre_1 launch0 p0 e0 about1 theMethod args0 below0 :=
  ⟨lists_1, trivial, launch0.admits_env _ _ _, launch0.least_env, fairChoices_fair.cas, fairChoices_fair.clock, w_frames, w_args, w_heap, w_applies, ⟨w_consts, trivial⟩, w_rest, w_case⟩
end start1
theorem witness_1 : WitnessClaimed_1 := ⟨start1.p0, start1.e0, start1.about1, start1.theMethod, start1.args0, start1.below0, start1.atStart⟩
end Jvm.Pilot.@@N@@
