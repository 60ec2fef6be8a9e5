import JvmDerived
import JvmDerived.Pilot.@@N@@Statement
import JvmDerived.Pilot.@@N@@Code
set_option linter.unusedVariables false
set_option linter.unusedSimpArgs false
namespace Jvm.RoadKit
open Sem ClassFile Op Lib Jvm.Stand Jvm.Free Jvm.LawKit
section New
variable {p : Program} {l : Launch} {e : Env} {R : Room} {s : State} {m : MethodId} {args : Array Value} {below : List Frame} {meth : Method} {c : Code} {T : State} {locs : List Loc} {cells slots : Nat}
theorem retI (X : Stand p l e R s m args below meth c T locs cells slots) (hx : p.tables.exec = Jvm.exec) {pc : Nat} {Ls : Array Slot} {z : Int32} {rest : List Value} (hret : meth.sig.returnType = some .int) (hd : decode c.code pc = .ok (.ireturn, 1)) {fs : List Frame}
    (hl : ∀ (f : JFrame) (acts : List Action), f.method = m → f.locked = none → f.entered = [] → (doReturn e (T.setTop f) acts (some (.int z))).1 = T.setFrames fs) : Steps p.tables e below (T.setTop (mkF m pc Ls (.int z :: rest))) (T.setFrames fs) := by
  have hm' : T.vm.method? m = some meth := X.method'
  have hn : narrow .int (.int z) = .int z := rfl
  show Steps p.tables e below (T.setTop { method := m, pc := pc, locals := Ls, stack := _ :: rest, locked := none }) _
  jvm_step X.here [X.here.top, hx, hd, hm', hret, hn]
  first | (intro acts; rw [hl _ acts rfl rfl rfl]) | rw [hl _ _ rfl rfl rfl]
  exact Steps.refl _
end New
end Jvm.RoadKit
namespace Jvm.Pilot.@@N@@
open Jvm Jvm.ClassFile Sem Op Lib Jvm.Free Jvm.Stand Jvm.LawKit Jvm.RoadKit Bundle Jvm.Pilot.@@N@@.Jvm.D

theorem own_wS {Z : State} {a0 : Array Value} (hw : ∀ d ∈ tables_1, d.before a0 Z = true) : ∀ a ∈ Bundle.stringAtoms, a.before a0 Z = true := fun a ha => by
  simp only [Bundle.stringAtoms, List.mem_cons, List.not_mem_nil, or_false] at ha
  rcases ha with rfl | rfl | rfl | rfl | rfl | rfl | rfl
  · exact hw _ (List.mem_of_getElem? (i := 24) rfl)
  · exact hw _ (List.mem_of_getElem? (i := 25) rfl)
  · exact hw _ (List.mem_of_getElem? (i := 26) rfl)
  · exact hw _ (List.mem_of_getElem? (i := 27) rfl)
  · exact hw _ (List.mem_of_getElem? (i := 28) rfl)
  · exact hw _ (List.mem_of_getElem? (i := 29) rfl)
  · exact hw _ (List.mem_of_getElem? (i := 30) rfl)

def own_max (p q : Int32) : Int32 := if p < q then q else p
def own_k (p : Int32) : Int32 := own_max (1 : Int32) (p &&& (2147483647 : Int32))
theorem own_k1 (p : Int32) : ¬ (own_k p < (1 : Int32)) := by
  unfold own_k own_max
  split
  · rename_i h
    rw [Int32.lt_iff_toInt_lt] at h ⊢
    omega
  · rw [Int32.lt_iff_toInt_lt]; omega
def own_ti (p : Int32) : Int32 := ((p &&& (255 : Int32)) + (1 : Int32))
def own_th (p : Int32) : UInt64 := FP.ddiv (FP.i2d (own_ti p)) (4643211215818981376 : UInt64)
theorem own_thf : ∀ i : Fin 256, cmpValue (FP.dcmp (FP.ddiv (FP.i2d (Int32.ofNat i.val + (1 : Int32))) (4643211215818981376 : UInt64)) (0 : UInt64)) .l = (1 : Int32) ∧ ¬ ((0 : Int32) < cmpValue (FP.dcmp (FP.ddiv (FP.i2d (Int32.ofNat i.val + (1 : Int32))) (4643211215818981376 : UInt64)) (4607182418800017408 : UInt64)) .g) := by decide +kernel
theorem own_tin (p : Int32) : ∃ i : Fin 256, own_ti p = Int32.ofNat i.val + (1 : Int32) := by
  have h : (p &&& (255 : Int32)).toBitVec.toNat ≤ 255 := by
    rw [Int32.toBitVec_and, BitVec.toNat_and]
    exact Nat.le_trans Nat.and_le_right (by decide)
  refine ⟨⟨(p &&& (255 : Int32)).toBitVec.toNat, by omega⟩, ?_⟩
  have e : (p &&& (255 : Int32)) = Int32.ofNat (p &&& (255 : Int32)).toBitVec.toNat := by
    apply Int32.toBitVec_inj.mp
    apply BitVec.eq_of_toNat_eq
    show _ = (BitVec.ofNat 32 _).toNat
    rw [BitVec.toNat_ofNat, Nat.mod_eq_of_lt (by omega)]
  show (p &&& (255 : Int32)) + (1 : Int32) = _
  rw [← e]
theorem own_th0 (p : Int32) : cmpValue (FP.dcmp (own_th p) (0 : UInt64)) .l = (1 : Int32) := by
  obtain ⟨i, e⟩ := own_tin p
  unfold own_th
  rw [e]
  exact (own_thf i).1
theorem own_th1 (p : Int32) : ¬ ((0 : Int32) < cmpValue (FP.dcmp (own_th p) (4607182418800017408 : UInt64)) .g) := by
  obtain ⟨i, e⟩ := own_tin p
  unfold own_th
  rw [e]
  exact (own_thf i).2
theorem own_th_nn (p : Int32) : Fl.NoNaN64 (FP.ddiv (FP.i2d (own_ti p)) (4643211215818981376 : UInt64)) := Fl.ddiv_out (Fl.i2d_fin _).noNaN (by unfold Fl.Fin64; decide) (by unfold Fl.Nz64; decide)
def own_ba (p : Int32) : Int32 := ((p &&& (32767 : Int32)) + (1 : Int32))
def own_ro (p : Int32) : Int32 := ((((p.toUInt32 >>> ((16 : Int32) &&& 31).toUInt32).toInt32) &&& (32767 : Int32)) + (1 : Int32))
def own_pr (p : Int32) : Int32 := (own_ba p * own_ro p)
def own_rm (p : Int32) : Int32 := (((2147483647 : Int32) - own_pr p) + (1 : Int32))
def own_sg (p q : Int32) : Int32 := (own_pr p + ((q &&& (2147483647 : Int32)) % own_rm p))
theorem own_and (a c : Int32) (k : Nat) (hc : c.toBitVec.toNat = k) (hk : k < 2147483648) : 0 ≤ (a &&& c).toInt ∧ (a &&& c).toInt ≤ k := by
  have h : (a &&& c).toBitVec.toNat ≤ k := by
    rw [Int32.toBitVec_and, BitVec.toNat_and, hc]
    exact Nat.and_le_right
  have e : (a &&& c).toInt = ((a &&& c).toBitVec.toNat : Int) := BitVec.toInt_eq_toNat_of_lt (by omega)
  omega
theorem own_add1 (a : Int32) (h0 : 0 ≤ a.toInt) (h : a.toInt < 2147483647) : (a + (1 : Int32)).toInt = a.toInt + 1 := by
  have : (1 : Int32).toInt = 1 := by decide
  rw [Int32.toInt_add, this, Int.bmod_eq_of_le] <;> omega
theorem own_ba_b (p : Int32) : 1 ≤ (own_ba p).toInt ∧ (own_ba p).toInt ≤ 32768 := by
  have h := own_and p 32767 32767 (by decide) (by decide)
  unfold own_ba
  rw [own_add1 _ h.1 (by omega)]
  omega
theorem own_ro_b (p : Int32) : 1 ≤ (own_ro p).toInt ∧ (own_ro p).toInt ≤ 32768 := by
  have h := own_and ((p.toUInt32 >>> ((16 : Int32) &&& 31).toUInt32).toInt32) 32767 32767 (by decide) (by decide)
  unfold own_ro
  rw [own_add1 _ h.1 (by omega)]
  omega
theorem own_prod {a b : Int} (a1 : 1 ≤ a) (a2 : a ≤ 32768) (b1 : 1 ≤ b) (b2 : b ≤ 32768) : 1 ≤ a * b ∧ a * b ≤ 1073741824 := by
  have l1 : a * b ≤ 32768 * 32768 := Int.mul_le_mul a2 b2 (by omega) (by decide)
  have l0 : 1 * 1 ≤ a * b := Int.mul_le_mul a1 b1 (by decide) (by omega)
  omega
theorem own_pr_b (p : Int32) : (own_pr p).toInt = (own_ba p).toInt * (own_ro p).toInt ∧ 1 ≤ (own_pr p).toInt ∧ (own_pr p).toInt ≤ 1073741824 := by
  have a := own_ba_b p
  have b := own_ro_b p
  have l := own_prod a.1 a.2 b.1 b.2
  have e : (own_pr p).toInt = (own_ba p).toInt * (own_ro p).toInt := by
    unfold own_pr
    rw [Int32.toInt_mul, Int.bmod_eq_of_le] <;> omega
  omega
theorem own_rm_b (p : Int32) : (own_rm p).toInt = 2147483648 - (own_pr p).toInt := by
  have h := own_pr_b p
  have em : (2147483647 : Int32).toInt = 2147483647 := by decide
  have e1 : ((2147483647 : Int32) - own_pr p).toInt = 2147483647 - (own_pr p).toInt := by rw [Int32.toInt_sub, em, Int.bmod_eq_of_le] <;> omega
  unfold own_rm
  rw [own_add1 _ (by omega) (by omega)]
  omega
theorem own_rm_nz (p : Int32) : own_rm p ≠ 0 := fun q => by
  have h := own_rm_b p
  have h2 := own_pr_b p
  rw [q] at h
  have : (0 : Int32).toInt = 0 := by decide
  omega
theorem own_sg_b (p q : Int32) : (own_pr p).toInt ≤ (own_sg p q).toInt := by
  have h := own_rm_b p
  have h2 := own_pr_b p
  have a := own_and q 2147483647 2147483647 (by decide) (by decide)
  have m1 : 0 ≤ ((q &&& (2147483647 : Int32)) % own_rm p).toInt := by rw [Int32.toInt_mod]; exact Int.tmod_nonneg _ a.1
  have m2 : ((q &&& (2147483647 : Int32)) % own_rm p).toInt < (own_rm p).toInt := by rw [Int32.toInt_mod]; exact Int.tmod_lt_of_pos _ (by omega)
  have e : (own_sg p q).toInt = (own_pr p).toInt + ((q &&& (2147483647 : Int32)) % own_rm p).toInt := by
    unfold own_sg
    rw [Int32.toInt_add, Int.bmod_eq_of_le] <;> omega
  omega
theorem own_h5 (p q : Int32) : ¬ own_sg p q = (0 : Int32) := fun e => by
  have h := own_sg_b p q
  have h2 := own_pr_b p
  rw [e] at h
  have : (0 : Int32).toInt = 0 := by decide
  omega
theorem own_h6 (p : Int32) : ¬ (own_ba p < (1 : Int32)) := by
  have h := own_ba_b p
  have : (1 : Int32).toInt = 1 := by decide
  rw [Int32.lt_iff_toInt_lt]; omega
theorem own_h7 (p : Int32) : ¬ (own_ro p < (1 : Int32)) := by
  have h := own_ro_b p
  have : (1 : Int32).toInt = 1 := by decide
  rw [Int32.lt_iff_toInt_lt]; omega
theorem own_hb (p q : Int32) : ¬ ((0 : Int32) < lcmpW ((own_ba p).toInt64 * (own_ro p).toInt64) (own_sg p q).toInt64) := by
  rw [lw_gt, Int64.lt_iff_toInt_lt]
  have h := own_sg_b p q
  have h2 := own_pr_b p
  have e1 := Int32.toInt_toInt64 (own_ba p)
  have e2 := Int32.toInt_toInt64 (own_ro p)
  have e3 := Int32.toInt_toInt64 (own_sg p q)
  have e4 : ((own_ba p).toInt64 * (own_ro p).toInt64).toInt = (own_ba p).toInt * (own_ro p).toInt := by
    rw [Int64.toInt_mul, e1, e2, Int.bmod_eq_of_le] <;> omega
  omega
theorem pn_0 : plainFor (⟨"java/lang/Math", "max", "(II)I"⟩ : MethodName) = true := by decide +kernel
theorem ef_1 (m : MethodId) (p1 : Int32) (p2 : Int32) : entryFrame m #[(.int p1), (.int p2)] 2 = (mkF m 0 #[.val (.int p1), .val (.int p2)] []) := by first | (simp [entryFrame, mkF, argsToLocals, Value.category]; done) | rfl
theorem d1_0 : decode jdk_29_method_65_code 0 = .ok (.iload_n 0, 1) := by decide +kernel
theorem d1_1 : decode jdk_29_method_65_code 1 = .ok (.iload_n 1, 1) := by decide +kernel
theorem d1_2 : decode jdk_29_method_65_code 2 = .ok (.if_icmp .lt 7, 3) := by decide +kernel
theorem d1_9 : decode jdk_29_method_65_code 9 = .ok (.iload_n 1, 1) := by decide +kernel
theorem d1_10 : decode jdk_29_method_65_code 10 = .ok (.ireturn, 1) := by decide +kernel
theorem d1_5 : decode jdk_29_method_65_code 5 = .ok (.iload_n 0, 1) := by decide +kernel
theorem d1_6 : decode jdk_29_method_65_code 6 = .ok (.goto 4, 3) := by decide +kernel
def Q1 (Z : State) (p1 : Int32) (p2 : Int32) (h0 : Heap) (n0 : Nat) (v : Option Value) (h : Heap) (L : List Loc) : Prop := v = some (.int (own_max p1 p2)) ∧ Fr n0 L ∧ h = h0
set_option maxRecDepth 65536 in
set_option maxHeartbeats 40000000 in
theorem rm1 (l : Launch) (Z : State) (a0 : Array Value) (hw : ∀ d ∈ tables_1, d.before a0 Z = true) (ws : List Jvm.Cond) (p1 : Int32) (p2 : Int32) (h0 : Heap) (n0 : Nat) (Z0 : n0 ≤ h0.size) :
    MetFree l (⟨"java/lang/Math", "max", "(II)I"⟩ : MethodName) (head1 (Jvm.Cond.code (⟨"java/lang/Math", "max", "(II)I"⟩ : MethodName) jdk_29_method_65_code 2 (some .int) :: ws) ({ frames := 0, cells := 0, slots := 0, locals := 0 } : Room)) (fun a U => a = #[(.int p1), (.int p2)] ∧ Z.Warmed39 U.vm ∧ U.heap = h0) (fun _ _ _ _ _ => True) (fun _ U o U' => ∃ v L, o = .returned v ∧ Q1 Z p1 p2 h0 n0 v U'.heap L ∧ FrameEnd U o U' L ({ frames := 0, cells := 0, slots := 0, locals := 0 } : Room).cells ({ frames := 0, cells := 0, slots := 0, locals := 0 } : Room).slots) := by
  refine MetFree.of_bodySF pn_0 hisR ?_
  intro p e s m args below meth c s₁ Bd hml0 hP hK
  obtain ⟨rfl, hZ, hh⟩ := hP
  have hx := Bd.exec
  have hby := Bd.bytes
  have hml : c.maxLocals = 2 := hml0
  have hown : s.vm.findClass "java/lang/Math" = some m.cls := findClass_of_methodNamed Bd.named
  have hnm := (name_of_methodNamed Bd.named Bd.method).1
  have X0 : Stand p l e ({ frames := 0, cells := 0, slots := 0, locals := 0 } : Room) s m #[(.int p1), (.int p2)] below meth c s₁ [] 0 0 := Stand.of_body Bd
  have e0 : s₁.heap = h0 := by rw [← hh, Bd.state]; rfl
  have N0 := Fr.nil n0
  have pre0 : ∀ t, Steps p.tables e below (s₁.setTop (mkF m 0 #[.val (.int p1), .val (.int p2)] [])) t → Steps p.tables e below (s₁.setTop (entryFrame m #[(.int p1), (.int p2)] 2)) t := fun t k => castTop (ef_1 m p1 p2) k
  have pre1 : ∀ t, Steps p.tables e below (s₁.setTop (mkF m 2 #[.val (.int p1), .val (.int p2)] [(.int p2), (.int p1)])) t → Steps p.tables e below (s₁.setTop (entryFrame m #[(.int p1), (.int p2)] 2)) t := fun t kt => by
    refine pre0 _ ?_
    show Steps p.tables e below (s₁.setTop (mkF m 0 #[.val (.int p1), .val (.int p2)] [])) _
    refine XS.iloadN X0.here hx rfl (hb hby d1_0) rfl ?_
    show Steps p.tables e below (s₁.setTop (mkF m 1 #[.val (.int p1), .val (.int p2)] [(.int p1)])) _
    refine XS.iloadN X0.here hx rfl (hb hby d1_1) rfl ?_
    exact kt
  by_cases c1 : p1 < p2
  · have pre2 : ∀ t, Steps p.tables e below (s₁.setTop (mkF m 10 #[.val (.int p1), .val (.int p2)] [(.int p2)])) t → Steps p.tables e below (s₁.setTop (entryFrame m #[(.int p1), (.int p2)] 2)) t := fun t kt => by
      refine pre1 _ ?_
      show Steps p.tables e below (s₁.setTop (mkF m 2 #[.val (.int p1), .val (.int p2)] [(.int p2), (.int p1)])) _
      refine XS.icmpYes X0.here hx rfl (pc0 := 2) (pc' := 9) rfl (hb hby d1_2) rfl (tlt (c1 : p1 < p2)).1 (by decide) (by decide) ?_
      show Steps p.tables e below (s₁.setTop (mkF m 9 #[.val (.int p1), .val (.int p2)] [])) _
      refine XS.iloadN X0.here hx rfl (hb hby d1_9) rfl ?_
      exact kt
    have ev : own_max p1 p2 = p2 := if_pos c1
    obtain ⟨fs, hr, hrun, hended, hW, hsame⟩ := X0.leave (v := (some (.int p2))) (fun h => by rw [Bd.returns] at h; cases h)
    refine ⟨_, _, pre2 _ ?_, hrun, hended, _, _, rfl, ?_, ⟨_, rfl⟩, hW, hsame.mono (by decide) (by decide)⟩
    · show Steps p.tables e below (s₁.setTop (mkF m 10 #[.val (.int p1), .val (.int p2)] [(.int p2)])) _
      exact retI X0 hx Bd.returns (hb hby d1_10) hr
    · show Q1 Z p1 p2 h0 n0 _ s₁.heap _
      rw [e0]
      exact ⟨by rw [ev], N0, rfl⟩
  · have pre3 : ∀ t, Steps p.tables e below (s₁.setTop (mkF m 10 #[.val (.int p1), .val (.int p2)] [(.int p1)])) t → Steps p.tables e below (s₁.setTop (entryFrame m #[(.int p1), (.int p2)] 2)) t := fun t kt => by
      refine pre1 _ ?_
      show Steps p.tables e below (s₁.setTop (mkF m 2 #[.val (.int p1), .val (.int p2)] [(.int p2), (.int p1)])) _
      refine XS.icmpNo X0.here hx rfl (hb hby d1_2) rfl (flt (c1 : ¬ (p1 < p2))).1 ?_
      show Steps p.tables e below (s₁.setTop (mkF m 5 #[.val (.int p1), .val (.int p2)] [])) _
      refine XS.iloadN X0.here hx rfl (hb hby d1_5) rfl ?_
      show Steps p.tables e below (s₁.setTop (mkF m 6 #[.val (.int p1), .val (.int p2)] [(.int p1)])) _
      refine XS.goto X0.here hx rfl (pc0 := 6) (pc' := 10) rfl (hb hby d1_6) (by decide) (by decide) ?_
      exact kt
    have ev : own_max p1 p2 = p1 := if_neg c1
    obtain ⟨fs, hr, hrun, hended, hW, hsame⟩ := X0.leave (v := (some (.int p1))) (fun h => by rw [Bd.returns] at h; cases h)
    refine ⟨_, _, pre3 _ ?_, hrun, hended, _, _, rfl, ?_, ⟨_, rfl⟩, hW, hsame.mono (by decide) (by decide)⟩
    · show Steps p.tables e below (s₁.setTop (mkF m 10 #[.val (.int p1), .val (.int p2)] [(.int p1)])) _
      exact retI X0 hx Bd.returns (hb hby d1_10) hr
    · show Q1 Z p1 p2 h0 n0 _ s₁.heap _
      rw [e0]
      exact ⟨by rw [ev], N0, rfl⟩
theorem pn_1 : plainName "java/lang/Record" = true := by first | (simp [plainName, overriddenIn]; done) | decide +kernel
theorem ef_3 (m : MethodId) (a1 : Addr) : entryFrame m #[(.ref a1)] 1 = (mkF m 0 #[.val (.ref a1)] []) := by first | (simp [entryFrame, mkF, argsToLocals, Value.category]; done) | rfl
theorem d3_0 : decode jdk_30_method_1_code 0 = .ok (.aload_n 0, 1) := by decide +kernel
theorem d3_1 : decode jdk_30_method_1_code 1 = .ok (.invokespecial 1, 3) := by decide +kernel
theorem d3_4 : decode jdk_30_method_1_code 4 = .ok (.return_, 1) := by decide +kernel
def Q3 (Z : State) (a1 : Addr) (h0 : Heap) (n0 : Nat) (v : Option Value) (h : Heap) (L : List Loc) : Prop := v = none ∧ Fr n0 L ∧ h = h0
set_option maxRecDepth 65536 in
set_option maxHeartbeats 40000000 in
theorem rm3 (l : Launch) (Z : State) (a0 : Array Value) (hw : ∀ d ∈ tables_1, d.before a0 Z = true) (ws : List Jvm.Cond) (a1 : Addr) (h0 : Heap) (n0 : Nat) (Z0 : n0 ≤ h0.size) :
    MetFree l (⟨"java/lang/Record", "<init>", "()V"⟩ : MethodName) (head1 (Jvm.Cond.code (⟨"java/lang/Record", "<init>", "()V"⟩ : MethodName) jdk_30_method_1_code 1 none :: ws) ({ frames := 1, cells := 0, slots := 0, locals := 12 } : Room)) (fun a U => a = #[(.ref a1)] ∧ Z.Warmed39 U.vm ∧ U.heap = h0) (fun _ _ _ _ _ => True) (fun _ U o U' => ∃ v L, o = .returned v ∧ Q3 Z a1 h0 n0 v U'.heap L ∧ FrameEnd U o U' L ({ frames := 1, cells := 0, slots := 0, locals := 12 } : Room).cells ({ frames := 1, cells := 0, slots := 0, locals := 12 } : Room).slots) := by
  refine MetFree.of_bodySF (plainFor_of_name pn_1) hisR ?_
  intro p e s m args below meth c s₁ Bd hml0 hP hK
  obtain ⟨rfl, hZ, hh⟩ := hP
  have hx := Bd.exec
  have hby := Bd.bytes
  have hml : c.maxLocals = 1 := hml0
  have hown : s.vm.findClass "java/lang/Record" = some m.cls := findClass_of_methodNamed Bd.named
  have hnm := (name_of_methodNamed Bd.named Bd.method).1
  have X0 : Stand p l e ({ frames := 1, cells := 0, slots := 0, locals := 12 } : Room) s m #[(.ref a1)] below meth c s₁ [] 0 0 := Stand.of_body Bd
  have e0 : s₁.heap = h0 := by rw [← hh, Bd.state]; rfl
  have N0 := Fr.nil n0
  have pre0 : ∀ t, Steps p.tables e below (s₁.setTop (mkF m 0 #[.val (.ref a1)] [])) t → Steps p.tables e below (s₁.setTop (entryFrame m #[(.ref a1)] 1)) t := fun t k => castTop (ef_3 m a1) k
  have pre1 : ∀ t, Steps p.tables e below (s₁.setTop (mkF m 1 #[.val (.ref a1)] [(.ref a1)])) t → Steps p.tables e below (s₁.setTop (entryFrame m #[(.ref a1)] 1)) t := fun t kt => by
    refine pre0 _ ?_
    show Steps p.tables e below (s₁.setTop (mkF m 0 #[.val (.ref a1)] [])) _
    refine XS.aloadN X0.here hx rfl (hb hby d3_0) rfl rfl ?_
    exact kt
  obtain ⟨T2, X2, e2, st2⟩ := initO X0 hx hZ hown (hw _ (List.mem_of_getElem? (i := 20) rfl)) (hw _ (List.mem_of_getElem? (i := 21) rfl)) (hw _ (List.mem_of_getElem? (i := 22) rfl)) e0 (g := (mkF m 1 #[.val (.ref a1)] [(.ref a1)])) rfl (by rw [hml]; rfl) rfl (hb hby d3_1) (by decide) (W := 0) (by show 2 * 0 + _ ≤ _; exact Nat.le_of_eq rfl) (by decide)
  have pre3 : ∀ t, Steps p.tables e below (T2.setTop (mkF m 4 #[.val (.ref a1)] [])) t → Steps p.tables e below (s₁.setTop (entryFrame m #[(.ref a1)] 1)) t := fun t kt => pre1 _ (st2 _ kt)
  obtain ⟨fs, hr, hrun, hended, hW, hsame⟩ := X2.leave (v := none) (fun _ => rfl)
  refine ⟨_, _, pre3 _ ?_, hrun, hended, _, _, rfl, ?_, ⟨_, rfl⟩, hW, hsame.mono (by decide) (by decide)⟩
  · show Steps p.tables e below (T2.setTop (mkF m 4 #[.val (.ref a1)] [])) _
    exact X2.returnOut hx Bd.returns (hb hby d3_4) hr
  · show Q3 Z a1 h0 n0 _ T2.heap _
    rw [e2]
    exact ⟨rfl, N0, rfl⟩
theorem pn_2 : plainName "java/util/Objects" = true := by first | (simp [plainName, overriddenIn]; done) | decide +kernel
theorem ef_5 (m : MethodId) (a1 : Addr) (a2 : Addr) : entryFrame m #[(.ref a1), (.ref a2)] 2 = (mkF m 0 #[.val (.ref a1), .val (.ref a2)] []) := by first | (simp [entryFrame, mkF, argsToLocals, Value.category]; done) | rfl
theorem d5_0 : decode jdk_31_method_11_code 0 = .ok (.aload_n 0, 1) := by decide +kernel
theorem d5_1 : decode jdk_31_method_11_code 1 = .ok (.ifnonnull 12, 3) := by decide +kernel
theorem d5_13 : decode jdk_31_method_11_code 13 = .ok (.aload_n 0, 1) := by decide +kernel
theorem d5_14 : decode jdk_31_method_11_code 14 = .ok (.areturn, 1) := by decide +kernel
def Q5 (Z : State) (a1 : Addr) (a2 : Addr) (h0 : Heap) (n0 : Nat) (v : Option Value) (h : Heap) (L : List Loc) : Prop := v = some (.ref a1) ∧ Fr n0 L ∧ h = h0
set_option maxRecDepth 65536 in
set_option maxHeartbeats 40000000 in
theorem rm5 (l : Launch) (Z : State) (a0 : Array Value) (hw : ∀ d ∈ tables_1, d.before a0 Z = true) (ws : List Jvm.Cond) (a1 : Addr) (a2 : Addr) (h0 : Heap) (n0 : Nat) (Z0 : n0 ≤ h0.size) :
    MetFree l (⟨"java/util/Objects", "requireNonNull", "(Ljava/lang/Object;Ljava/lang/String;)Ljava/lang/Object;"⟩ : MethodName) (head1 (Jvm.Cond.code (⟨"java/util/Objects", "requireNonNull", "(Ljava/lang/Object;Ljava/lang/String;)Ljava/lang/Object;"⟩ : MethodName) jdk_31_method_11_code 2 (some (.object "java/lang/Object")) :: ws) ({ frames := 0, cells := 0, slots := 0, locals := 0 } : Room)) (fun a U => a = #[(.ref a1), (.ref a2)] ∧ Z.Warmed39 U.vm ∧ U.heap = h0) (fun _ _ _ _ _ => True) (fun _ U o U' => ∃ v L, o = .returned v ∧ Q5 Z a1 a2 h0 n0 v U'.heap L ∧ FrameEnd U o U' L ({ frames := 0, cells := 0, slots := 0, locals := 0 } : Room).cells ({ frames := 0, cells := 0, slots := 0, locals := 0 } : Room).slots) := by
  refine MetFree.of_bodySF (plainFor_of_name pn_2) hisR ?_
  intro p e s m args below meth c s₁ Bd hml0 hP hK
  obtain ⟨rfl, hZ, hh⟩ := hP
  have hx := Bd.exec
  have hby := Bd.bytes
  have hml : c.maxLocals = 2 := hml0
  have hown : s.vm.findClass "java/util/Objects" = some m.cls := findClass_of_methodNamed Bd.named
  have hnm := (name_of_methodNamed Bd.named Bd.method).1
  have X0 : Stand p l e ({ frames := 0, cells := 0, slots := 0, locals := 0 } : Room) s m #[(.ref a1), (.ref a2)] below meth c s₁ [] 0 0 := Stand.of_body Bd
  have e0 : s₁.heap = h0 := by rw [← hh, Bd.state]; rfl
  have N0 := Fr.nil n0
  have pre0 : ∀ t, Steps p.tables e below (s₁.setTop (mkF m 0 #[.val (.ref a1), .val (.ref a2)] [])) t → Steps p.tables e below (s₁.setTop (entryFrame m #[(.ref a1), (.ref a2)] 2)) t := fun t k => castTop (ef_5 m a1 a2) k
  have pre1 : ∀ t, Steps p.tables e below (s₁.setTop (mkF m 14 #[.val (.ref a1), .val (.ref a2)] [(.ref a1)])) t → Steps p.tables e below (s₁.setTop (entryFrame m #[(.ref a1), (.ref a2)] 2)) t := fun t kt => by
    refine pre0 _ ?_
    show Steps p.tables e below (s₁.setTop (mkF m 0 #[.val (.ref a1), .val (.ref a2)] [])) _
    refine XS.aloadN X0.here hx rfl (hb hby d5_0) rfl rfl ?_
    show Steps p.tables e below (s₁.setTop (mkF m 1 #[.val (.ref a1), .val (.ref a2)] [(.ref a1)])) _
    refine XS.ifnonnullYes X0.here hx rfl (pc0 := 1) (pc' := 13) rfl (hb hby d5_1) rfl (by decide) (by decide) ?_
    show Steps p.tables e below (s₁.setTop (mkF m 13 #[.val (.ref a1), .val (.ref a2)] [])) _
    refine XS.aloadN X0.here hx rfl (hb hby d5_13) rfl rfl ?_
    exact kt
  obtain ⟨fs, hr, hrun, hended, hW, hsame⟩ := X0.leave (v := (some (.ref a1))) (fun h => by rw [Bd.returns] at h; cases h)
  refine ⟨_, _, pre1 _ ?_, hrun, hended, _, _, rfl, ?_, ⟨_, rfl⟩, hW, hsame.mono (by decide) (by decide)⟩
  · show Steps p.tables e below (s₁.setTop (mkF m 14 #[.val (.ref a1), .val (.ref a2)] [(.ref a1)])) _
    exact retOut X0 hx (t := (.object "java/lang/Object")) Bd.returns rfl (Or.inr (Or.inr (Or.inr (Or.inr ⟨rfl, rfl, rfl⟩)))) (hb hby d5_14) hr
  · show Q5 Z a1 a2 h0 n0 _ s₁.heap _
    rw [e0]
    exact ⟨rfl, N0, rfl⟩
theorem pn_3 : plainName "com/example/libshingle/libshingle/model/DiscoveryOptions" = true := by first | (simp [plainName, overriddenIn]; done) | decide +kernel
theorem ef_6 (m : MethodId) (a1 : Addr) (p2 : Int32) : entryFrame m #[(.ref a1), (.int p2)] 2 = (mkF m 0 #[.val (.ref a1), .val (.int p2)] []) := by first | (simp [entryFrame, mkF, argsToLocals, Value.category]; done) | rfl
theorem d6_0 : decode prog_7_method_8_code 0 = .ok (.iload_n 1, 1) := by decide +kernel
theorem d6_1 : decode prog_7_method_8_code 1 = .ok (.iconst 1, 1) := by decide +kernel
theorem d6_2 : decode prog_7_method_8_code 2 = .ok (.if_icmp .ge 18, 3) := by decide +kernel
theorem d6_20 : decode prog_7_method_8_code 20 = .ok (.return_, 1) := by decide +kernel
def Q6 (Z : State) (a1 : Addr) (p2 : Int32) (h0 : Heap) (n0 : Nat) (v : Option Value) (h : Heap) (L : List Loc) : Prop := v = none ∧ Fr n0 L ∧ h = h0
set_option maxRecDepth 65536 in
set_option maxHeartbeats 40000000 in
theorem rm6 (l : Launch) (Z : State) (a0 : Array Value) (hw : ∀ d ∈ tables_1, d.before a0 Z = true) (ws : List Jvm.Cond) (a1 : Addr) (p2 : Int32) (h0 : Heap) (n0 : Nat) (Z0 : n0 ≤ h0.size) (hp : ¬ (p2 < (1 : Int32))) :
    MetFree l (⟨"com/example/libshingle/libshingle/model/DiscoveryOptions", "atLeastOne", "(Ljava/lang/String;I)V"⟩ : MethodName) (head1 (Jvm.Cond.code (⟨"com/example/libshingle/libshingle/model/DiscoveryOptions", "atLeastOne", "(Ljava/lang/String;I)V"⟩ : MethodName) prog_7_method_8_code 2 none :: ws) ({ frames := 0, cells := 0, slots := 0, locals := 0 } : Room)) (fun a U => a = #[(.ref a1), (.int p2)] ∧ Z.Warmed39 U.vm ∧ U.heap = h0) (fun _ _ _ _ _ => True) (fun _ U o U' => ∃ v L, o = .returned v ∧ Q6 Z a1 p2 h0 n0 v U'.heap L ∧ FrameEnd U o U' L ({ frames := 0, cells := 0, slots := 0, locals := 0 } : Room).cells ({ frames := 0, cells := 0, slots := 0, locals := 0 } : Room).slots) := by
  refine MetFree.of_bodySF (plainFor_of_name pn_3) hisR ?_
  intro p e s m args below meth c s₁ Bd hml0 hP hK
  obtain ⟨rfl, hZ, hh⟩ := hP
  have hx := Bd.exec
  have hby := Bd.bytes
  have hml : c.maxLocals = 2 := hml0
  have hown : s.vm.findClass "com/example/libshingle/libshingle/model/DiscoveryOptions" = some m.cls := findClass_of_methodNamed Bd.named
  have hnm := (name_of_methodNamed Bd.named Bd.method).1
  have X0 : Stand p l e ({ frames := 0, cells := 0, slots := 0, locals := 0 } : Room) s m #[(.ref a1), (.int p2)] below meth c s₁ [] 0 0 := Stand.of_body Bd
  have e0 : s₁.heap = h0 := by rw [← hh, Bd.state]; rfl
  have N0 := Fr.nil n0
  have pre0 : ∀ t, Steps p.tables e below (s₁.setTop (mkF m 0 #[.val (.ref a1), .val (.int p2)] [])) t → Steps p.tables e below (s₁.setTop (entryFrame m #[(.ref a1), (.int p2)] 2)) t := fun t k => castTop (ef_6 m a1 p2) k
  have pre1 : ∀ t, Steps p.tables e below (s₁.setTop (mkF m 20 #[.val (.ref a1), .val (.int p2)] [])) t → Steps p.tables e below (s₁.setTop (entryFrame m #[(.ref a1), (.int p2)] 2)) t := fun t kt => by
    refine pre0 _ ?_
    show Steps p.tables e below (s₁.setTop (mkF m 0 #[.val (.ref a1), .val (.int p2)] [])) _
    refine XS.iloadN X0.here hx rfl (hb hby d6_0) rfl ?_
    show Steps p.tables e below (s₁.setTop (mkF m 1 #[.val (.ref a1), .val (.int p2)] [(.int p2)])) _
    refine XS.iconst X0.here hx rfl (hb hby d6_1) ?_
    show Steps p.tables e below (s₁.setTop (mkF m 2 #[.val (.ref a1), .val (.int p2)] [(.int (1 : Int32)), (.int p2)])) _
    refine XS.icmpYes X0.here hx rfl (pc0 := 2) (pc' := 20) rfl (hb hby d6_2) rfl (flt (hp : ¬ (p2 < (1 : Int32)))).2.1 (by decide) (by decide) ?_
    exact kt
  obtain ⟨fs, hr, hrun, hended, hW, hsame⟩ := X0.leave (v := none) (fun _ => rfl)
  refine ⟨_, _, pre1 _ ?_, hrun, hended, _, _, rfl, ?_, ⟨_, rfl⟩, hW, hsame.mono (by decide) (by decide)⟩
  · show Steps p.tables e below (s₁.setTop (mkF m 20 #[.val (.ref a1), .val (.int p2)] [])) _
    exact X0.returnOut hx Bd.returns (hb hby d6_20) hr
  · show Q6 Z a1 p2 h0 n0 _ s₁.heap _
    rw [e0]
    exact ⟨rfl, N0, rfl⟩
theorem ef_ix (m : MethodId) (a1 : Addr) (a2 : Addr) (p3 : Int32) (x4 : UInt64) (q8 : Int64) : entryFrame m #[(.ref a1), (.ref a2), (.int p3), (.double x4), (.int (0 : Int32)), (.int (0 : Int32)), (.int (0 : Int32)), (.long q8)] 12 = (mkF m 0 #[.val (.ref a1), .val (.ref a2), .val (.int p3), .val (.double x4), .second, .val (.int (0 : Int32)), .val (.int (0 : Int32)), .val (.int (0 : Int32)), .val (.long q8), .second, .unset, .unset] []) := by first | (simp [entryFrame, mkF, argsToLocals, Value.category]; done) | rfl
theorem d2_0 : decode prog_7_method_1_code 0 = .ok (.aload_n 0, 1) := by decide +kernel
theorem pd_0 : parseMethodDescriptor "()V" = some ⟨[], none⟩ := by decide +kernel
theorem d2_1 : decode prog_7_method_1_code 1 = .ok (.invokespecial 1, 3) := by decide +kernel
theorem d2_4 : decode prog_7_method_1_code 4 = .ok (.aload_n 1, 1) := by decide +kernel
theorem d2_5 : decode prog_7_method_1_code 5 = .ok (.ldc 7, 2) := by decide +kernel
theorem pd_1 : parseMethodDescriptor "(Ljava/lang/Object;Ljava/lang/String;)Ljava/lang/Object;" = some ⟨[(.object "java/lang/Object"), (.object "java/lang/String")], some (.object "java/lang/Object")⟩ := by decide +kernel
theorem d2_7 : decode prog_7_method_1_code 7 = .ok (.invokestatic 9, 3) := by decide +kernel
theorem d2_10 : decode prog_7_method_1_code 10 = .ok (.pop, 1) := by decide +kernel
theorem d2_11 : decode prog_7_method_1_code 11 = .ok (.ldc 15, 2) := by decide +kernel
theorem d2_13 : decode prog_7_method_1_code 13 = .ok (.iload_n 2, 1) := by decide +kernel
theorem pd_2 : parseMethodDescriptor "(Ljava/lang/String;I)V" = some ⟨[(.object "java/lang/String"), .int], none⟩ := by decide +kernel
theorem d2_14 : decode prog_7_method_1_code 14 = .ok (.invokestatic 17, 3) := by decide +kernel
theorem d2_17 : decode prog_7_method_1_code 17 = .ok (.dload_n 3, 1) := by decide +kernel
theorem d2_18 : decode prog_7_method_1_code 18 = .ok (.dconst 0, 1) := by decide +kernel
theorem d2_19 : decode prog_7_method_1_code 19 = .ok (.dcmp .l, 1) := by decide +kernel
theorem d2_20 : decode prog_7_method_1_code 20 = .ok (.ifCond .le 9, 3) := by decide +kernel
theorem d2_23 : decode prog_7_method_1_code 23 = .ok (.dload_n 3, 1) := by decide +kernel
theorem d2_24 : decode prog_7_method_1_code 24 = .ok (.dconst 1, 1) := by decide +kernel
theorem d2_25 : decode prog_7_method_1_code 25 = .ok (.dcmp .g, 1) := by decide +kernel
theorem d2_26 : decode prog_7_method_1_code 26 = .ok (.ifCond .le 17, 3) := by decide +kernel
theorem d2_43 : decode prog_7_method_1_code 43 = .ok (.iload 5, 2) := by decide +kernel
theorem d2_45 : decode prog_7_method_1_code 45 = .ok (.ifCond .ne 13, 3) := by decide +kernel
theorem d2_48 : decode prog_7_method_1_code 48 = .ok (.iload 6, 2) := by decide +kernel
theorem d2_50 : decode prog_7_method_1_code 50 = .ok (.ifCond .ne 8, 3) := by decide +kernel
theorem d2_53 : decode prog_7_method_1_code 53 = .ok (.iload 7, 2) := by decide +kernel
theorem d2_55 : decode prog_7_method_1_code 55 = .ok (.ifCond .eq 56, 3) := by decide +kernel
theorem d2_111 : decode prog_7_method_1_code 111 = .ok (.aload_n 0, 1) := by decide +kernel
theorem d2_112 : decode prog_7_method_1_code 112 = .ok (.aload_n 1, 1) := by decide +kernel
theorem d2_113 : decode prog_7_method_1_code 113 = .ok (.putfield 39, 3) := by decide +kernel
theorem d2_116 : decode prog_7_method_1_code 116 = .ok (.aload_n 0, 1) := by decide +kernel
theorem d2_117 : decode prog_7_method_1_code 117 = .ok (.iload_n 2, 1) := by decide +kernel
theorem d2_118 : decode prog_7_method_1_code 118 = .ok (.putfield 42, 3) := by decide +kernel
theorem d2_121 : decode prog_7_method_1_code 121 = .ok (.aload_n 0, 1) := by decide +kernel
theorem d2_122 : decode prog_7_method_1_code 122 = .ok (.dload_n 3, 1) := by decide +kernel
theorem d2_123 : decode prog_7_method_1_code 123 = .ok (.putfield 45, 3) := by decide +kernel
theorem d2_126 : decode prog_7_method_1_code 126 = .ok (.aload_n 0, 1) := by decide +kernel
theorem d2_127 : decode prog_7_method_1_code 127 = .ok (.iload 5, 2) := by decide +kernel
theorem d2_129 : decode prog_7_method_1_code 129 = .ok (.putfield 49, 3) := by decide +kernel
theorem d2_132 : decode prog_7_method_1_code 132 = .ok (.aload_n 0, 1) := by decide +kernel
theorem d2_133 : decode prog_7_method_1_code 133 = .ok (.iload 6, 2) := by decide +kernel
theorem d2_135 : decode prog_7_method_1_code 135 = .ok (.putfield 52, 3) := by decide +kernel
theorem d2_138 : decode prog_7_method_1_code 138 = .ok (.aload_n 0, 1) := by decide +kernel
theorem d2_139 : decode prog_7_method_1_code 139 = .ok (.iload 7, 2) := by decide +kernel
theorem d2_141 : decode prog_7_method_1_code 141 = .ok (.putfield 54, 3) := by decide +kernel
theorem d2_144 : decode prog_7_method_1_code 144 = .ok (.aload_n 0, 1) := by decide +kernel
theorem d2_145 : decode prog_7_method_1_code 145 = .ok (.lload 8, 2) := by decide +kernel
theorem d2_147 : decode prog_7_method_1_code 147 = .ok (.putfield 56, 3) := by decide +kernel
theorem d2_150 : decode prog_7_method_1_code 150 = .ok (.return_, 1) := by decide +kernel
def Qix (Z : State) (a1 : Addr) (a2 : Addr) (p3 : Int32) (x4 : UInt64) (q8 : Int64) (h0 : Heap) (n0 : Nat) (v : Option Value) (h : Heap) (L : List Loc) : Prop := v = none ∧ Fr n0 L ∧ Keep h0 h [a1] ∧ Exa Z h a1 "com/example/libshingle/libshingle/model/DiscoveryOptions" ∧ Fld Z h a1 "com/example/libshingle/libshingle/model/DiscoveryOptions" "signatureLength" "I" (.int (0 : Int32))
set_option maxRecDepth 65536 in
set_option maxHeartbeats 40000000 in
theorem rmix (l : Launch) (Z : State) (a0 : Array Value) (hw : ∀ d ∈ tables_1, d.before a0 Z = true) (ws : List Jvm.Cond) (a1 : Addr) (a2 : Addr) (p3 : Int32) (x4 : UInt64) (q8 : Int64) (h0 : Heap) (n0 : Nat) (Z0 : n0 ≤ h0.size) (E1 : Exa Z h0 a1 "com/example/libshingle/libshingle/model/DiscoveryOptions") (F0 : Fld Z h0 a1 "com/example/libshingle/libshingle/model/DiscoveryOptions" "shingling" "Lcom/example/libshingle/libshingle/model/Shingling;" .null) (F1 : Fld Z h0 a1 "com/example/libshingle/libshingle/model/DiscoveryOptions" "k" "I" (.int (0 : Int32))) (F2 : Fld Z h0 a1 "com/example/libshingle/libshingle/model/DiscoveryOptions" "threshold" "D" (.double 0)) (F3 : Fld Z h0 a1 "com/example/libshingle/libshingle/model/DiscoveryOptions" "signatureLength" "I" (.int (0 : Int32))) (F4 : Fld Z h0 a1 "com/example/libshingle/libshingle/model/DiscoveryOptions" "bands" "I" (.int (0 : Int32))) (F5 : Fld Z h0 a1 "com/example/libshingle/libshingle/model/DiscoveryOptions" "rows" "I" (.int (0 : Int32))) (F6 : Fld Z h0 a1 "com/example/libshingle/libshingle/model/DiscoveryOptions" "seed" "J" (.long (0 : Int64))) (g1 : n0 ≤ a1) (hp3 : ¬ (p3 < (1 : Int32))) (t0 : cmpValue (FP.dcmp x4 (0 : UInt64)) .l = (1 : Int32)) (t1 : ¬ ((0 : Int32) < cmpValue (FP.dcmp x4 (4607182418800017408 : UInt64)) .g)) :
    MetFree l (⟨"com/example/libshingle/libshingle/model/DiscoveryOptions", "<init>", "(Lcom/example/libshingle/libshingle/model/Shingling;IDIIIJ)V"⟩ : MethodName) (head1 (Jvm.Cond.code (⟨"com/example/libshingle/libshingle/model/DiscoveryOptions", "<init>", "(Lcom/example/libshingle/libshingle/model/Shingling;IDIIIJ)V"⟩ : MethodName) prog_7_method_1_code 12 none :: ws) ({ frames := 2, cells := 4, slots := 48, locals := 24 } : Room)) (fun a U => a = #[(.ref a1), (.ref a2), (.int p3), (.double x4), (.int (0 : Int32)), (.int (0 : Int32)), (.int (0 : Int32)), (.long q8)] ∧ Z.Warmed39 U.vm ∧ U.heap = h0) (fun _ _ _ _ _ => True) (fun _ U o U' => ∃ v L, o = .returned v ∧ Qix Z a1 a2 p3 x4 q8 h0 n0 v U'.heap L ∧ ReturnedEndW U o U' L ({ frames := 2, cells := 4, slots := 48, locals := 24 } : Room).cells ({ frames := 2, cells := 4, slots := 48, locals := 24 } : Room).slots) := by
  refine MetFree.of_bodySF (plainFor_of_name pn_3) hisR ?_
  intro p e s m args below meth c s₁ Bd hml0 hP hK
  obtain ⟨rfl, hZ, hh⟩ := hP
  have hx := Bd.exec
  have hby := Bd.bytes
  have hml : c.maxLocals = 12 := hml0
  have hown : s.vm.findClass "com/example/libshingle/libshingle/model/DiscoveryOptions" = some m.cls := findClass_of_methodNamed Bd.named
  have hnm := (name_of_methodNamed Bd.named Bd.method).1
  have X0 : Stand p l e ({ frames := 2, cells := 4, slots := 48, locals := 24 } : Room) (s.setVm s.vm) m #[(.ref a1), (.ref a2), (.int p3), (.double x4), (.int (0 : Int32)), (.int (0 : Int32)), (.int (0 : Int32)), (.long q8)] below meth c s₁ [] 0 0 := Stand.of_body Bd
  have e0 : s₁.heap = h0 := by rw [← hh, Bd.state]; rfl
  have N0 := Fr.nil n0
  have hS := (State.WarmedH.refl s).since s₁.heap.size
  have hk : s₁.heap.size ≤ h0.size := Nat.le_of_eq (congrArg Array.size e0)
  have wS : ∀ a ∈ Bundle.stringAtoms, a.before a0 Z = true := own_wS hw
  have K0 : Keep h0 h0 [a1] := Keep.refl _ _
  have pre0 : ∀ t, Steps p.tables e below (s₁.setTop (mkF m 0 #[.val (.ref a1), .val (.ref a2), .val (.int p3), .val (.double x4), .second, .val (.int (0 : Int32)), .val (.int (0 : Int32)), .val (.int (0 : Int32)), .val (.long q8), .second, .unset, .unset] [])) t → Steps p.tables e below (s₁.setTop (entryFrame m #[(.ref a1), (.ref a2), (.int p3), (.double x4), (.int (0 : Int32)), (.int (0 : Int32)), (.int (0 : Int32)), (.long q8)] 12)) t := fun t k => castTop (ef_ix m a1 a2 p3 x4 q8) k
  have pre1 : ∀ t, Steps p.tables e below (s₁.setTop (mkF m 1 #[.val (.ref a1), .val (.ref a2), .val (.int p3), .val (.double x4), .second, .val (.int (0 : Int32)), .val (.int (0 : Int32)), .val (.int (0 : Int32)), .val (.long q8), .second, .unset, .unset] [(.ref a1)])) t → Steps p.tables e below (s₁.setTop (entryFrame m #[(.ref a1), (.ref a2), (.int p3), (.double x4), (.int (0 : Int32)), (.int (0 : Int32)), (.int (0 : Int32)), (.long q8)] 12)) t := fun t kt => by
    refine pre0 _ ?_
    show Steps p.tables e below (s₁.setTop (mkF m 0 #[.val (.ref a1), .val (.ref a2), .val (.int p3), .val (.double x4), .second, .val (.int (0 : Int32)), .val (.int (0 : Int32)), .val (.int (0 : Int32)), .val (.long q8), .second, .unset, .unset] [])) _
    refine XS.aloadN X0.here hx rfl (hb hby d2_0) rfl rfl ?_
    exact kt
  obtain ⟨_, _, ⟨T2, L2, kc2, nc2⟩, -, X2, ⟨Lc2, hQ2, l2, y2, z2⟩, st2⟩ := X0.specialBack hx (y := (⟨"java/lang/Record", "<init>", "()V"⟩ : MethodName)) rfl hown (mvT hZ (hw _ (List.mem_of_getElem? (i := 15) rfl))) (mvT hZ (hw _ (List.mem_of_getElem? (i := 16) rfl))) (mvT hZ (hw _ (List.mem_of_getElem? (i := 19) rfl))) (by decide) (backOf (W := 0) (rm3 l Z a0 hw [] a1 h0 n0 Z0) hZ (hw _ (List.mem_of_getElem? (i := 19) rfl)) (hw _ (List.mem_of_getElem? (i := 18) rfl)) (by decide) (by decide)) (g := (mkF m 1 #[.val (.ref a1), .val (.ref a2), .val (.int p3), .val (.double x4), .second, .val (.int (0 : Int32)), .val (.int (0 : Int32)), .val (.int (0 : Int32)), .val (.long q8), .second, .unset, .unset] [(.ref a1)])) rfl (by rw [hml]; rfl) (Steps.refl _) (a := a1) (argsL := []) (rest := []) (lenOf pd_0 rfl) rfl (by show 2 * 0 + _ ≤ _; exact Nat.le_of_eq rfl) (hb hby d2_1) (fun _ _ => ⟨rfl, e0, (by decide : 0 + 0 ≤ _), (by decide : 0 + 0 ≤ _)⟩)
  dsimp only [Pt.U, Pt.locs, Pt.cells, Pt.slots] at X2 l2 y2 z2 st2 hQ2
  subst l2 y2 z2
  obtain ⟨rfl, N2q, he2⟩ := hQ2
  have N2 := Fr.app N0 N2q
  have pre3 : ∀ t, Steps p.tables e below (T2.setTop (mkF m 4 #[.val (.ref a1), .val (.ref a2), .val (.int p3), .val (.double x4), .second, .val (.int (0 : Int32)), .val (.int (0 : Int32)), .val (.int (0 : Int32)), .val (.long q8), .second, .unset, .unset] [])) t → Steps p.tables e below (s₁.setTop (entryFrame m #[(.ref a1), (.ref a2), (.int p3), (.double x4), (.int (0 : Int32)), (.int (0 : Int32)), (.int (0 : Int32)), (.long q8)] 12)) t := fun t kt => pre1 _ (st2.trans kt)
  have pre4 : ∀ t, Steps p.tables e below (T2.setTop (mkF m 5 #[.val (.ref a1), .val (.ref a2), .val (.int p3), .val (.double x4), .second, .val (.int (0 : Int32)), .val (.int (0 : Int32)), .val (.int (0 : Int32)), .val (.long q8), .second, .unset, .unset] [(.ref a2)])) t → Steps p.tables e below (s₁.setTop (entryFrame m #[(.ref a1), (.ref a2), (.int p3), (.double x4), (.int (0 : Int32)), (.int (0 : Int32)), (.int (0 : Int32)), (.long q8)] 12)) t := fun t kt => by
    refine pre3 _ ?_
    show Steps p.tables e below (T2.setTop (mkF m 4 #[.val (.ref a1), .val (.ref a2), .val (.int p3), .val (.double x4), .second, .val (.int (0 : Int32)), .val (.int (0 : Int32)), .val (.int (0 : Int32)), .val (.long q8), .second, .unset, .unset] [])) _
    refine XS.aloadN X2.here hx rfl (hb hby d2_4) rfl rfl ?_
    exact kt
  obtain ⟨sa5, T5, h5, k5, X5, e5, E5, hS5, hk5, hZ5, hown5, st5⟩ := ldcS X2 hx hZ hown (hw _ (List.mem_of_getElem? (i := 23) rfl)) wS he2 hS hk (g := (mkF m 5 #[.val (.ref a1), .val (.ref a2), .val (.int p3), .val (.double x4), .second, .val (.int (0 : Int32)), .val (.int (0 : Int32)), .val (.int (0 : Int32)), .val (.long q8), .second, .unset, .unset] [(.ref a2)])) rfl (hb hby d2_5) (n := 36) (by decide) (by decide) (by decide) (by decide)
  have hZ := hZ5
  have hown := hown5
  have hS := hS5
  have pre6 : ∀ t, Steps p.tables e below (T5.setTop (mkF m 7 #[.val (.ref a1), .val (.ref a2), .val (.int p3), .val (.double x4), .second, .val (.int (0 : Int32)), .val (.int (0 : Int32)), .val (.int (0 : Int32)), .val (.long q8), .second, .unset, .unset] [(.ref sa5), (.ref a2)])) t → Steps p.tables e below (s₁.setTop (entryFrame m #[(.ref a1), (.ref a2), (.int p3), (.double x4), (.int (0 : Int32)), (.int (0 : Int32)), (.int (0 : Int32)), (.long q8)] 12)) t := fun t kt => pre4 _ (st5 _ kt)
  have z7 : n0 ≤ h5.size := (Nat.le_trans Z0 E5.1)
  obtain ⟨_, _, ⟨T8, L8, kc8, nc8⟩, -, X8, ⟨Lc8, hQ8, l8, y8, z8⟩, st8⟩ := Jvm.LawKit.callS X5 hx (y := (⟨"java/util/Objects", "requireNonNull", "(Ljava/lang/Object;Ljava/lang/String;)Ljava/lang/Object;"⟩ : MethodName)) hown (mvT hZ (hw _ (List.mem_of_getElem? (i := 31) rfl))) (mvT hZ (hw _ (List.mem_of_getElem? (i := 32) rfl))) (mvT hZ (hw _ (List.mem_of_getElem? (i := 33) rfl))) (mvT hZ (hw _ (List.mem_of_getElem? (i := 34) rfl))) (by decide) (backOf (W := 0) (rm5 l Z a0 hw [] a2 sa5 h5 n0 z7) hZ (hw _ (List.mem_of_getElem? (i := 34) rfl)) (hw _ (List.mem_of_getElem? (i := 33) rfl)) (by decide) (by decide)) (g := (mkF m 7 #[.val (.ref a1), .val (.ref a2), .val (.int p3), .val (.double x4), .second, .val (.int (0 : Int32)), .val (.int (0 : Int32)), .val (.int (0 : Int32)), .val (.long q8), .second, .unset, .unset] [(.ref sa5), (.ref a2)])) rfl (by rw [hml]; rfl) (argsL := [(.ref a2), (.ref sa5)]) (rest := []) (lenOf pd_1 rfl) rfl (by show 2 * 0 + _ ≤ _; exact Nat.le_of_eq rfl) (hb hby d2_7) (fun _ _ => ⟨rfl, e5, (by decide : 2 + 0 ≤ _), (by decide : 40 + 0 ≤ _)⟩)
  dsimp only [Pt.U, Pt.locs, Pt.cells, Pt.slots] at X8 l8 y8 z8 st8 hQ8
  subst l8 y8 z8
  obtain ⟨rfl, N8q, he8⟩ := hQ8
  have N8 := Fr.app N2 N8q
  have pre9 : ∀ t, Steps p.tables e below (T8.setTop (mkF m 10 #[.val (.ref a1), .val (.ref a2), .val (.int p3), .val (.double x4), .second, .val (.int (0 : Int32)), .val (.int (0 : Int32)), .val (.int (0 : Int32)), .val (.long q8), .second, .unset, .unset] [(.ref a2)])) t → Steps p.tables e below (s₁.setTop (entryFrame m #[(.ref a1), (.ref a2), (.int p3), (.double x4), (.int (0 : Int32)), (.int (0 : Int32)), (.int (0 : Int32)), (.long q8)] 12)) t := fun t kt => pre6 _ (st8 _ kt)
  have pre10 : ∀ t, Steps p.tables e below (T8.setTop (mkF m 11 #[.val (.ref a1), .val (.ref a2), .val (.int p3), .val (.double x4), .second, .val (.int (0 : Int32)), .val (.int (0 : Int32)), .val (.int (0 : Int32)), .val (.long q8), .second, .unset, .unset] [])) t → Steps p.tables e below (s₁.setTop (entryFrame m #[(.ref a1), (.ref a2), (.int p3), (.double x4), (.int (0 : Int32)), (.int (0 : Int32)), (.int (0 : Int32)), (.long q8)] 12)) t := fun t kt => by
    refine pre9 _ ?_
    show Steps p.tables e below (T8.setTop (mkF m 10 #[.val (.ref a1), .val (.ref a2), .val (.int p3), .val (.double x4), .second, .val (.int (0 : Int32)), .val (.int (0 : Int32)), .val (.int (0 : Int32)), .val (.long q8), .second, .unset, .unset] [(.ref a2)])) _
    refine XS.pop X8.here hx rfl (hb hby d2_10) rfl rfl ?_
    exact kt
  obtain ⟨sa11, T11, h11, k11, X11, e11, E11, hS11, hk11, hZ11, hown11, st11⟩ := ldcS X8 hx hZ hown (hw _ (List.mem_of_getElem? (i := 35) rfl)) wS he8 hS hk5 (g := (mkF m 11 #[.val (.ref a1), .val (.ref a2), .val (.int p3), .val (.double x4), .second, .val (.int (0 : Int32)), .val (.int (0 : Int32)), .val (.int (0 : Int32)), .val (.long q8), .second, .unset, .unset] [])) rfl (hb hby d2_11) (n := 4) (by decide) (by decide) (by decide) (by decide)
  have hZ := hZ11
  have hown := hown11
  have hS := hS11
  have pre12 : ∀ t, Steps p.tables e below (T11.setTop (mkF m 13 #[.val (.ref a1), .val (.ref a2), .val (.int p3), .val (.double x4), .second, .val (.int (0 : Int32)), .val (.int (0 : Int32)), .val (.int (0 : Int32)), .val (.long q8), .second, .unset, .unset] [(.ref sa11)])) t → Steps p.tables e below (s₁.setTop (entryFrame m #[(.ref a1), (.ref a2), (.int p3), (.double x4), (.int (0 : Int32)), (.int (0 : Int32)), (.int (0 : Int32)), (.long q8)] 12)) t := fun t kt => pre10 _ (st11 _ kt)
  have z13 : n0 ≤ h11.size := (Nat.le_trans z7 E11.1)
  have pre14 : ∀ t, Steps p.tables e below (T11.setTop (mkF m 14 #[.val (.ref a1), .val (.ref a2), .val (.int p3), .val (.double x4), .second, .val (.int (0 : Int32)), .val (.int (0 : Int32)), .val (.int (0 : Int32)), .val (.long q8), .second, .unset, .unset] [(.int p3), (.ref sa11)])) t → Steps p.tables e below (s₁.setTop (entryFrame m #[(.ref a1), (.ref a2), (.int p3), (.double x4), (.int (0 : Int32)), (.int (0 : Int32)), (.int (0 : Int32)), (.long q8)] 12)) t := fun t kt => by
    refine pre12 _ ?_
    show Steps p.tables e below (T11.setTop (mkF m 13 #[.val (.ref a1), .val (.ref a2), .val (.int p3), .val (.double x4), .second, .val (.int (0 : Int32)), .val (.int (0 : Int32)), .val (.int (0 : Int32)), .val (.long q8), .second, .unset, .unset] [(.ref sa11)])) _
    refine XS.iloadN X11.here hx rfl (hb hby d2_13) rfl ?_
    exact kt
  obtain ⟨_, _, ⟨T15, L15, kc15, nc15⟩, -, X15, ⟨Lc15, hQ15, l15, y15, z15⟩, st15⟩ := Jvm.LawKit.callS X11 hx (y := (⟨"com/example/libshingle/libshingle/model/DiscoveryOptions", "atLeastOne", "(Ljava/lang/String;I)V"⟩ : MethodName)) hown (mvT hZ (hw _ (List.mem_of_getElem? (i := 36) rfl))) (mvT hZ (hw _ (List.mem_of_getElem? (i := 37) rfl))) (mvT hZ (hw _ (List.mem_of_getElem? (i := 11) rfl))) (mvT hZ (hw _ (List.mem_of_getElem? (i := 38) rfl))) (by decide) (backOf (W := 0) (rm6 l Z a0 hw [] sa11 p3 h11 n0 z13 hp3) hZ (hw _ (List.mem_of_getElem? (i := 38) rfl)) (hw _ (List.mem_of_getElem? (i := 11) rfl)) (by decide) (by decide)) (g := (mkF m 14 #[.val (.ref a1), .val (.ref a2), .val (.int p3), .val (.double x4), .second, .val (.int (0 : Int32)), .val (.int (0 : Int32)), .val (.int (0 : Int32)), .val (.long q8), .second, .unset, .unset] [(.int p3), (.ref sa11)])) rfl (by rw [hml]; rfl) (argsL := [(.ref sa11), (.int p3)]) (rest := []) (lenOf pd_2 rfl) rfl (by show 2 * 0 + _ ≤ _; exact Nat.le_of_eq rfl) (hb hby d2_14) (fun _ _ => ⟨rfl, e11, (by decide : 4 + 0 ≤ _), (by decide : 48 + 0 ≤ _)⟩)
  dsimp only [Pt.U, Pt.locs, Pt.cells, Pt.slots] at X15 l15 y15 z15 st15 hQ15
  subst l15 y15 z15
  obtain ⟨rfl, N15q, he15⟩ := hQ15
  have N15 := Fr.app N8 N15q
  have pre16 : ∀ t, Steps p.tables e below (T15.setTop (mkF m 17 #[.val (.ref a1), .val (.ref a2), .val (.int p3), .val (.double x4), .second, .val (.int (0 : Int32)), .val (.int (0 : Int32)), .val (.int (0 : Int32)), .val (.long q8), .second, .unset, .unset] [])) t → Steps p.tables e below (s₁.setTop (entryFrame m #[(.ref a1), (.ref a2), (.int p3), (.double x4), (.int (0 : Int32)), (.int (0 : Int32)), (.int (0 : Int32)), (.long q8)] 12)) t := fun t kt => pre14 _ (st15 _ kt)
  have f17 := ((F0.ext E5).ext E11)
  have f18 := ((E1.ext E5).ext E11)
  have pre19 : ∀ t, Steps p.tables e below (T15.setTop (mkF m 113 #[.val (.ref a1), .val (.ref a2), .val (.int p3), .val (.double x4), .second, .val (.int (0 : Int32)), .val (.int (0 : Int32)), .val (.int (0 : Int32)), .val (.long q8), .second, .unset, .unset] [(.ref a2), (.ref a1)])) t → Steps p.tables e below (s₁.setTop (entryFrame m #[(.ref a1), (.ref a2), (.int p3), (.double x4), (.int (0 : Int32)), (.int (0 : Int32)), (.int (0 : Int32)), (.long q8)] 12)) t := fun t kt => by
    refine pre16 _ ?_
    show Steps p.tables e below (T15.setTop (mkF m 17 #[.val (.ref a1), .val (.ref a2), .val (.int p3), .val (.double x4), .second, .val (.int (0 : Int32)), .val (.int (0 : Int32)), .val (.int (0 : Int32)), .val (.long q8), .second, .unset, .unset] [])) _
    refine XS.dloadN X15.here hx rfl (hb hby d2_17) rfl ?_
    show Steps p.tables e below (T15.setTop (mkF m 18 #[.val (.ref a1), .val (.ref a2), .val (.int p3), .val (.double x4), .second, .val (.int (0 : Int32)), .val (.int (0 : Int32)), .val (.int (0 : Int32)), .val (.long q8), .second, .unset, .unset] [(.double x4)])) _
    refine XS.dconst0 X15.here hx rfl (hb hby d2_18) rfl ?_
    show Steps p.tables e below (T15.setTop (mkF m 19 #[.val (.ref a1), .val (.ref a2), .val (.int p3), .val (.double x4), .second, .val (.int (0 : Int32)), .val (.int (0 : Int32)), .val (.int (0 : Int32)), .val (.long q8), .second, .unset, .unset] [(.double (0 : UInt64)), (.double x4)])) _
    refine XS.dcmpS X15.here hx rfl (hb hby d2_19) rfl t0 ?_
    show Steps p.tables e below (T15.setTop (mkF m 20 #[.val (.ref a1), .val (.ref a2), .val (.int p3), .val (.double x4), .second, .val (.int (0 : Int32)), .val (.int (0 : Int32)), .val (.int (0 : Int32)), .val (.long q8), .second, .unset, .unset] [(.int (1 : Int32))])) _
    refine XS.ifNo X15.here hx rfl (hb hby d2_20) rfl ((if0 _ _).trans (tlt (by decide : (0 : Int32) < (1 : Int32))).2.2.2) ?_
    show Steps p.tables e below (T15.setTop (mkF m 23 #[.val (.ref a1), .val (.ref a2), .val (.int p3), .val (.double x4), .second, .val (.int (0 : Int32)), .val (.int (0 : Int32)), .val (.int (0 : Int32)), .val (.long q8), .second, .unset, .unset] [])) _
    refine XS.dloadN X15.here hx rfl (hb hby d2_23) rfl ?_
    show Steps p.tables e below (T15.setTop (mkF m 24 #[.val (.ref a1), .val (.ref a2), .val (.int p3), .val (.double x4), .second, .val (.int (0 : Int32)), .val (.int (0 : Int32)), .val (.int (0 : Int32)), .val (.long q8), .second, .unset, .unset] [(.double x4)])) _
    refine XS.dconst1 X15.here hx rfl (hb hby d2_24) rfl ?_
    show Steps p.tables e below (T15.setTop (mkF m 25 #[.val (.ref a1), .val (.ref a2), .val (.int p3), .val (.double x4), .second, .val (.int (0 : Int32)), .val (.int (0 : Int32)), .val (.int (0 : Int32)), .val (.long q8), .second, .unset, .unset] [(.double (4607182418800017408 : UInt64)), (.double x4)])) _
    refine XS.dcmpS X15.here hx rfl (hb hby d2_25) rfl rfl ?_
    show Steps p.tables e below (T15.setTop (mkF m 26 #[.val (.ref a1), .val (.ref a2), .val (.int p3), .val (.double x4), .second, .val (.int (0 : Int32)), .val (.int (0 : Int32)), .val (.int (0 : Int32)), .val (.long q8), .second, .unset, .unset] [(.int (cmpValue (FP.dcmp x4 (4607182418800017408 : UInt64)) .g))])) _
    refine XS.ifYes X15.here hx rfl (pc0 := 26) (pc' := 43) rfl (hb hby d2_26) rfl ((if0 _ _).trans (flt (t1 : ¬ ((0 : Int32) < (cmpValue (FP.dcmp x4 (4607182418800017408 : UInt64)) .g)))).2.2.2) (by decide) (by decide) ?_
    show Steps p.tables e below (T15.setTop (mkF m 43 #[.val (.ref a1), .val (.ref a2), .val (.int p3), .val (.double x4), .second, .val (.int (0 : Int32)), .val (.int (0 : Int32)), .val (.int (0 : Int32)), .val (.long q8), .second, .unset, .unset] [])) _
    refine XS.iload X15.here hx rfl (hb hby d2_43) rfl ?_
    show Steps p.tables e below (T15.setTop (mkF m 45 #[.val (.ref a1), .val (.ref a2), .val (.int p3), .val (.double x4), .second, .val (.int (0 : Int32)), .val (.int (0 : Int32)), .val (.int (0 : Int32)), .val (.long q8), .second, .unset, .unset] [(.int (0 : Int32))])) _
    refine XS.ifNo X15.here hx rfl (hb hby d2_45) rfl ((if0 _ _).trans (teq (by decide : (0 : Int32) = (0 : Int32))).2) ?_
    show Steps p.tables e below (T15.setTop (mkF m 48 #[.val (.ref a1), .val (.ref a2), .val (.int p3), .val (.double x4), .second, .val (.int (0 : Int32)), .val (.int (0 : Int32)), .val (.int (0 : Int32)), .val (.long q8), .second, .unset, .unset] [])) _
    refine XS.iload X15.here hx rfl (hb hby d2_48) rfl ?_
    show Steps p.tables e below (T15.setTop (mkF m 50 #[.val (.ref a1), .val (.ref a2), .val (.int p3), .val (.double x4), .second, .val (.int (0 : Int32)), .val (.int (0 : Int32)), .val (.int (0 : Int32)), .val (.long q8), .second, .unset, .unset] [(.int (0 : Int32))])) _
    refine XS.ifNo X15.here hx rfl (hb hby d2_50) rfl ((if0 _ _).trans (teq (by decide : (0 : Int32) = (0 : Int32))).2) ?_
    show Steps p.tables e below (T15.setTop (mkF m 53 #[.val (.ref a1), .val (.ref a2), .val (.int p3), .val (.double x4), .second, .val (.int (0 : Int32)), .val (.int (0 : Int32)), .val (.int (0 : Int32)), .val (.long q8), .second, .unset, .unset] [])) _
    refine XS.iload X15.here hx rfl (hb hby d2_53) rfl ?_
    show Steps p.tables e below (T15.setTop (mkF m 55 #[.val (.ref a1), .val (.ref a2), .val (.int p3), .val (.double x4), .second, .val (.int (0 : Int32)), .val (.int (0 : Int32)), .val (.int (0 : Int32)), .val (.long q8), .second, .unset, .unset] [(.int (0 : Int32))])) _
    refine XS.ifYes X15.here hx rfl (pc0 := 55) (pc' := 111) rfl (hb hby d2_55) rfl ((if0 _ _).trans (teq (by decide : (0 : Int32) = (0 : Int32))).1) (by decide) (by decide) ?_
    show Steps p.tables e below (T15.setTop (mkF m 111 #[.val (.ref a1), .val (.ref a2), .val (.int p3), .val (.double x4), .second, .val (.int (0 : Int32)), .val (.int (0 : Int32)), .val (.int (0 : Int32)), .val (.long q8), .second, .unset, .unset] [])) _
    refine XS.aloadN X15.here hx rfl (hb hby d2_111) rfl rfl ?_
    show Steps p.tables e below (T15.setTop (mkF m 112 #[.val (.ref a1), .val (.ref a2), .val (.int p3), .val (.double x4), .second, .val (.int (0 : Int32)), .val (.int (0 : Int32)), .val (.int (0 : Int32)), .val (.long q8), .second, .unset, .unset] [(.ref a1)])) _
    refine XS.aloadN X15.here hx rfl (hb hby d2_112) rfl rfl ?_
    exact kt
  obtain ⟨T20, h20, X20, e20, W20, st20⟩ := putF X15 hx hZ hown (host := "") (Or.inl (hw _ (List.mem_of_getElem? (i := 41) rfl))) Via.refl he15 f17 f18 (Or.inr ⟨(hw _ (List.mem_of_getElem? (i := 42) rfl)), rfl, hnm⟩) (hw _ (List.mem_of_getElem? (i := 10) rfl)) (ty := (.object "com/example/libshingle/libshingle/model/Shingling")) (by decide) rfl rfl (g := (mkF m 113 #[.val (.ref a1), .val (.ref a2), .val (.int p3), .val (.double x4), .second, .val (.int (0 : Int32)), .val (.int (0 : Int32)), .val (.int (0 : Int32)), .val (.long q8), .second, .unset, .unset] [(.ref a2), (.ref a1)])) rfl rfl (hb hby d2_113)
  have Fw20 := f17.same W20
  have N20 := Fr.snoc X20 N15 g1
  have pre21 : ∀ t, Steps p.tables e below (T20.setTop (mkF m 116 #[.val (.ref a1), .val (.ref a2), .val (.int p3), .val (.double x4), .second, .val (.int (0 : Int32)), .val (.int (0 : Int32)), .val (.int (0 : Int32)), .val (.long q8), .second, .unset, .unset] [])) t → Steps p.tables e below (s₁.setTop (entryFrame m #[(.ref a1), (.ref a2), (.int p3), (.double x4), (.int (0 : Int32)), (.int (0 : Int32)), (.int (0 : Int32)), (.long q8)] 12)) t := fun t kt => pre19 _ (st20 _ kt)
  have f22 := (((F1.ext E5).ext E11).other W20 (Or.inr (slot_ne (Or.inr (hw _ (List.mem_of_getElem? (i := 44) rfl))) (Or.inr (hw _ (List.mem_of_getElem? (i := 42) rfl))) (by decide) (t := .int) (t' := (.object "com/example/libshingle/libshingle/model/Shingling")) (by decide) (by decide))))
  have f23 := (f18.wr W20)
  have pre24 : ∀ t, Steps p.tables e below (T20.setTop (mkF m 118 #[.val (.ref a1), .val (.ref a2), .val (.int p3), .val (.double x4), .second, .val (.int (0 : Int32)), .val (.int (0 : Int32)), .val (.int (0 : Int32)), .val (.long q8), .second, .unset, .unset] [(.int p3), (.ref a1)])) t → Steps p.tables e below (s₁.setTop (entryFrame m #[(.ref a1), (.ref a2), (.int p3), (.double x4), (.int (0 : Int32)), (.int (0 : Int32)), (.int (0 : Int32)), (.long q8)] 12)) t := fun t kt => by
    refine pre21 _ ?_
    show Steps p.tables e below (T20.setTop (mkF m 116 #[.val (.ref a1), .val (.ref a2), .val (.int p3), .val (.double x4), .second, .val (.int (0 : Int32)), .val (.int (0 : Int32)), .val (.int (0 : Int32)), .val (.long q8), .second, .unset, .unset] [])) _
    refine XS.aloadN X20.here hx rfl (hb hby d2_116) rfl rfl ?_
    show Steps p.tables e below (T20.setTop (mkF m 117 #[.val (.ref a1), .val (.ref a2), .val (.int p3), .val (.double x4), .second, .val (.int (0 : Int32)), .val (.int (0 : Int32)), .val (.int (0 : Int32)), .val (.long q8), .second, .unset, .unset] [(.ref a1)])) _
    refine XS.iloadN X20.here hx rfl (hb hby d2_117) rfl ?_
    exact kt
  obtain ⟨T25, h25, X25, e25, W25, st25⟩ := putF X20 hx hZ hown (host := "") (Or.inl (hw _ (List.mem_of_getElem? (i := 43) rfl))) Via.refl e20 f22 f23 (Or.inr ⟨(hw _ (List.mem_of_getElem? (i := 44) rfl)), rfl, hnm⟩) (hw _ (List.mem_of_getElem? (i := 10) rfl)) (ty := .int) (by decide) rfl rfl (g := (mkF m 118 #[.val (.ref a1), .val (.ref a2), .val (.int p3), .val (.double x4), .second, .val (.int (0 : Int32)), .val (.int (0 : Int32)), .val (.int (0 : Int32)), .val (.long q8), .second, .unset, .unset] [(.int p3), (.ref a1)])) rfl rfl (hb hby d2_118)
  have Fw25 := f22.same W25
  have N25 := Fr.snoc X25 N20 g1
  have pre26 : ∀ t, Steps p.tables e below (T25.setTop (mkF m 121 #[.val (.ref a1), .val (.ref a2), .val (.int p3), .val (.double x4), .second, .val (.int (0 : Int32)), .val (.int (0 : Int32)), .val (.int (0 : Int32)), .val (.long q8), .second, .unset, .unset] [])) t → Steps p.tables e below (s₁.setTop (entryFrame m #[(.ref a1), (.ref a2), (.int p3), (.double x4), (.int (0 : Int32)), (.int (0 : Int32)), (.int (0 : Int32)), (.long q8)] 12)) t := fun t kt => pre24 _ (st25 _ kt)
  have f27 := ((((F2.ext E5).ext E11).other W20 (Or.inr (slot_ne (Or.inr (hw _ (List.mem_of_getElem? (i := 46) rfl))) (Or.inr (hw _ (List.mem_of_getElem? (i := 42) rfl))) (by decide) (t := .double) (t' := (.object "com/example/libshingle/libshingle/model/Shingling")) (by decide) (by decide)))).other W25 (Or.inr (slot_ne (Or.inr (hw _ (List.mem_of_getElem? (i := 46) rfl))) (Or.inr (hw _ (List.mem_of_getElem? (i := 44) rfl))) (by decide) (t := .double) (t' := .int) (by decide) (by decide))))
  have f28 := (f23.wr W25)
  have pre29 : ∀ t, Steps p.tables e below (T25.setTop (mkF m 123 #[.val (.ref a1), .val (.ref a2), .val (.int p3), .val (.double x4), .second, .val (.int (0 : Int32)), .val (.int (0 : Int32)), .val (.int (0 : Int32)), .val (.long q8), .second, .unset, .unset] [(.double x4), (.ref a1)])) t → Steps p.tables e below (s₁.setTop (entryFrame m #[(.ref a1), (.ref a2), (.int p3), (.double x4), (.int (0 : Int32)), (.int (0 : Int32)), (.int (0 : Int32)), (.long q8)] 12)) t := fun t kt => by
    refine pre26 _ ?_
    show Steps p.tables e below (T25.setTop (mkF m 121 #[.val (.ref a1), .val (.ref a2), .val (.int p3), .val (.double x4), .second, .val (.int (0 : Int32)), .val (.int (0 : Int32)), .val (.int (0 : Int32)), .val (.long q8), .second, .unset, .unset] [])) _
    refine XS.aloadN X25.here hx rfl (hb hby d2_121) rfl rfl ?_
    show Steps p.tables e below (T25.setTop (mkF m 122 #[.val (.ref a1), .val (.ref a2), .val (.int p3), .val (.double x4), .second, .val (.int (0 : Int32)), .val (.int (0 : Int32)), .val (.int (0 : Int32)), .val (.long q8), .second, .unset, .unset] [(.ref a1)])) _
    refine XS.dloadN X25.here hx rfl (hb hby d2_122) rfl ?_
    exact kt
  obtain ⟨T30, h30, X30, e30, W30, st30⟩ := putF X25 hx hZ hown (host := "") (Or.inl (hw _ (List.mem_of_getElem? (i := 45) rfl))) Via.refl e25 f27 f28 (Or.inr ⟨(hw _ (List.mem_of_getElem? (i := 46) rfl)), rfl, hnm⟩) (hw _ (List.mem_of_getElem? (i := 10) rfl)) (ty := .double) (by decide) rfl rfl (g := (mkF m 123 #[.val (.ref a1), .val (.ref a2), .val (.int p3), .val (.double x4), .second, .val (.int (0 : Int32)), .val (.int (0 : Int32)), .val (.int (0 : Int32)), .val (.long q8), .second, .unset, .unset] [(.double x4), (.ref a1)])) rfl rfl (hb hby d2_123)
  have Fw30 := f27.same W30
  have N30 := Fr.snoc X30 N25 g1
  have pre31 : ∀ t, Steps p.tables e below (T30.setTop (mkF m 126 #[.val (.ref a1), .val (.ref a2), .val (.int p3), .val (.double x4), .second, .val (.int (0 : Int32)), .val (.int (0 : Int32)), .val (.int (0 : Int32)), .val (.long q8), .second, .unset, .unset] [])) t → Steps p.tables e below (s₁.setTop (entryFrame m #[(.ref a1), (.ref a2), (.int p3), (.double x4), (.int (0 : Int32)), (.int (0 : Int32)), (.int (0 : Int32)), (.long q8)] 12)) t := fun t kt => pre29 _ (st30 _ kt)
  have f32 := (((((F3.ext E5).ext E11).other W20 (Or.inr (slot_ne (Or.inr (hw _ (List.mem_of_getElem? (i := 48) rfl))) (Or.inr (hw _ (List.mem_of_getElem? (i := 42) rfl))) (by decide) (t := .int) (t' := (.object "com/example/libshingle/libshingle/model/Shingling")) (by decide) (by decide)))).other W25 (Or.inr (slot_ne (Or.inr (hw _ (List.mem_of_getElem? (i := 48) rfl))) (Or.inr (hw _ (List.mem_of_getElem? (i := 44) rfl))) (by decide) (t := .int) (t' := .int) (by decide) (by decide)))).other W30 (Or.inr (slot_ne (Or.inr (hw _ (List.mem_of_getElem? (i := 48) rfl))) (Or.inr (hw _ (List.mem_of_getElem? (i := 46) rfl))) (by decide) (t := .int) (t' := .double) (by decide) (by decide))))
  have f33 := (f28.wr W30)
  have pre34 : ∀ t, Steps p.tables e below (T30.setTop (mkF m 129 #[.val (.ref a1), .val (.ref a2), .val (.int p3), .val (.double x4), .second, .val (.int (0 : Int32)), .val (.int (0 : Int32)), .val (.int (0 : Int32)), .val (.long q8), .second, .unset, .unset] [(.int (0 : Int32)), (.ref a1)])) t → Steps p.tables e below (s₁.setTop (entryFrame m #[(.ref a1), (.ref a2), (.int p3), (.double x4), (.int (0 : Int32)), (.int (0 : Int32)), (.int (0 : Int32)), (.long q8)] 12)) t := fun t kt => by
    refine pre31 _ ?_
    show Steps p.tables e below (T30.setTop (mkF m 126 #[.val (.ref a1), .val (.ref a2), .val (.int p3), .val (.double x4), .second, .val (.int (0 : Int32)), .val (.int (0 : Int32)), .val (.int (0 : Int32)), .val (.long q8), .second, .unset, .unset] [])) _
    refine XS.aloadN X30.here hx rfl (hb hby d2_126) rfl rfl ?_
    show Steps p.tables e below (T30.setTop (mkF m 127 #[.val (.ref a1), .val (.ref a2), .val (.int p3), .val (.double x4), .second, .val (.int (0 : Int32)), .val (.int (0 : Int32)), .val (.int (0 : Int32)), .val (.long q8), .second, .unset, .unset] [(.ref a1)])) _
    refine XS.iload X30.here hx rfl (hb hby d2_127) rfl ?_
    exact kt
  obtain ⟨T35, h35, X35, e35, W35, st35⟩ := putF X30 hx hZ hown (host := "") (Or.inl (hw _ (List.mem_of_getElem? (i := 47) rfl))) Via.refl e30 f32 f33 (Or.inr ⟨(hw _ (List.mem_of_getElem? (i := 48) rfl)), rfl, hnm⟩) (hw _ (List.mem_of_getElem? (i := 10) rfl)) (ty := .int) (by decide) rfl rfl (g := (mkF m 129 #[.val (.ref a1), .val (.ref a2), .val (.int p3), .val (.double x4), .second, .val (.int (0 : Int32)), .val (.int (0 : Int32)), .val (.int (0 : Int32)), .val (.long q8), .second, .unset, .unset] [(.int (0 : Int32)), (.ref a1)])) rfl rfl (hb hby d2_129)
  have Fw35 := f32.same W35
  have N35 := Fr.snoc X35 N30 g1
  have pre36 : ∀ t, Steps p.tables e below (T35.setTop (mkF m 132 #[.val (.ref a1), .val (.ref a2), .val (.int p3), .val (.double x4), .second, .val (.int (0 : Int32)), .val (.int (0 : Int32)), .val (.int (0 : Int32)), .val (.long q8), .second, .unset, .unset] [])) t → Steps p.tables e below (s₁.setTop (entryFrame m #[(.ref a1), (.ref a2), (.int p3), (.double x4), (.int (0 : Int32)), (.int (0 : Int32)), (.int (0 : Int32)), (.long q8)] 12)) t := fun t kt => pre34 _ (st35 _ kt)
  have f37 := ((((((F4.ext E5).ext E11).other W20 (Or.inr (slot_ne (Or.inr (hw _ (List.mem_of_getElem? (i := 50) rfl))) (Or.inr (hw _ (List.mem_of_getElem? (i := 42) rfl))) (by decide) (t := .int) (t' := (.object "com/example/libshingle/libshingle/model/Shingling")) (by decide) (by decide)))).other W25 (Or.inr (slot_ne (Or.inr (hw _ (List.mem_of_getElem? (i := 50) rfl))) (Or.inr (hw _ (List.mem_of_getElem? (i := 44) rfl))) (by decide) (t := .int) (t' := .int) (by decide) (by decide)))).other W30 (Or.inr (slot_ne (Or.inr (hw _ (List.mem_of_getElem? (i := 50) rfl))) (Or.inr (hw _ (List.mem_of_getElem? (i := 46) rfl))) (by decide) (t := .int) (t' := .double) (by decide) (by decide)))).other W35 (Or.inr (slot_ne (Or.inr (hw _ (List.mem_of_getElem? (i := 50) rfl))) (Or.inr (hw _ (List.mem_of_getElem? (i := 48) rfl))) (by decide) (t := .int) (t' := .int) (by decide) (by decide))))
  have f38 := (f33.wr W35)
  have pre39 : ∀ t, Steps p.tables e below (T35.setTop (mkF m 135 #[.val (.ref a1), .val (.ref a2), .val (.int p3), .val (.double x4), .second, .val (.int (0 : Int32)), .val (.int (0 : Int32)), .val (.int (0 : Int32)), .val (.long q8), .second, .unset, .unset] [(.int (0 : Int32)), (.ref a1)])) t → Steps p.tables e below (s₁.setTop (entryFrame m #[(.ref a1), (.ref a2), (.int p3), (.double x4), (.int (0 : Int32)), (.int (0 : Int32)), (.int (0 : Int32)), (.long q8)] 12)) t := fun t kt => by
    refine pre36 _ ?_
    show Steps p.tables e below (T35.setTop (mkF m 132 #[.val (.ref a1), .val (.ref a2), .val (.int p3), .val (.double x4), .second, .val (.int (0 : Int32)), .val (.int (0 : Int32)), .val (.int (0 : Int32)), .val (.long q8), .second, .unset, .unset] [])) _
    refine XS.aloadN X35.here hx rfl (hb hby d2_132) rfl rfl ?_
    show Steps p.tables e below (T35.setTop (mkF m 133 #[.val (.ref a1), .val (.ref a2), .val (.int p3), .val (.double x4), .second, .val (.int (0 : Int32)), .val (.int (0 : Int32)), .val (.int (0 : Int32)), .val (.long q8), .second, .unset, .unset] [(.ref a1)])) _
    refine XS.iload X35.here hx rfl (hb hby d2_133) rfl ?_
    exact kt
  obtain ⟨T40, h40, X40, e40, W40, st40⟩ := putF X35 hx hZ hown (host := "") (Or.inl (hw _ (List.mem_of_getElem? (i := 49) rfl))) Via.refl e35 f37 f38 (Or.inr ⟨(hw _ (List.mem_of_getElem? (i := 50) rfl)), rfl, hnm⟩) (hw _ (List.mem_of_getElem? (i := 10) rfl)) (ty := .int) (by decide) rfl rfl (g := (mkF m 135 #[.val (.ref a1), .val (.ref a2), .val (.int p3), .val (.double x4), .second, .val (.int (0 : Int32)), .val (.int (0 : Int32)), .val (.int (0 : Int32)), .val (.long q8), .second, .unset, .unset] [(.int (0 : Int32)), (.ref a1)])) rfl rfl (hb hby d2_135)
  have Fw40 := f37.same W40
  have N40 := Fr.snoc X40 N35 g1
  have pre41 : ∀ t, Steps p.tables e below (T40.setTop (mkF m 138 #[.val (.ref a1), .val (.ref a2), .val (.int p3), .val (.double x4), .second, .val (.int (0 : Int32)), .val (.int (0 : Int32)), .val (.int (0 : Int32)), .val (.long q8), .second, .unset, .unset] [])) t → Steps p.tables e below (s₁.setTop (entryFrame m #[(.ref a1), (.ref a2), (.int p3), (.double x4), (.int (0 : Int32)), (.int (0 : Int32)), (.int (0 : Int32)), (.long q8)] 12)) t := fun t kt => pre39 _ (st40 _ kt)
  have f42 := (((((((F5.ext E5).ext E11).other W20 (Or.inr (slot_ne (Or.inr (hw _ (List.mem_of_getElem? (i := 52) rfl))) (Or.inr (hw _ (List.mem_of_getElem? (i := 42) rfl))) (by decide) (t := .int) (t' := (.object "com/example/libshingle/libshingle/model/Shingling")) (by decide) (by decide)))).other W25 (Or.inr (slot_ne (Or.inr (hw _ (List.mem_of_getElem? (i := 52) rfl))) (Or.inr (hw _ (List.mem_of_getElem? (i := 44) rfl))) (by decide) (t := .int) (t' := .int) (by decide) (by decide)))).other W30 (Or.inr (slot_ne (Or.inr (hw _ (List.mem_of_getElem? (i := 52) rfl))) (Or.inr (hw _ (List.mem_of_getElem? (i := 46) rfl))) (by decide) (t := .int) (t' := .double) (by decide) (by decide)))).other W35 (Or.inr (slot_ne (Or.inr (hw _ (List.mem_of_getElem? (i := 52) rfl))) (Or.inr (hw _ (List.mem_of_getElem? (i := 48) rfl))) (by decide) (t := .int) (t' := .int) (by decide) (by decide)))).other W40 (Or.inr (slot_ne (Or.inr (hw _ (List.mem_of_getElem? (i := 52) rfl))) (Or.inr (hw _ (List.mem_of_getElem? (i := 50) rfl))) (by decide) (t := .int) (t' := .int) (by decide) (by decide))))
  have f43 := (f38.wr W40)
  have pre44 : ∀ t, Steps p.tables e below (T40.setTop (mkF m 141 #[.val (.ref a1), .val (.ref a2), .val (.int p3), .val (.double x4), .second, .val (.int (0 : Int32)), .val (.int (0 : Int32)), .val (.int (0 : Int32)), .val (.long q8), .second, .unset, .unset] [(.int (0 : Int32)), (.ref a1)])) t → Steps p.tables e below (s₁.setTop (entryFrame m #[(.ref a1), (.ref a2), (.int p3), (.double x4), (.int (0 : Int32)), (.int (0 : Int32)), (.int (0 : Int32)), (.long q8)] 12)) t := fun t kt => by
    refine pre41 _ ?_
    show Steps p.tables e below (T40.setTop (mkF m 138 #[.val (.ref a1), .val (.ref a2), .val (.int p3), .val (.double x4), .second, .val (.int (0 : Int32)), .val (.int (0 : Int32)), .val (.int (0 : Int32)), .val (.long q8), .second, .unset, .unset] [])) _
    refine XS.aloadN X40.here hx rfl (hb hby d2_138) rfl rfl ?_
    show Steps p.tables e below (T40.setTop (mkF m 139 #[.val (.ref a1), .val (.ref a2), .val (.int p3), .val (.double x4), .second, .val (.int (0 : Int32)), .val (.int (0 : Int32)), .val (.int (0 : Int32)), .val (.long q8), .second, .unset, .unset] [(.ref a1)])) _
    refine XS.iload X40.here hx rfl (hb hby d2_139) rfl ?_
    exact kt
  obtain ⟨T45, h45, X45, e45, W45, st45⟩ := putF X40 hx hZ hown (host := "") (Or.inl (hw _ (List.mem_of_getElem? (i := 51) rfl))) Via.refl e40 f42 f43 (Or.inr ⟨(hw _ (List.mem_of_getElem? (i := 52) rfl)), rfl, hnm⟩) (hw _ (List.mem_of_getElem? (i := 10) rfl)) (ty := .int) (by decide) rfl rfl (g := (mkF m 141 #[.val (.ref a1), .val (.ref a2), .val (.int p3), .val (.double x4), .second, .val (.int (0 : Int32)), .val (.int (0 : Int32)), .val (.int (0 : Int32)), .val (.long q8), .second, .unset, .unset] [(.int (0 : Int32)), (.ref a1)])) rfl rfl (hb hby d2_141)
  have Fw45 := f42.same W45
  have N45 := Fr.snoc X45 N40 g1
  have pre46 : ∀ t, Steps p.tables e below (T45.setTop (mkF m 144 #[.val (.ref a1), .val (.ref a2), .val (.int p3), .val (.double x4), .second, .val (.int (0 : Int32)), .val (.int (0 : Int32)), .val (.int (0 : Int32)), .val (.long q8), .second, .unset, .unset] [])) t → Steps p.tables e below (s₁.setTop (entryFrame m #[(.ref a1), (.ref a2), (.int p3), (.double x4), (.int (0 : Int32)), (.int (0 : Int32)), (.int (0 : Int32)), (.long q8)] 12)) t := fun t kt => pre44 _ (st45 _ kt)
  have f47 := ((((((((F6.ext E5).ext E11).other W20 (Or.inr (slot_ne (Or.inr (hw _ (List.mem_of_getElem? (i := 54) rfl))) (Or.inr (hw _ (List.mem_of_getElem? (i := 42) rfl))) (by decide) (t := .long) (t' := (.object "com/example/libshingle/libshingle/model/Shingling")) (by decide) (by decide)))).other W25 (Or.inr (slot_ne (Or.inr (hw _ (List.mem_of_getElem? (i := 54) rfl))) (Or.inr (hw _ (List.mem_of_getElem? (i := 44) rfl))) (by decide) (t := .long) (t' := .int) (by decide) (by decide)))).other W30 (Or.inr (slot_ne (Or.inr (hw _ (List.mem_of_getElem? (i := 54) rfl))) (Or.inr (hw _ (List.mem_of_getElem? (i := 46) rfl))) (by decide) (t := .long) (t' := .double) (by decide) (by decide)))).other W35 (Or.inr (slot_ne (Or.inr (hw _ (List.mem_of_getElem? (i := 54) rfl))) (Or.inr (hw _ (List.mem_of_getElem? (i := 48) rfl))) (by decide) (t := .long) (t' := .int) (by decide) (by decide)))).other W40 (Or.inr (slot_ne (Or.inr (hw _ (List.mem_of_getElem? (i := 54) rfl))) (Or.inr (hw _ (List.mem_of_getElem? (i := 50) rfl))) (by decide) (t := .long) (t' := .int) (by decide) (by decide)))).other W45 (Or.inr (slot_ne (Or.inr (hw _ (List.mem_of_getElem? (i := 54) rfl))) (Or.inr (hw _ (List.mem_of_getElem? (i := 52) rfl))) (by decide) (t := .long) (t' := .int) (by decide) (by decide))))
  have f48 := (f43.wr W45)
  have pre49 : ∀ t, Steps p.tables e below (T45.setTop (mkF m 147 #[.val (.ref a1), .val (.ref a2), .val (.int p3), .val (.double x4), .second, .val (.int (0 : Int32)), .val (.int (0 : Int32)), .val (.int (0 : Int32)), .val (.long q8), .second, .unset, .unset] [(.long q8), (.ref a1)])) t → Steps p.tables e below (s₁.setTop (entryFrame m #[(.ref a1), (.ref a2), (.int p3), (.double x4), (.int (0 : Int32)), (.int (0 : Int32)), (.int (0 : Int32)), (.long q8)] 12)) t := fun t kt => by
    refine pre46 _ ?_
    show Steps p.tables e below (T45.setTop (mkF m 144 #[.val (.ref a1), .val (.ref a2), .val (.int p3), .val (.double x4), .second, .val (.int (0 : Int32)), .val (.int (0 : Int32)), .val (.int (0 : Int32)), .val (.long q8), .second, .unset, .unset] [])) _
    refine XS.aloadN X45.here hx rfl (hb hby d2_144) rfl rfl ?_
    show Steps p.tables e below (T45.setTop (mkF m 145 #[.val (.ref a1), .val (.ref a2), .val (.int p3), .val (.double x4), .second, .val (.int (0 : Int32)), .val (.int (0 : Int32)), .val (.int (0 : Int32)), .val (.long q8), .second, .unset, .unset] [(.ref a1)])) _
    refine XS.lload X45.here hx rfl (hb hby d2_145) rfl ?_
    exact kt
  obtain ⟨T50, h50, X50, e50, W50, st50⟩ := putF X45 hx hZ hown (host := "") (Or.inl (hw _ (List.mem_of_getElem? (i := 53) rfl))) Via.refl e45 f47 f48 (Or.inr ⟨(hw _ (List.mem_of_getElem? (i := 54) rfl)), rfl, hnm⟩) (hw _ (List.mem_of_getElem? (i := 10) rfl)) (ty := .long) (by decide) rfl rfl (g := (mkF m 147 #[.val (.ref a1), .val (.ref a2), .val (.int p3), .val (.double x4), .second, .val (.int (0 : Int32)), .val (.int (0 : Int32)), .val (.int (0 : Int32)), .val (.long q8), .second, .unset, .unset] [(.long q8), (.ref a1)])) rfl rfl (hb hby d2_147)
  have Fw50 := f47.same W50
  have N50 := Fr.snoc X50 N45 g1
  have pre51 : ∀ t, Steps p.tables e below (T50.setTop (mkF m 150 #[.val (.ref a1), .val (.ref a2), .val (.int p3), .val (.double x4), .second, .val (.int (0 : Int32)), .val (.int (0 : Int32)), .val (.int (0 : Int32)), .val (.long q8), .second, .unset, .unset] [])) t → Steps p.tables e below (s₁.setTop (entryFrame m #[(.ref a1), (.ref a2), (.int p3), (.double x4), (.int (0 : Int32)), (.int (0 : Int32)), (.int (0 : Int32)), (.long q8)] 12)) t := fun t kt => pre49 _ (st50 _ kt)
  have k52 : Keep h0 h50 [a1] := (((((((((K0.ext E5).ext E11).wr W20 (Or.inl (List.mem_of_getElem? (i := 0) rfl))).wr W25 (Or.inl (List.mem_of_getElem? (i := 0) rfl))).wr W30 (Or.inl (List.mem_of_getElem? (i := 0) rfl))).wr W35 (Or.inl (List.mem_of_getElem? (i := 0) rfl))).wr W40 (Or.inl (List.mem_of_getElem? (i := 0) rfl))).wr W45 (Or.inl (List.mem_of_getElem? (i := 0) rfl))).wr W50 (Or.inl (List.mem_of_getElem? (i := 0) rfl)))
  have f53 := (f48.wr W50)
  have f54 := (((Fw35.other W40 (Or.inr (slot_ne (Or.inr (hw _ (List.mem_of_getElem? (i := 48) rfl))) (Or.inr (hw _ (List.mem_of_getElem? (i := 50) rfl))) (by decide) (t := .int) (t' := .int) (by decide) (by decide)))).other W45 (Or.inr (slot_ne (Or.inr (hw _ (List.mem_of_getElem? (i := 48) rfl))) (Or.inr (hw _ (List.mem_of_getElem? (i := 52) rfl))) (by decide) (t := .int) (t' := .int) (by decide) (by decide)))).other W50 (Or.inr (slot_ne (Or.inr (hw _ (List.mem_of_getElem? (i := 48) rfl))) (Or.inr (hw _ (List.mem_of_getElem? (i := 54) rfl))) (by decide) (t := .int) (t' := .long) (by decide) (by decide))))
  have hk55 := (Nat.le_trans (Nat.le_trans (Nat.le_trans (Nat.le_trans (Nat.le_trans (Nat.le_trans (Nat.le_trans hk11 (Keep.of_wr W20).1) (Keep.of_wr W25).1) (Keep.of_wr W30).1) (Keep.of_wr W35).1) (Keep.of_wr W40).1) (Keep.of_wr W45).1) (Keep.of_wr W50).1)
  obtain ⟨fs, hr, hrun, hended, -, hW, hI, hsame⟩ := X50.leaveW hS (e50.symm ▸ hk55) (v := none) (fun _ => rfl)
  refine ⟨_, _, pre51 _ ?_, hrun, hended, _, _, rfl, ?_, ⟨_, rfl⟩, hW, hI, hsame.mono (by decide) (by decide)⟩
  · show Steps p.tables e below (T50.setTop (mkF m 150 #[.val (.ref a1), .val (.ref a2), .val (.int p3), .val (.double x4), .second, .val (.int (0 : Int32)), .val (.int (0 : Int32)), .val (.int (0 : Int32)), .val (.long q8), .second, .unset, .unset] [])) _
    exact X50.returnOut hx Bd.returns (hb hby d2_150) hr
  · show Qix Z a1 a2 p3 x4 q8 h0 n0 _ T50.heap _
    rw [e50]
    exact ⟨rfl, N50, k52, f53, f54⟩
theorem ef_in (m : MethodId) (a1 : Addr) (a2 : Addr) (p3 : Int32) (x4 : UInt64) (p5 : Int32) (p6 : Int32) (p7 : Int32) (q8 : Int64) : entryFrame m #[(.ref a1), (.ref a2), (.int p3), (.double x4), (.int p5), (.int p6), (.int p7), (.long q8)] 12 = (mkF m 0 #[.val (.ref a1), .val (.ref a2), .val (.int p3), .val (.double x4), .second, .val (.int p5), .val (.int p6), .val (.int p7), .val (.long q8), .second, .unset, .unset] []) := by first | (simp [entryFrame, mkF, argsToLocals, Value.category]; done) | rfl
theorem d2_58 : decode prog_7_method_1_code 58 = .ok (.ldc 32, 2) := by decide +kernel
theorem d2_60 : decode prog_7_method_1_code 60 = .ok (.iload 6, 2) := by decide +kernel
theorem d2_62 : decode prog_7_method_1_code 62 = .ok (.invokestatic 17, 3) := by decide +kernel
theorem d2_65 : decode prog_7_method_1_code 65 = .ok (.ldc 34, 2) := by decide +kernel
theorem d2_67 : decode prog_7_method_1_code 67 = .ok (.iload 7, 2) := by decide +kernel
theorem d2_69 : decode prog_7_method_1_code 69 = .ok (.invokestatic 17, 3) := by decide +kernel
theorem d2_72 : decode prog_7_method_1_code 72 = .ok (.iload 6, 2) := by decide +kernel
theorem d2_74 : decode prog_7_method_1_code 74 = .ok (.i2l, 1) := by decide +kernel
theorem d2_75 : decode prog_7_method_1_code 75 = .ok (.iload 7, 2) := by decide +kernel
theorem d2_77 : decode prog_7_method_1_code 77 = .ok (.i2l, 1) := by decide +kernel
theorem d2_78 : decode prog_7_method_1_code 78 = .ok (.lmul, 1) := by decide +kernel
theorem d2_79 : decode prog_7_method_1_code 79 = .ok (.lstore 10, 2) := by decide +kernel
theorem d2_81 : decode prog_7_method_1_code 81 = .ok (.lload 10, 2) := by decide +kernel
theorem d2_83 : decode prog_7_method_1_code 83 = .ok (.iload 5, 2) := by decide +kernel
theorem d2_85 : decode prog_7_method_1_code 85 = .ok (.i2l, 1) := by decide +kernel
theorem d2_86 : decode prog_7_method_1_code 86 = .ok (.lcmp, 1) := by decide +kernel
theorem d2_87 : decode prog_7_method_1_code 87 = .ok (.ifCond .le 24, 3) := by decide +kernel
def Qin (Z : State) (a1 : Addr) (a2 : Addr) (p3 : Int32) (x4 : UInt64) (p5 : Int32) (p6 : Int32) (p7 : Int32) (q8 : Int64) (h0 : Heap) (n0 : Nat) (v : Option Value) (h : Heap) (L : List Loc) : Prop := v = none ∧ Fr n0 L ∧ Keep h0 h [a1] ∧ Exa Z h a1 "com/example/libshingle/libshingle/model/DiscoveryOptions" ∧ Fld Z h a1 "com/example/libshingle/libshingle/model/DiscoveryOptions" "signatureLength" "I" (.int p5)
set_option maxRecDepth 65536 in
set_option maxHeartbeats 40000000 in
theorem rmin (l : Launch) (Z : State) (a0 : Array Value) (hw : ∀ d ∈ tables_1, d.before a0 Z = true) (ws : List Jvm.Cond) (a1 : Addr) (a2 : Addr) (p3 : Int32) (x4 : UInt64) (p5 : Int32) (p6 : Int32) (p7 : Int32) (q8 : Int64) (h0 : Heap) (n0 : Nat) (Z0 : n0 ≤ h0.size) (E1 : Exa Z h0 a1 "com/example/libshingle/libshingle/model/DiscoveryOptions") (F0 : Fld Z h0 a1 "com/example/libshingle/libshingle/model/DiscoveryOptions" "shingling" "Lcom/example/libshingle/libshingle/model/Shingling;" .null) (F1 : Fld Z h0 a1 "com/example/libshingle/libshingle/model/DiscoveryOptions" "k" "I" (.int (0 : Int32))) (F2 : Fld Z h0 a1 "com/example/libshingle/libshingle/model/DiscoveryOptions" "threshold" "D" (.double 0)) (F3 : Fld Z h0 a1 "com/example/libshingle/libshingle/model/DiscoveryOptions" "signatureLength" "I" (.int (0 : Int32))) (F4 : Fld Z h0 a1 "com/example/libshingle/libshingle/model/DiscoveryOptions" "bands" "I" (.int (0 : Int32))) (F5 : Fld Z h0 a1 "com/example/libshingle/libshingle/model/DiscoveryOptions" "rows" "I" (.int (0 : Int32))) (F6 : Fld Z h0 a1 "com/example/libshingle/libshingle/model/DiscoveryOptions" "seed" "J" (.long (0 : Int64))) (g1 : n0 ≤ a1) (hp3 : ¬ (p3 < (1 : Int32))) (t0 : cmpValue (FP.dcmp x4 (0 : UInt64)) .l = (1 : Int32)) (t1 : ¬ ((0 : Int32) < cmpValue (FP.dcmp x4 (4607182418800017408 : UInt64)) .g)) (hp5 : ¬ p5 = (0 : Int32)) (hp6 : ¬ (p6 < (1 : Int32))) (hp7 : ¬ (p7 < (1 : Int32))) (hb1 : ¬ ((0 : Int32) < (lcmpW ((p6.toInt64) * (p7.toInt64)) (p5.toInt64)))) :
    MetFree l (⟨"com/example/libshingle/libshingle/model/DiscoveryOptions", "<init>", "(Lcom/example/libshingle/libshingle/model/Shingling;IDIIIJ)V"⟩ : MethodName) (head1 (Jvm.Cond.code (⟨"com/example/libshingle/libshingle/model/DiscoveryOptions", "<init>", "(Lcom/example/libshingle/libshingle/model/Shingling;IDIIIJ)V"⟩ : MethodName) prog_7_method_1_code 12 none :: ws) ({ frames := 2, cells := 8, slots := 92, locals := 24 } : Room)) (fun a U => a = #[(.ref a1), (.ref a2), (.int p3), (.double x4), (.int p5), (.int p6), (.int p7), (.long q8)] ∧ Z.Warmed39 U.vm ∧ U.heap = h0) (fun _ _ _ _ _ => True) (fun _ U o U' => ∃ v L, o = .returned v ∧ Qin Z a1 a2 p3 x4 p5 p6 p7 q8 h0 n0 v U'.heap L ∧ ReturnedEndW U o U' L ({ frames := 2, cells := 8, slots := 92, locals := 24 } : Room).cells ({ frames := 2, cells := 8, slots := 92, locals := 24 } : Room).slots) := by
  refine MetFree.of_bodySF (plainFor_of_name pn_3) hisR ?_
  intro p e s m args below meth c s₁ Bd hml0 hP hK
  obtain ⟨rfl, hZ, hh⟩ := hP
  have hx := Bd.exec
  have hby := Bd.bytes
  have hml : c.maxLocals = 12 := hml0
  have hown : s.vm.findClass "com/example/libshingle/libshingle/model/DiscoveryOptions" = some m.cls := findClass_of_methodNamed Bd.named
  have hnm := (name_of_methodNamed Bd.named Bd.method).1
  have X0 : Stand p l e ({ frames := 2, cells := 8, slots := 92, locals := 24 } : Room) (s.setVm s.vm) m #[(.ref a1), (.ref a2), (.int p3), (.double x4), (.int p5), (.int p6), (.int p7), (.long q8)] below meth c s₁ [] 0 0 := Stand.of_body Bd
  have e0 : s₁.heap = h0 := by rw [← hh, Bd.state]; rfl
  have N0 := Fr.nil n0
  have hS := (State.WarmedH.refl s).since s₁.heap.size
  have hk : s₁.heap.size ≤ h0.size := Nat.le_of_eq (congrArg Array.size e0)
  have wS : ∀ a ∈ Bundle.stringAtoms, a.before a0 Z = true := own_wS hw
  have K0 : Keep h0 h0 [a1] := Keep.refl _ _
  have pre0 : ∀ t, Steps p.tables e below (s₁.setTop (mkF m 0 #[.val (.ref a1), .val (.ref a2), .val (.int p3), .val (.double x4), .second, .val (.int p5), .val (.int p6), .val (.int p7), .val (.long q8), .second, .unset, .unset] [])) t → Steps p.tables e below (s₁.setTop (entryFrame m #[(.ref a1), (.ref a2), (.int p3), (.double x4), (.int p5), (.int p6), (.int p7), (.long q8)] 12)) t := fun t k => castTop (ef_in m a1 a2 p3 x4 p5 p6 p7 q8) k
  have pre1 : ∀ t, Steps p.tables e below (s₁.setTop (mkF m 1 #[.val (.ref a1), .val (.ref a2), .val (.int p3), .val (.double x4), .second, .val (.int p5), .val (.int p6), .val (.int p7), .val (.long q8), .second, .unset, .unset] [(.ref a1)])) t → Steps p.tables e below (s₁.setTop (entryFrame m #[(.ref a1), (.ref a2), (.int p3), (.double x4), (.int p5), (.int p6), (.int p7), (.long q8)] 12)) t := fun t kt => by
    refine pre0 _ ?_
    show Steps p.tables e below (s₁.setTop (mkF m 0 #[.val (.ref a1), .val (.ref a2), .val (.int p3), .val (.double x4), .second, .val (.int p5), .val (.int p6), .val (.int p7), .val (.long q8), .second, .unset, .unset] [])) _
    refine XS.aloadN X0.here hx rfl (hb hby d2_0) rfl rfl ?_
    exact kt
  obtain ⟨_, _, ⟨T2, L2, kc2, nc2⟩, -, X2, ⟨Lc2, hQ2, l2, y2, z2⟩, st2⟩ := X0.specialBack hx (y := (⟨"java/lang/Record", "<init>", "()V"⟩ : MethodName)) rfl hown (mvT hZ (hw _ (List.mem_of_getElem? (i := 15) rfl))) (mvT hZ (hw _ (List.mem_of_getElem? (i := 16) rfl))) (mvT hZ (hw _ (List.mem_of_getElem? (i := 19) rfl))) (by decide) (backOf (W := 0) (rm3 l Z a0 hw [] a1 h0 n0 Z0) hZ (hw _ (List.mem_of_getElem? (i := 19) rfl)) (hw _ (List.mem_of_getElem? (i := 18) rfl)) (by decide) (by decide)) (g := (mkF m 1 #[.val (.ref a1), .val (.ref a2), .val (.int p3), .val (.double x4), .second, .val (.int p5), .val (.int p6), .val (.int p7), .val (.long q8), .second, .unset, .unset] [(.ref a1)])) rfl (by rw [hml]; rfl) (Steps.refl _) (a := a1) (argsL := []) (rest := []) (lenOf pd_0 rfl) rfl (by show 2 * 0 + _ ≤ _; exact Nat.le_of_eq rfl) (hb hby d2_1) (fun _ _ => ⟨rfl, e0, (by decide : 0 + 0 ≤ _), (by decide : 0 + 0 ≤ _)⟩)
  dsimp only [Pt.U, Pt.locs, Pt.cells, Pt.slots] at X2 l2 y2 z2 st2 hQ2
  subst l2 y2 z2
  obtain ⟨rfl, N2q, he2⟩ := hQ2
  have N2 := Fr.app N0 N2q
  have pre3 : ∀ t, Steps p.tables e below (T2.setTop (mkF m 4 #[.val (.ref a1), .val (.ref a2), .val (.int p3), .val (.double x4), .second, .val (.int p5), .val (.int p6), .val (.int p7), .val (.long q8), .second, .unset, .unset] [])) t → Steps p.tables e below (s₁.setTop (entryFrame m #[(.ref a1), (.ref a2), (.int p3), (.double x4), (.int p5), (.int p6), (.int p7), (.long q8)] 12)) t := fun t kt => pre1 _ (st2.trans kt)
  have pre4 : ∀ t, Steps p.tables e below (T2.setTop (mkF m 5 #[.val (.ref a1), .val (.ref a2), .val (.int p3), .val (.double x4), .second, .val (.int p5), .val (.int p6), .val (.int p7), .val (.long q8), .second, .unset, .unset] [(.ref a2)])) t → Steps p.tables e below (s₁.setTop (entryFrame m #[(.ref a1), (.ref a2), (.int p3), (.double x4), (.int p5), (.int p6), (.int p7), (.long q8)] 12)) t := fun t kt => by
    refine pre3 _ ?_
    show Steps p.tables e below (T2.setTop (mkF m 4 #[.val (.ref a1), .val (.ref a2), .val (.int p3), .val (.double x4), .second, .val (.int p5), .val (.int p6), .val (.int p7), .val (.long q8), .second, .unset, .unset] [])) _
    refine XS.aloadN X2.here hx rfl (hb hby d2_4) rfl rfl ?_
    exact kt
  obtain ⟨sa5, T5, h5, k5, X5, e5, E5, hS5, hk5, hZ5, hown5, st5⟩ := ldcS X2 hx hZ hown (hw _ (List.mem_of_getElem? (i := 23) rfl)) wS he2 hS hk (g := (mkF m 5 #[.val (.ref a1), .val (.ref a2), .val (.int p3), .val (.double x4), .second, .val (.int p5), .val (.int p6), .val (.int p7), .val (.long q8), .second, .unset, .unset] [(.ref a2)])) rfl (hb hby d2_5) (n := 36) (by decide) (by decide) (by decide) (by decide)
  have hZ := hZ5
  have hown := hown5
  have hS := hS5
  have pre6 : ∀ t, Steps p.tables e below (T5.setTop (mkF m 7 #[.val (.ref a1), .val (.ref a2), .val (.int p3), .val (.double x4), .second, .val (.int p5), .val (.int p6), .val (.int p7), .val (.long q8), .second, .unset, .unset] [(.ref sa5), (.ref a2)])) t → Steps p.tables e below (s₁.setTop (entryFrame m #[(.ref a1), (.ref a2), (.int p3), (.double x4), (.int p5), (.int p6), (.int p7), (.long q8)] 12)) t := fun t kt => pre4 _ (st5 _ kt)
  have z7 : n0 ≤ h5.size := (Nat.le_trans Z0 E5.1)
  obtain ⟨_, _, ⟨T8, L8, kc8, nc8⟩, -, X8, ⟨Lc8, hQ8, l8, y8, z8⟩, st8⟩ := Jvm.LawKit.callS X5 hx (y := (⟨"java/util/Objects", "requireNonNull", "(Ljava/lang/Object;Ljava/lang/String;)Ljava/lang/Object;"⟩ : MethodName)) hown (mvT hZ (hw _ (List.mem_of_getElem? (i := 31) rfl))) (mvT hZ (hw _ (List.mem_of_getElem? (i := 32) rfl))) (mvT hZ (hw _ (List.mem_of_getElem? (i := 33) rfl))) (mvT hZ (hw _ (List.mem_of_getElem? (i := 34) rfl))) (by decide) (backOf (W := 0) (rm5 l Z a0 hw [] a2 sa5 h5 n0 z7) hZ (hw _ (List.mem_of_getElem? (i := 34) rfl)) (hw _ (List.mem_of_getElem? (i := 33) rfl)) (by decide) (by decide)) (g := (mkF m 7 #[.val (.ref a1), .val (.ref a2), .val (.int p3), .val (.double x4), .second, .val (.int p5), .val (.int p6), .val (.int p7), .val (.long q8), .second, .unset, .unset] [(.ref sa5), (.ref a2)])) rfl (by rw [hml]; rfl) (argsL := [(.ref a2), (.ref sa5)]) (rest := []) (lenOf pd_1 rfl) rfl (by show 2 * 0 + _ ≤ _; exact Nat.le_of_eq rfl) (hb hby d2_7) (fun _ _ => ⟨rfl, e5, (by decide : 2 + 0 ≤ _), (by decide : 40 + 0 ≤ _)⟩)
  dsimp only [Pt.U, Pt.locs, Pt.cells, Pt.slots] at X8 l8 y8 z8 st8 hQ8
  subst l8 y8 z8
  obtain ⟨rfl, N8q, he8⟩ := hQ8
  have N8 := Fr.app N2 N8q
  have pre9 : ∀ t, Steps p.tables e below (T8.setTop (mkF m 10 #[.val (.ref a1), .val (.ref a2), .val (.int p3), .val (.double x4), .second, .val (.int p5), .val (.int p6), .val (.int p7), .val (.long q8), .second, .unset, .unset] [(.ref a2)])) t → Steps p.tables e below (s₁.setTop (entryFrame m #[(.ref a1), (.ref a2), (.int p3), (.double x4), (.int p5), (.int p6), (.int p7), (.long q8)] 12)) t := fun t kt => pre6 _ (st8 _ kt)
  have pre10 : ∀ t, Steps p.tables e below (T8.setTop (mkF m 11 #[.val (.ref a1), .val (.ref a2), .val (.int p3), .val (.double x4), .second, .val (.int p5), .val (.int p6), .val (.int p7), .val (.long q8), .second, .unset, .unset] [])) t → Steps p.tables e below (s₁.setTop (entryFrame m #[(.ref a1), (.ref a2), (.int p3), (.double x4), (.int p5), (.int p6), (.int p7), (.long q8)] 12)) t := fun t kt => by
    refine pre9 _ ?_
    show Steps p.tables e below (T8.setTop (mkF m 10 #[.val (.ref a1), .val (.ref a2), .val (.int p3), .val (.double x4), .second, .val (.int p5), .val (.int p6), .val (.int p7), .val (.long q8), .second, .unset, .unset] [(.ref a2)])) _
    refine XS.pop X8.here hx rfl (hb hby d2_10) rfl rfl ?_
    exact kt
  obtain ⟨sa11, T11, h11, k11, X11, e11, E11, hS11, hk11, hZ11, hown11, st11⟩ := ldcS X8 hx hZ hown (hw _ (List.mem_of_getElem? (i := 35) rfl)) wS he8 hS hk5 (g := (mkF m 11 #[.val (.ref a1), .val (.ref a2), .val (.int p3), .val (.double x4), .second, .val (.int p5), .val (.int p6), .val (.int p7), .val (.long q8), .second, .unset, .unset] [])) rfl (hb hby d2_11) (n := 4) (by decide) (by decide) (by decide) (by decide)
  have hZ := hZ11
  have hown := hown11
  have hS := hS11
  have pre12 : ∀ t, Steps p.tables e below (T11.setTop (mkF m 13 #[.val (.ref a1), .val (.ref a2), .val (.int p3), .val (.double x4), .second, .val (.int p5), .val (.int p6), .val (.int p7), .val (.long q8), .second, .unset, .unset] [(.ref sa11)])) t → Steps p.tables e below (s₁.setTop (entryFrame m #[(.ref a1), (.ref a2), (.int p3), (.double x4), (.int p5), (.int p6), (.int p7), (.long q8)] 12)) t := fun t kt => pre10 _ (st11 _ kt)
  have z13 : n0 ≤ h11.size := (Nat.le_trans z7 E11.1)
  have pre14 : ∀ t, Steps p.tables e below (T11.setTop (mkF m 14 #[.val (.ref a1), .val (.ref a2), .val (.int p3), .val (.double x4), .second, .val (.int p5), .val (.int p6), .val (.int p7), .val (.long q8), .second, .unset, .unset] [(.int p3), (.ref sa11)])) t → Steps p.tables e below (s₁.setTop (entryFrame m #[(.ref a1), (.ref a2), (.int p3), (.double x4), (.int p5), (.int p6), (.int p7), (.long q8)] 12)) t := fun t kt => by
    refine pre12 _ ?_
    show Steps p.tables e below (T11.setTop (mkF m 13 #[.val (.ref a1), .val (.ref a2), .val (.int p3), .val (.double x4), .second, .val (.int p5), .val (.int p6), .val (.int p7), .val (.long q8), .second, .unset, .unset] [(.ref sa11)])) _
    refine XS.iloadN X11.here hx rfl (hb hby d2_13) rfl ?_
    exact kt
  obtain ⟨_, _, ⟨T15, L15, kc15, nc15⟩, -, X15, ⟨Lc15, hQ15, l15, y15, z15⟩, st15⟩ := Jvm.LawKit.callS X11 hx (y := (⟨"com/example/libshingle/libshingle/model/DiscoveryOptions", "atLeastOne", "(Ljava/lang/String;I)V"⟩ : MethodName)) hown (mvT hZ (hw _ (List.mem_of_getElem? (i := 36) rfl))) (mvT hZ (hw _ (List.mem_of_getElem? (i := 37) rfl))) (mvT hZ (hw _ (List.mem_of_getElem? (i := 11) rfl))) (mvT hZ (hw _ (List.mem_of_getElem? (i := 38) rfl))) (by decide) (backOf (W := 0) (rm6 l Z a0 hw [] sa11 p3 h11 n0 z13 hp3) hZ (hw _ (List.mem_of_getElem? (i := 38) rfl)) (hw _ (List.mem_of_getElem? (i := 11) rfl)) (by decide) (by decide)) (g := (mkF m 14 #[.val (.ref a1), .val (.ref a2), .val (.int p3), .val (.double x4), .second, .val (.int p5), .val (.int p6), .val (.int p7), .val (.long q8), .second, .unset, .unset] [(.int p3), (.ref sa11)])) rfl (by rw [hml]; rfl) (argsL := [(.ref sa11), (.int p3)]) (rest := []) (lenOf pd_2 rfl) rfl (by show 2 * 0 + _ ≤ _; exact Nat.le_of_eq rfl) (hb hby d2_14) (fun _ _ => ⟨rfl, e11, (by decide : 4 + 0 ≤ _), (by decide : 48 + 0 ≤ _)⟩)
  dsimp only [Pt.U, Pt.locs, Pt.cells, Pt.slots] at X15 l15 y15 z15 st15 hQ15
  subst l15 y15 z15
  obtain ⟨rfl, N15q, he15⟩ := hQ15
  have N15 := Fr.app N8 N15q
  have pre16 : ∀ t, Steps p.tables e below (T15.setTop (mkF m 17 #[.val (.ref a1), .val (.ref a2), .val (.int p3), .val (.double x4), .second, .val (.int p5), .val (.int p6), .val (.int p7), .val (.long q8), .second, .unset, .unset] [])) t → Steps p.tables e below (s₁.setTop (entryFrame m #[(.ref a1), (.ref a2), (.int p3), (.double x4), (.int p5), (.int p6), (.int p7), (.long q8)] 12)) t := fun t kt => pre14 _ (st15 _ kt)
  have pre17 : ∀ t, Steps p.tables e below (T15.setTop (mkF m 58 #[.val (.ref a1), .val (.ref a2), .val (.int p3), .val (.double x4), .second, .val (.int p5), .val (.int p6), .val (.int p7), .val (.long q8), .second, .unset, .unset] [])) t → Steps p.tables e below (s₁.setTop (entryFrame m #[(.ref a1), (.ref a2), (.int p3), (.double x4), (.int p5), (.int p6), (.int p7), (.long q8)] 12)) t := fun t kt => by
    refine pre16 _ ?_
    show Steps p.tables e below (T15.setTop (mkF m 17 #[.val (.ref a1), .val (.ref a2), .val (.int p3), .val (.double x4), .second, .val (.int p5), .val (.int p6), .val (.int p7), .val (.long q8), .second, .unset, .unset] [])) _
    refine XS.dloadN X15.here hx rfl (hb hby d2_17) rfl ?_
    show Steps p.tables e below (T15.setTop (mkF m 18 #[.val (.ref a1), .val (.ref a2), .val (.int p3), .val (.double x4), .second, .val (.int p5), .val (.int p6), .val (.int p7), .val (.long q8), .second, .unset, .unset] [(.double x4)])) _
    refine XS.dconst0 X15.here hx rfl (hb hby d2_18) rfl ?_
    show Steps p.tables e below (T15.setTop (mkF m 19 #[.val (.ref a1), .val (.ref a2), .val (.int p3), .val (.double x4), .second, .val (.int p5), .val (.int p6), .val (.int p7), .val (.long q8), .second, .unset, .unset] [(.double (0 : UInt64)), (.double x4)])) _
    refine XS.dcmpS X15.here hx rfl (hb hby d2_19) rfl t0 ?_
    show Steps p.tables e below (T15.setTop (mkF m 20 #[.val (.ref a1), .val (.ref a2), .val (.int p3), .val (.double x4), .second, .val (.int p5), .val (.int p6), .val (.int p7), .val (.long q8), .second, .unset, .unset] [(.int (1 : Int32))])) _
    refine XS.ifNo X15.here hx rfl (hb hby d2_20) rfl ((if0 _ _).trans (tlt (by decide : (0 : Int32) < (1 : Int32))).2.2.2) ?_
    show Steps p.tables e below (T15.setTop (mkF m 23 #[.val (.ref a1), .val (.ref a2), .val (.int p3), .val (.double x4), .second, .val (.int p5), .val (.int p6), .val (.int p7), .val (.long q8), .second, .unset, .unset] [])) _
    refine XS.dloadN X15.here hx rfl (hb hby d2_23) rfl ?_
    show Steps p.tables e below (T15.setTop (mkF m 24 #[.val (.ref a1), .val (.ref a2), .val (.int p3), .val (.double x4), .second, .val (.int p5), .val (.int p6), .val (.int p7), .val (.long q8), .second, .unset, .unset] [(.double x4)])) _
    refine XS.dconst1 X15.here hx rfl (hb hby d2_24) rfl ?_
    show Steps p.tables e below (T15.setTop (mkF m 25 #[.val (.ref a1), .val (.ref a2), .val (.int p3), .val (.double x4), .second, .val (.int p5), .val (.int p6), .val (.int p7), .val (.long q8), .second, .unset, .unset] [(.double (4607182418800017408 : UInt64)), (.double x4)])) _
    refine XS.dcmpS X15.here hx rfl (hb hby d2_25) rfl rfl ?_
    show Steps p.tables e below (T15.setTop (mkF m 26 #[.val (.ref a1), .val (.ref a2), .val (.int p3), .val (.double x4), .second, .val (.int p5), .val (.int p6), .val (.int p7), .val (.long q8), .second, .unset, .unset] [(.int (cmpValue (FP.dcmp x4 (4607182418800017408 : UInt64)) .g))])) _
    refine XS.ifYes X15.here hx rfl (pc0 := 26) (pc' := 43) rfl (hb hby d2_26) rfl ((if0 _ _).trans (flt (t1 : ¬ ((0 : Int32) < (cmpValue (FP.dcmp x4 (4607182418800017408 : UInt64)) .g)))).2.2.2) (by decide) (by decide) ?_
    show Steps p.tables e below (T15.setTop (mkF m 43 #[.val (.ref a1), .val (.ref a2), .val (.int p3), .val (.double x4), .second, .val (.int p5), .val (.int p6), .val (.int p7), .val (.long q8), .second, .unset, .unset] [])) _
    refine XS.iload X15.here hx rfl (hb hby d2_43) rfl ?_
    show Steps p.tables e below (T15.setTop (mkF m 45 #[.val (.ref a1), .val (.ref a2), .val (.int p3), .val (.double x4), .second, .val (.int p5), .val (.int p6), .val (.int p7), .val (.long q8), .second, .unset, .unset] [(.int p5)])) _
    refine XS.ifYes X15.here hx rfl (pc0 := 45) (pc' := 58) rfl (hb hby d2_45) rfl ((if0 _ _).trans (feq (hp5 : ¬ (p5 = (0 : Int32)))).2) (by decide) (by decide) ?_
    exact kt
  obtain ⟨sa18, T18, h18, k18, X18, e18, E18, hS18, hk18, hZ18, hown18, st18⟩ := ldcS X15 hx hZ hown (hw _ (List.mem_of_getElem? (i := 39) rfl)) wS he15 hS hk11 (g := (mkF m 58 #[.val (.ref a1), .val (.ref a2), .val (.int p3), .val (.double x4), .second, .val (.int p5), .val (.int p6), .val (.int p7), .val (.long q8), .second, .unset, .unset] [])) rfl (hb hby d2_58) (n := 20) (by decide) (by decide) (by decide) (by decide)
  have hZ := hZ18
  have hown := hown18
  have hS := hS18
  have pre19 : ∀ t, Steps p.tables e below (T18.setTop (mkF m 60 #[.val (.ref a1), .val (.ref a2), .val (.int p3), .val (.double x4), .second, .val (.int p5), .val (.int p6), .val (.int p7), .val (.long q8), .second, .unset, .unset] [(.ref sa18)])) t → Steps p.tables e below (s₁.setTop (entryFrame m #[(.ref a1), (.ref a2), (.int p3), (.double x4), (.int p5), (.int p6), (.int p7), (.long q8)] 12)) t := fun t kt => pre17 _ (st18 _ kt)
  have z20 : n0 ≤ h18.size := (Nat.le_trans z13 E18.1)
  have pre21 : ∀ t, Steps p.tables e below (T18.setTop (mkF m 62 #[.val (.ref a1), .val (.ref a2), .val (.int p3), .val (.double x4), .second, .val (.int p5), .val (.int p6), .val (.int p7), .val (.long q8), .second, .unset, .unset] [(.int p6), (.ref sa18)])) t → Steps p.tables e below (s₁.setTop (entryFrame m #[(.ref a1), (.ref a2), (.int p3), (.double x4), (.int p5), (.int p6), (.int p7), (.long q8)] 12)) t := fun t kt => by
    refine pre19 _ ?_
    show Steps p.tables e below (T18.setTop (mkF m 60 #[.val (.ref a1), .val (.ref a2), .val (.int p3), .val (.double x4), .second, .val (.int p5), .val (.int p6), .val (.int p7), .val (.long q8), .second, .unset, .unset] [(.ref sa18)])) _
    refine XS.iload X18.here hx rfl (hb hby d2_60) rfl ?_
    exact kt
  obtain ⟨_, _, ⟨T22, L22, kc22, nc22⟩, -, X22, ⟨Lc22, hQ22, l22, y22, z22⟩, st22⟩ := Jvm.LawKit.callS X18 hx (y := (⟨"com/example/libshingle/libshingle/model/DiscoveryOptions", "atLeastOne", "(Ljava/lang/String;I)V"⟩ : MethodName)) hown (mvT hZ (hw _ (List.mem_of_getElem? (i := 36) rfl))) (mvT hZ (hw _ (List.mem_of_getElem? (i := 37) rfl))) (mvT hZ (hw _ (List.mem_of_getElem? (i := 11) rfl))) (mvT hZ (hw _ (List.mem_of_getElem? (i := 38) rfl))) (by decide) (backOf (W := 0) (rm6 l Z a0 hw [] sa18 p6 h18 n0 z20 hp6) hZ (hw _ (List.mem_of_getElem? (i := 38) rfl)) (hw _ (List.mem_of_getElem? (i := 11) rfl)) (by decide) (by decide)) (g := (mkF m 62 #[.val (.ref a1), .val (.ref a2), .val (.int p3), .val (.double x4), .second, .val (.int p5), .val (.int p6), .val (.int p7), .val (.long q8), .second, .unset, .unset] [(.int p6), (.ref sa18)])) rfl (by rw [hml]; rfl) (argsL := [(.ref sa18), (.int p6)]) (rest := []) (lenOf pd_2 rfl) rfl (by show 2 * 0 + _ ≤ _; exact Nat.le_of_eq rfl) (hb hby d2_62) (fun _ _ => ⟨rfl, e18, (by decide : 6 + 0 ≤ _), (by decide : 72 + 0 ≤ _)⟩)
  dsimp only [Pt.U, Pt.locs, Pt.cells, Pt.slots] at X22 l22 y22 z22 st22 hQ22
  subst l22 y22 z22
  obtain ⟨rfl, N22q, he22⟩ := hQ22
  have N22 := Fr.app N15 N22q
  have pre23 : ∀ t, Steps p.tables e below (T22.setTop (mkF m 65 #[.val (.ref a1), .val (.ref a2), .val (.int p3), .val (.double x4), .second, .val (.int p5), .val (.int p6), .val (.int p7), .val (.long q8), .second, .unset, .unset] [])) t → Steps p.tables e below (s₁.setTop (entryFrame m #[(.ref a1), (.ref a2), (.int p3), (.double x4), (.int p5), (.int p6), (.int p7), (.long q8)] 12)) t := fun t kt => pre21 _ (st22 _ kt)
  obtain ⟨sa24, T24, h24, k24, X24, e24, E24, hS24, hk24, hZ24, hown24, st24⟩ := ldcS X22 hx hZ hown (hw _ (List.mem_of_getElem? (i := 40) rfl)) wS he22 hS hk18 (g := (mkF m 65 #[.val (.ref a1), .val (.ref a2), .val (.int p3), .val (.double x4), .second, .val (.int p5), .val (.int p6), .val (.int p7), .val (.long q8), .second, .unset, .unset] [])) rfl (hb hby d2_65) (n := 16) (by decide) (by decide) (by decide) (by decide)
  have hZ := hZ24
  have hown := hown24
  have hS := hS24
  have pre25 : ∀ t, Steps p.tables e below (T24.setTop (mkF m 67 #[.val (.ref a1), .val (.ref a2), .val (.int p3), .val (.double x4), .second, .val (.int p5), .val (.int p6), .val (.int p7), .val (.long q8), .second, .unset, .unset] [(.ref sa24)])) t → Steps p.tables e below (s₁.setTop (entryFrame m #[(.ref a1), (.ref a2), (.int p3), (.double x4), (.int p5), (.int p6), (.int p7), (.long q8)] 12)) t := fun t kt => pre23 _ (st24 _ kt)
  have z26 : n0 ≤ h24.size := (Nat.le_trans z20 E24.1)
  have pre27 : ∀ t, Steps p.tables e below (T24.setTop (mkF m 69 #[.val (.ref a1), .val (.ref a2), .val (.int p3), .val (.double x4), .second, .val (.int p5), .val (.int p6), .val (.int p7), .val (.long q8), .second, .unset, .unset] [(.int p7), (.ref sa24)])) t → Steps p.tables e below (s₁.setTop (entryFrame m #[(.ref a1), (.ref a2), (.int p3), (.double x4), (.int p5), (.int p6), (.int p7), (.long q8)] 12)) t := fun t kt => by
    refine pre25 _ ?_
    show Steps p.tables e below (T24.setTop (mkF m 67 #[.val (.ref a1), .val (.ref a2), .val (.int p3), .val (.double x4), .second, .val (.int p5), .val (.int p6), .val (.int p7), .val (.long q8), .second, .unset, .unset] [(.ref sa24)])) _
    refine XS.iload X24.here hx rfl (hb hby d2_67) rfl ?_
    exact kt
  obtain ⟨_, _, ⟨T28, L28, kc28, nc28⟩, -, X28, ⟨Lc28, hQ28, l28, y28, z28⟩, st28⟩ := Jvm.LawKit.callS X24 hx (y := (⟨"com/example/libshingle/libshingle/model/DiscoveryOptions", "atLeastOne", "(Ljava/lang/String;I)V"⟩ : MethodName)) hown (mvT hZ (hw _ (List.mem_of_getElem? (i := 36) rfl))) (mvT hZ (hw _ (List.mem_of_getElem? (i := 37) rfl))) (mvT hZ (hw _ (List.mem_of_getElem? (i := 11) rfl))) (mvT hZ (hw _ (List.mem_of_getElem? (i := 38) rfl))) (by decide) (backOf (W := 0) (rm6 l Z a0 hw [] sa24 p7 h24 n0 z26 hp7) hZ (hw _ (List.mem_of_getElem? (i := 38) rfl)) (hw _ (List.mem_of_getElem? (i := 11) rfl)) (by decide) (by decide)) (g := (mkF m 69 #[.val (.ref a1), .val (.ref a2), .val (.int p3), .val (.double x4), .second, .val (.int p5), .val (.int p6), .val (.int p7), .val (.long q8), .second, .unset, .unset] [(.int p7), (.ref sa24)])) rfl (by rw [hml]; rfl) (argsL := [(.ref sa24), (.int p7)]) (rest := []) (lenOf pd_2 rfl) rfl (by show 2 * 0 + _ ≤ _; exact Nat.le_of_eq rfl) (hb hby d2_69) (fun _ _ => ⟨rfl, e24, (by decide : 8 + 0 ≤ _), (by decide : 92 + 0 ≤ _)⟩)
  dsimp only [Pt.U, Pt.locs, Pt.cells, Pt.slots] at X28 l28 y28 z28 st28 hQ28
  subst l28 y28 z28
  obtain ⟨rfl, N28q, he28⟩ := hQ28
  have N28 := Fr.app N22 N28q
  have pre29 : ∀ t, Steps p.tables e below (T28.setTop (mkF m 72 #[.val (.ref a1), .val (.ref a2), .val (.int p3), .val (.double x4), .second, .val (.int p5), .val (.int p6), .val (.int p7), .val (.long q8), .second, .unset, .unset] [])) t → Steps p.tables e below (s₁.setTop (entryFrame m #[(.ref a1), (.ref a2), (.int p3), (.double x4), (.int p5), (.int p6), (.int p7), (.long q8)] 12)) t := fun t kt => pre27 _ (st28 _ kt)
  have f30 := ((((F0.ext E5).ext E11).ext E18).ext E24)
  have f31 := ((((E1.ext E5).ext E11).ext E18).ext E24)
  have pre32 : ∀ t, Steps p.tables e below (T28.setTop (mkF m 113 #[.val (.ref a1), .val (.ref a2), .val (.int p3), .val (.double x4), .second, .val (.int p5), .val (.int p6), .val (.int p7), .val (.long q8), .second, .val (.long ((p6.toInt64) * (p7.toInt64))), .second] [(.ref a2), (.ref a1)])) t → Steps p.tables e below (s₁.setTop (entryFrame m #[(.ref a1), (.ref a2), (.int p3), (.double x4), (.int p5), (.int p6), (.int p7), (.long q8)] 12)) t := fun t kt => by
    refine pre29 _ ?_
    show Steps p.tables e below (T28.setTop (mkF m 72 #[.val (.ref a1), .val (.ref a2), .val (.int p3), .val (.double x4), .second, .val (.int p5), .val (.int p6), .val (.int p7), .val (.long q8), .second, .unset, .unset] [])) _
    refine XS.iload X28.here hx rfl (hb hby d2_72) rfl ?_
    show Steps p.tables e below (T28.setTop (mkF m 74 #[.val (.ref a1), .val (.ref a2), .val (.int p3), .val (.double x4), .second, .val (.int p5), .val (.int p6), .val (.int p7), .val (.long q8), .second, .unset, .unset] [(.int p6)])) _
    refine XS.i2l X28.here hx rfl (hb hby d2_74) rfl ?_
    show Steps p.tables e below (T28.setTop (mkF m 75 #[.val (.ref a1), .val (.ref a2), .val (.int p3), .val (.double x4), .second, .val (.int p5), .val (.int p6), .val (.int p7), .val (.long q8), .second, .unset, .unset] [(.long (p6.toInt64))])) _
    refine XS.iload X28.here hx rfl (hb hby d2_75) rfl ?_
    show Steps p.tables e below (T28.setTop (mkF m 77 #[.val (.ref a1), .val (.ref a2), .val (.int p3), .val (.double x4), .second, .val (.int p5), .val (.int p6), .val (.int p7), .val (.long q8), .second, .unset, .unset] [(.int p7), (.long (p6.toInt64))])) _
    refine XS.i2l X28.here hx rfl (hb hby d2_77) rfl ?_
    show Steps p.tables e below (T28.setTop (mkF m 78 #[.val (.ref a1), .val (.ref a2), .val (.int p3), .val (.double x4), .second, .val (.int p5), .val (.int p6), .val (.int p7), .val (.long q8), .second, .unset, .unset] [(.long (p7.toInt64)), (.long (p6.toInt64))])) _
    refine XS.lmul X28.here hx rfl (hb hby d2_78) rfl ?_
    show Steps p.tables e below (T28.setTop (mkF m 79 #[.val (.ref a1), .val (.ref a2), .val (.int p3), .val (.double x4), .second, .val (.int p5), .val (.int p6), .val (.int p7), .val (.long q8), .second, .unset, .unset] [(.long ((p6.toInt64) * (p7.toInt64)))])) _
    refine XS.lstore X28.here hx rfl (hb hby d2_79) rfl (l' := #[.val (.ref a1), .val (.ref a2), .val (.int p3), .val (.double x4), .second, .val (.int p5), .val (.int p6), .val (.int p7), .val (.long q8), .second, .val (.long ((p6.toInt64) * (p7.toInt64))), .second]) rfl ?_
    show Steps p.tables e below (T28.setTop (mkF m 81 #[.val (.ref a1), .val (.ref a2), .val (.int p3), .val (.double x4), .second, .val (.int p5), .val (.int p6), .val (.int p7), .val (.long q8), .second, .val (.long ((p6.toInt64) * (p7.toInt64))), .second] [])) _
    refine XS.lload X28.here hx rfl (hb hby d2_81) rfl ?_
    show Steps p.tables e below (T28.setTop (mkF m 83 #[.val (.ref a1), .val (.ref a2), .val (.int p3), .val (.double x4), .second, .val (.int p5), .val (.int p6), .val (.int p7), .val (.long q8), .second, .val (.long ((p6.toInt64) * (p7.toInt64))), .second] [(.long ((p6.toInt64) * (p7.toInt64)))])) _
    refine XS.iload X28.here hx rfl (hb hby d2_83) rfl ?_
    show Steps p.tables e below (T28.setTop (mkF m 85 #[.val (.ref a1), .val (.ref a2), .val (.int p3), .val (.double x4), .second, .val (.int p5), .val (.int p6), .val (.int p7), .val (.long q8), .second, .val (.long ((p6.toInt64) * (p7.toInt64))), .second] [(.int p5), (.long ((p6.toInt64) * (p7.toInt64)))])) _
    refine XS.i2l X28.here hx rfl (hb hby d2_85) rfl ?_
    show Steps p.tables e below (T28.setTop (mkF m 86 #[.val (.ref a1), .val (.ref a2), .val (.int p3), .val (.double x4), .second, .val (.int p5), .val (.int p6), .val (.int p7), .val (.long q8), .second, .val (.long ((p6.toInt64) * (p7.toInt64))), .second] [(.long (p5.toInt64)), (.long ((p6.toInt64) * (p7.toInt64)))])) _
    refine XS.lcmp X28.here hx rfl (hb hby d2_86) rfl ?_
    show Steps p.tables e below (T28.setTop (mkF m 87 #[.val (.ref a1), .val (.ref a2), .val (.int p3), .val (.double x4), .second, .val (.int p5), .val (.int p6), .val (.int p7), .val (.long q8), .second, .val (.long ((p6.toInt64) * (p7.toInt64))), .second] [(.int (lcmpW ((p6.toInt64) * (p7.toInt64)) (p5.toInt64)))])) _
    refine XS.ifYes X28.here hx rfl (pc0 := 87) (pc' := 111) rfl (hb hby d2_87) rfl ((if0 _ _).trans (flt (hb1 : ¬ ((0 : Int32) < (lcmpW ((p6.toInt64) * (p7.toInt64)) (p5.toInt64))))).2.2.2) (by decide) (by decide) ?_
    show Steps p.tables e below (T28.setTop (mkF m 111 #[.val (.ref a1), .val (.ref a2), .val (.int p3), .val (.double x4), .second, .val (.int p5), .val (.int p6), .val (.int p7), .val (.long q8), .second, .val (.long ((p6.toInt64) * (p7.toInt64))), .second] [])) _
    refine XS.aloadN X28.here hx rfl (hb hby d2_111) rfl rfl ?_
    show Steps p.tables e below (T28.setTop (mkF m 112 #[.val (.ref a1), .val (.ref a2), .val (.int p3), .val (.double x4), .second, .val (.int p5), .val (.int p6), .val (.int p7), .val (.long q8), .second, .val (.long ((p6.toInt64) * (p7.toInt64))), .second] [(.ref a1)])) _
    refine XS.aloadN X28.here hx rfl (hb hby d2_112) rfl rfl ?_
    exact kt
  obtain ⟨T33, h33, X33, e33, W33, st33⟩ := putF X28 hx hZ hown (host := "") (Or.inl (hw _ (List.mem_of_getElem? (i := 41) rfl))) Via.refl he28 f30 f31 (Or.inr ⟨(hw _ (List.mem_of_getElem? (i := 42) rfl)), rfl, hnm⟩) (hw _ (List.mem_of_getElem? (i := 10) rfl)) (ty := (.object "com/example/libshingle/libshingle/model/Shingling")) (by decide) rfl rfl (g := (mkF m 113 #[.val (.ref a1), .val (.ref a2), .val (.int p3), .val (.double x4), .second, .val (.int p5), .val (.int p6), .val (.int p7), .val (.long q8), .second, .val (.long ((p6.toInt64) * (p7.toInt64))), .second] [(.ref a2), (.ref a1)])) rfl rfl (hb hby d2_113)
  have Fw33 := f30.same W33
  have N33 := Fr.snoc X33 N28 g1
  have pre34 : ∀ t, Steps p.tables e below (T33.setTop (mkF m 116 #[.val (.ref a1), .val (.ref a2), .val (.int p3), .val (.double x4), .second, .val (.int p5), .val (.int p6), .val (.int p7), .val (.long q8), .second, .val (.long ((p6.toInt64) * (p7.toInt64))), .second] [])) t → Steps p.tables e below (s₁.setTop (entryFrame m #[(.ref a1), (.ref a2), (.int p3), (.double x4), (.int p5), (.int p6), (.int p7), (.long q8)] 12)) t := fun t kt => pre32 _ (st33 _ kt)
  have f35 := (((((F1.ext E5).ext E11).ext E18).ext E24).other W33 (Or.inr (slot_ne (Or.inr (hw _ (List.mem_of_getElem? (i := 44) rfl))) (Or.inr (hw _ (List.mem_of_getElem? (i := 42) rfl))) (by decide) (t := .int) (t' := (.object "com/example/libshingle/libshingle/model/Shingling")) (by decide) (by decide))))
  have f36 := (f31.wr W33)
  have pre37 : ∀ t, Steps p.tables e below (T33.setTop (mkF m 118 #[.val (.ref a1), .val (.ref a2), .val (.int p3), .val (.double x4), .second, .val (.int p5), .val (.int p6), .val (.int p7), .val (.long q8), .second, .val (.long ((p6.toInt64) * (p7.toInt64))), .second] [(.int p3), (.ref a1)])) t → Steps p.tables e below (s₁.setTop (entryFrame m #[(.ref a1), (.ref a2), (.int p3), (.double x4), (.int p5), (.int p6), (.int p7), (.long q8)] 12)) t := fun t kt => by
    refine pre34 _ ?_
    show Steps p.tables e below (T33.setTop (mkF m 116 #[.val (.ref a1), .val (.ref a2), .val (.int p3), .val (.double x4), .second, .val (.int p5), .val (.int p6), .val (.int p7), .val (.long q8), .second, .val (.long ((p6.toInt64) * (p7.toInt64))), .second] [])) _
    refine XS.aloadN X33.here hx rfl (hb hby d2_116) rfl rfl ?_
    show Steps p.tables e below (T33.setTop (mkF m 117 #[.val (.ref a1), .val (.ref a2), .val (.int p3), .val (.double x4), .second, .val (.int p5), .val (.int p6), .val (.int p7), .val (.long q8), .second, .val (.long ((p6.toInt64) * (p7.toInt64))), .second] [(.ref a1)])) _
    refine XS.iloadN X33.here hx rfl (hb hby d2_117) rfl ?_
    exact kt
  obtain ⟨T38, h38, X38, e38, W38, st38⟩ := putF X33 hx hZ hown (host := "") (Or.inl (hw _ (List.mem_of_getElem? (i := 43) rfl))) Via.refl e33 f35 f36 (Or.inr ⟨(hw _ (List.mem_of_getElem? (i := 44) rfl)), rfl, hnm⟩) (hw _ (List.mem_of_getElem? (i := 10) rfl)) (ty := .int) (by decide) rfl rfl (g := (mkF m 118 #[.val (.ref a1), .val (.ref a2), .val (.int p3), .val (.double x4), .second, .val (.int p5), .val (.int p6), .val (.int p7), .val (.long q8), .second, .val (.long ((p6.toInt64) * (p7.toInt64))), .second] [(.int p3), (.ref a1)])) rfl rfl (hb hby d2_118)
  have Fw38 := f35.same W38
  have N38 := Fr.snoc X38 N33 g1
  have pre39 : ∀ t, Steps p.tables e below (T38.setTop (mkF m 121 #[.val (.ref a1), .val (.ref a2), .val (.int p3), .val (.double x4), .second, .val (.int p5), .val (.int p6), .val (.int p7), .val (.long q8), .second, .val (.long ((p6.toInt64) * (p7.toInt64))), .second] [])) t → Steps p.tables e below (s₁.setTop (entryFrame m #[(.ref a1), (.ref a2), (.int p3), (.double x4), (.int p5), (.int p6), (.int p7), (.long q8)] 12)) t := fun t kt => pre37 _ (st38 _ kt)
  have f40 := ((((((F2.ext E5).ext E11).ext E18).ext E24).other W33 (Or.inr (slot_ne (Or.inr (hw _ (List.mem_of_getElem? (i := 46) rfl))) (Or.inr (hw _ (List.mem_of_getElem? (i := 42) rfl))) (by decide) (t := .double) (t' := (.object "com/example/libshingle/libshingle/model/Shingling")) (by decide) (by decide)))).other W38 (Or.inr (slot_ne (Or.inr (hw _ (List.mem_of_getElem? (i := 46) rfl))) (Or.inr (hw _ (List.mem_of_getElem? (i := 44) rfl))) (by decide) (t := .double) (t' := .int) (by decide) (by decide))))
  have f41 := (f36.wr W38)
  have pre42 : ∀ t, Steps p.tables e below (T38.setTop (mkF m 123 #[.val (.ref a1), .val (.ref a2), .val (.int p3), .val (.double x4), .second, .val (.int p5), .val (.int p6), .val (.int p7), .val (.long q8), .second, .val (.long ((p6.toInt64) * (p7.toInt64))), .second] [(.double x4), (.ref a1)])) t → Steps p.tables e below (s₁.setTop (entryFrame m #[(.ref a1), (.ref a2), (.int p3), (.double x4), (.int p5), (.int p6), (.int p7), (.long q8)] 12)) t := fun t kt => by
    refine pre39 _ ?_
    show Steps p.tables e below (T38.setTop (mkF m 121 #[.val (.ref a1), .val (.ref a2), .val (.int p3), .val (.double x4), .second, .val (.int p5), .val (.int p6), .val (.int p7), .val (.long q8), .second, .val (.long ((p6.toInt64) * (p7.toInt64))), .second] [])) _
    refine XS.aloadN X38.here hx rfl (hb hby d2_121) rfl rfl ?_
    show Steps p.tables e below (T38.setTop (mkF m 122 #[.val (.ref a1), .val (.ref a2), .val (.int p3), .val (.double x4), .second, .val (.int p5), .val (.int p6), .val (.int p7), .val (.long q8), .second, .val (.long ((p6.toInt64) * (p7.toInt64))), .second] [(.ref a1)])) _
    refine XS.dloadN X38.here hx rfl (hb hby d2_122) rfl ?_
    exact kt
  obtain ⟨T43, h43, X43, e43, W43, st43⟩ := putF X38 hx hZ hown (host := "") (Or.inl (hw _ (List.mem_of_getElem? (i := 45) rfl))) Via.refl e38 f40 f41 (Or.inr ⟨(hw _ (List.mem_of_getElem? (i := 46) rfl)), rfl, hnm⟩) (hw _ (List.mem_of_getElem? (i := 10) rfl)) (ty := .double) (by decide) rfl rfl (g := (mkF m 123 #[.val (.ref a1), .val (.ref a2), .val (.int p3), .val (.double x4), .second, .val (.int p5), .val (.int p6), .val (.int p7), .val (.long q8), .second, .val (.long ((p6.toInt64) * (p7.toInt64))), .second] [(.double x4), (.ref a1)])) rfl rfl (hb hby d2_123)
  have Fw43 := f40.same W43
  have N43 := Fr.snoc X43 N38 g1
  have pre44 : ∀ t, Steps p.tables e below (T43.setTop (mkF m 126 #[.val (.ref a1), .val (.ref a2), .val (.int p3), .val (.double x4), .second, .val (.int p5), .val (.int p6), .val (.int p7), .val (.long q8), .second, .val (.long ((p6.toInt64) * (p7.toInt64))), .second] [])) t → Steps p.tables e below (s₁.setTop (entryFrame m #[(.ref a1), (.ref a2), (.int p3), (.double x4), (.int p5), (.int p6), (.int p7), (.long q8)] 12)) t := fun t kt => pre42 _ (st43 _ kt)
  have f45 := (((((((F3.ext E5).ext E11).ext E18).ext E24).other W33 (Or.inr (slot_ne (Or.inr (hw _ (List.mem_of_getElem? (i := 48) rfl))) (Or.inr (hw _ (List.mem_of_getElem? (i := 42) rfl))) (by decide) (t := .int) (t' := (.object "com/example/libshingle/libshingle/model/Shingling")) (by decide) (by decide)))).other W38 (Or.inr (slot_ne (Or.inr (hw _ (List.mem_of_getElem? (i := 48) rfl))) (Or.inr (hw _ (List.mem_of_getElem? (i := 44) rfl))) (by decide) (t := .int) (t' := .int) (by decide) (by decide)))).other W43 (Or.inr (slot_ne (Or.inr (hw _ (List.mem_of_getElem? (i := 48) rfl))) (Or.inr (hw _ (List.mem_of_getElem? (i := 46) rfl))) (by decide) (t := .int) (t' := .double) (by decide) (by decide))))
  have f46 := (f41.wr W43)
  have pre47 : ∀ t, Steps p.tables e below (T43.setTop (mkF m 129 #[.val (.ref a1), .val (.ref a2), .val (.int p3), .val (.double x4), .second, .val (.int p5), .val (.int p6), .val (.int p7), .val (.long q8), .second, .val (.long ((p6.toInt64) * (p7.toInt64))), .second] [(.int p5), (.ref a1)])) t → Steps p.tables e below (s₁.setTop (entryFrame m #[(.ref a1), (.ref a2), (.int p3), (.double x4), (.int p5), (.int p6), (.int p7), (.long q8)] 12)) t := fun t kt => by
    refine pre44 _ ?_
    show Steps p.tables e below (T43.setTop (mkF m 126 #[.val (.ref a1), .val (.ref a2), .val (.int p3), .val (.double x4), .second, .val (.int p5), .val (.int p6), .val (.int p7), .val (.long q8), .second, .val (.long ((p6.toInt64) * (p7.toInt64))), .second] [])) _
    refine XS.aloadN X43.here hx rfl (hb hby d2_126) rfl rfl ?_
    show Steps p.tables e below (T43.setTop (mkF m 127 #[.val (.ref a1), .val (.ref a2), .val (.int p3), .val (.double x4), .second, .val (.int p5), .val (.int p6), .val (.int p7), .val (.long q8), .second, .val (.long ((p6.toInt64) * (p7.toInt64))), .second] [(.ref a1)])) _
    refine XS.iload X43.here hx rfl (hb hby d2_127) rfl ?_
    exact kt
  obtain ⟨T48, h48, X48, e48, W48, st48⟩ := putF X43 hx hZ hown (host := "") (Or.inl (hw _ (List.mem_of_getElem? (i := 47) rfl))) Via.refl e43 f45 f46 (Or.inr ⟨(hw _ (List.mem_of_getElem? (i := 48) rfl)), rfl, hnm⟩) (hw _ (List.mem_of_getElem? (i := 10) rfl)) (ty := .int) (by decide) rfl rfl (g := (mkF m 129 #[.val (.ref a1), .val (.ref a2), .val (.int p3), .val (.double x4), .second, .val (.int p5), .val (.int p6), .val (.int p7), .val (.long q8), .second, .val (.long ((p6.toInt64) * (p7.toInt64))), .second] [(.int p5), (.ref a1)])) rfl rfl (hb hby d2_129)
  have Fw48 := f45.same W48
  have N48 := Fr.snoc X48 N43 g1
  have pre49 : ∀ t, Steps p.tables e below (T48.setTop (mkF m 132 #[.val (.ref a1), .val (.ref a2), .val (.int p3), .val (.double x4), .second, .val (.int p5), .val (.int p6), .val (.int p7), .val (.long q8), .second, .val (.long ((p6.toInt64) * (p7.toInt64))), .second] [])) t → Steps p.tables e below (s₁.setTop (entryFrame m #[(.ref a1), (.ref a2), (.int p3), (.double x4), (.int p5), (.int p6), (.int p7), (.long q8)] 12)) t := fun t kt => pre47 _ (st48 _ kt)
  have f50 := ((((((((F4.ext E5).ext E11).ext E18).ext E24).other W33 (Or.inr (slot_ne (Or.inr (hw _ (List.mem_of_getElem? (i := 50) rfl))) (Or.inr (hw _ (List.mem_of_getElem? (i := 42) rfl))) (by decide) (t := .int) (t' := (.object "com/example/libshingle/libshingle/model/Shingling")) (by decide) (by decide)))).other W38 (Or.inr (slot_ne (Or.inr (hw _ (List.mem_of_getElem? (i := 50) rfl))) (Or.inr (hw _ (List.mem_of_getElem? (i := 44) rfl))) (by decide) (t := .int) (t' := .int) (by decide) (by decide)))).other W43 (Or.inr (slot_ne (Or.inr (hw _ (List.mem_of_getElem? (i := 50) rfl))) (Or.inr (hw _ (List.mem_of_getElem? (i := 46) rfl))) (by decide) (t := .int) (t' := .double) (by decide) (by decide)))).other W48 (Or.inr (slot_ne (Or.inr (hw _ (List.mem_of_getElem? (i := 50) rfl))) (Or.inr (hw _ (List.mem_of_getElem? (i := 48) rfl))) (by decide) (t := .int) (t' := .int) (by decide) (by decide))))
  have f51 := (f46.wr W48)
  have pre52 : ∀ t, Steps p.tables e below (T48.setTop (mkF m 135 #[.val (.ref a1), .val (.ref a2), .val (.int p3), .val (.double x4), .second, .val (.int p5), .val (.int p6), .val (.int p7), .val (.long q8), .second, .val (.long ((p6.toInt64) * (p7.toInt64))), .second] [(.int p6), (.ref a1)])) t → Steps p.tables e below (s₁.setTop (entryFrame m #[(.ref a1), (.ref a2), (.int p3), (.double x4), (.int p5), (.int p6), (.int p7), (.long q8)] 12)) t := fun t kt => by
    refine pre49 _ ?_
    show Steps p.tables e below (T48.setTop (mkF m 132 #[.val (.ref a1), .val (.ref a2), .val (.int p3), .val (.double x4), .second, .val (.int p5), .val (.int p6), .val (.int p7), .val (.long q8), .second, .val (.long ((p6.toInt64) * (p7.toInt64))), .second] [])) _
    refine XS.aloadN X48.here hx rfl (hb hby d2_132) rfl rfl ?_
    show Steps p.tables e below (T48.setTop (mkF m 133 #[.val (.ref a1), .val (.ref a2), .val (.int p3), .val (.double x4), .second, .val (.int p5), .val (.int p6), .val (.int p7), .val (.long q8), .second, .val (.long ((p6.toInt64) * (p7.toInt64))), .second] [(.ref a1)])) _
    refine XS.iload X48.here hx rfl (hb hby d2_133) rfl ?_
    exact kt
  obtain ⟨T53, h53, X53, e53, W53, st53⟩ := putF X48 hx hZ hown (host := "") (Or.inl (hw _ (List.mem_of_getElem? (i := 49) rfl))) Via.refl e48 f50 f51 (Or.inr ⟨(hw _ (List.mem_of_getElem? (i := 50) rfl)), rfl, hnm⟩) (hw _ (List.mem_of_getElem? (i := 10) rfl)) (ty := .int) (by decide) rfl rfl (g := (mkF m 135 #[.val (.ref a1), .val (.ref a2), .val (.int p3), .val (.double x4), .second, .val (.int p5), .val (.int p6), .val (.int p7), .val (.long q8), .second, .val (.long ((p6.toInt64) * (p7.toInt64))), .second] [(.int p6), (.ref a1)])) rfl rfl (hb hby d2_135)
  have Fw53 := f50.same W53
  have N53 := Fr.snoc X53 N48 g1
  have pre54 : ∀ t, Steps p.tables e below (T53.setTop (mkF m 138 #[.val (.ref a1), .val (.ref a2), .val (.int p3), .val (.double x4), .second, .val (.int p5), .val (.int p6), .val (.int p7), .val (.long q8), .second, .val (.long ((p6.toInt64) * (p7.toInt64))), .second] [])) t → Steps p.tables e below (s₁.setTop (entryFrame m #[(.ref a1), (.ref a2), (.int p3), (.double x4), (.int p5), (.int p6), (.int p7), (.long q8)] 12)) t := fun t kt => pre52 _ (st53 _ kt)
  have f55 := (((((((((F5.ext E5).ext E11).ext E18).ext E24).other W33 (Or.inr (slot_ne (Or.inr (hw _ (List.mem_of_getElem? (i := 52) rfl))) (Or.inr (hw _ (List.mem_of_getElem? (i := 42) rfl))) (by decide) (t := .int) (t' := (.object "com/example/libshingle/libshingle/model/Shingling")) (by decide) (by decide)))).other W38 (Or.inr (slot_ne (Or.inr (hw _ (List.mem_of_getElem? (i := 52) rfl))) (Or.inr (hw _ (List.mem_of_getElem? (i := 44) rfl))) (by decide) (t := .int) (t' := .int) (by decide) (by decide)))).other W43 (Or.inr (slot_ne (Or.inr (hw _ (List.mem_of_getElem? (i := 52) rfl))) (Or.inr (hw _ (List.mem_of_getElem? (i := 46) rfl))) (by decide) (t := .int) (t' := .double) (by decide) (by decide)))).other W48 (Or.inr (slot_ne (Or.inr (hw _ (List.mem_of_getElem? (i := 52) rfl))) (Or.inr (hw _ (List.mem_of_getElem? (i := 48) rfl))) (by decide) (t := .int) (t' := .int) (by decide) (by decide)))).other W53 (Or.inr (slot_ne (Or.inr (hw _ (List.mem_of_getElem? (i := 52) rfl))) (Or.inr (hw _ (List.mem_of_getElem? (i := 50) rfl))) (by decide) (t := .int) (t' := .int) (by decide) (by decide))))
  have f56 := (f51.wr W53)
  have pre57 : ∀ t, Steps p.tables e below (T53.setTop (mkF m 141 #[.val (.ref a1), .val (.ref a2), .val (.int p3), .val (.double x4), .second, .val (.int p5), .val (.int p6), .val (.int p7), .val (.long q8), .second, .val (.long ((p6.toInt64) * (p7.toInt64))), .second] [(.int p7), (.ref a1)])) t → Steps p.tables e below (s₁.setTop (entryFrame m #[(.ref a1), (.ref a2), (.int p3), (.double x4), (.int p5), (.int p6), (.int p7), (.long q8)] 12)) t := fun t kt => by
    refine pre54 _ ?_
    show Steps p.tables e below (T53.setTop (mkF m 138 #[.val (.ref a1), .val (.ref a2), .val (.int p3), .val (.double x4), .second, .val (.int p5), .val (.int p6), .val (.int p7), .val (.long q8), .second, .val (.long ((p6.toInt64) * (p7.toInt64))), .second] [])) _
    refine XS.aloadN X53.here hx rfl (hb hby d2_138) rfl rfl ?_
    show Steps p.tables e below (T53.setTop (mkF m 139 #[.val (.ref a1), .val (.ref a2), .val (.int p3), .val (.double x4), .second, .val (.int p5), .val (.int p6), .val (.int p7), .val (.long q8), .second, .val (.long ((p6.toInt64) * (p7.toInt64))), .second] [(.ref a1)])) _
    refine XS.iload X53.here hx rfl (hb hby d2_139) rfl ?_
    exact kt
  obtain ⟨T58, h58, X58, e58, W58, st58⟩ := putF X53 hx hZ hown (host := "") (Or.inl (hw _ (List.mem_of_getElem? (i := 51) rfl))) Via.refl e53 f55 f56 (Or.inr ⟨(hw _ (List.mem_of_getElem? (i := 52) rfl)), rfl, hnm⟩) (hw _ (List.mem_of_getElem? (i := 10) rfl)) (ty := .int) (by decide) rfl rfl (g := (mkF m 141 #[.val (.ref a1), .val (.ref a2), .val (.int p3), .val (.double x4), .second, .val (.int p5), .val (.int p6), .val (.int p7), .val (.long q8), .second, .val (.long ((p6.toInt64) * (p7.toInt64))), .second] [(.int p7), (.ref a1)])) rfl rfl (hb hby d2_141)
  have Fw58 := f55.same W58
  have N58 := Fr.snoc X58 N53 g1
  have pre59 : ∀ t, Steps p.tables e below (T58.setTop (mkF m 144 #[.val (.ref a1), .val (.ref a2), .val (.int p3), .val (.double x4), .second, .val (.int p5), .val (.int p6), .val (.int p7), .val (.long q8), .second, .val (.long ((p6.toInt64) * (p7.toInt64))), .second] [])) t → Steps p.tables e below (s₁.setTop (entryFrame m #[(.ref a1), (.ref a2), (.int p3), (.double x4), (.int p5), (.int p6), (.int p7), (.long q8)] 12)) t := fun t kt => pre57 _ (st58 _ kt)
  have f60 := ((((((((((F6.ext E5).ext E11).ext E18).ext E24).other W33 (Or.inr (slot_ne (Or.inr (hw _ (List.mem_of_getElem? (i := 54) rfl))) (Or.inr (hw _ (List.mem_of_getElem? (i := 42) rfl))) (by decide) (t := .long) (t' := (.object "com/example/libshingle/libshingle/model/Shingling")) (by decide) (by decide)))).other W38 (Or.inr (slot_ne (Or.inr (hw _ (List.mem_of_getElem? (i := 54) rfl))) (Or.inr (hw _ (List.mem_of_getElem? (i := 44) rfl))) (by decide) (t := .long) (t' := .int) (by decide) (by decide)))).other W43 (Or.inr (slot_ne (Or.inr (hw _ (List.mem_of_getElem? (i := 54) rfl))) (Or.inr (hw _ (List.mem_of_getElem? (i := 46) rfl))) (by decide) (t := .long) (t' := .double) (by decide) (by decide)))).other W48 (Or.inr (slot_ne (Or.inr (hw _ (List.mem_of_getElem? (i := 54) rfl))) (Or.inr (hw _ (List.mem_of_getElem? (i := 48) rfl))) (by decide) (t := .long) (t' := .int) (by decide) (by decide)))).other W53 (Or.inr (slot_ne (Or.inr (hw _ (List.mem_of_getElem? (i := 54) rfl))) (Or.inr (hw _ (List.mem_of_getElem? (i := 50) rfl))) (by decide) (t := .long) (t' := .int) (by decide) (by decide)))).other W58 (Or.inr (slot_ne (Or.inr (hw _ (List.mem_of_getElem? (i := 54) rfl))) (Or.inr (hw _ (List.mem_of_getElem? (i := 52) rfl))) (by decide) (t := .long) (t' := .int) (by decide) (by decide))))
  have f61 := (f56.wr W58)
  have pre62 : ∀ t, Steps p.tables e below (T58.setTop (mkF m 147 #[.val (.ref a1), .val (.ref a2), .val (.int p3), .val (.double x4), .second, .val (.int p5), .val (.int p6), .val (.int p7), .val (.long q8), .second, .val (.long ((p6.toInt64) * (p7.toInt64))), .second] [(.long q8), (.ref a1)])) t → Steps p.tables e below (s₁.setTop (entryFrame m #[(.ref a1), (.ref a2), (.int p3), (.double x4), (.int p5), (.int p6), (.int p7), (.long q8)] 12)) t := fun t kt => by
    refine pre59 _ ?_
    show Steps p.tables e below (T58.setTop (mkF m 144 #[.val (.ref a1), .val (.ref a2), .val (.int p3), .val (.double x4), .second, .val (.int p5), .val (.int p6), .val (.int p7), .val (.long q8), .second, .val (.long ((p6.toInt64) * (p7.toInt64))), .second] [])) _
    refine XS.aloadN X58.here hx rfl (hb hby d2_144) rfl rfl ?_
    show Steps p.tables e below (T58.setTop (mkF m 145 #[.val (.ref a1), .val (.ref a2), .val (.int p3), .val (.double x4), .second, .val (.int p5), .val (.int p6), .val (.int p7), .val (.long q8), .second, .val (.long ((p6.toInt64) * (p7.toInt64))), .second] [(.ref a1)])) _
    refine XS.lload X58.here hx rfl (hb hby d2_145) rfl ?_
    exact kt
  obtain ⟨T63, h63, X63, e63, W63, st63⟩ := putF X58 hx hZ hown (host := "") (Or.inl (hw _ (List.mem_of_getElem? (i := 53) rfl))) Via.refl e58 f60 f61 (Or.inr ⟨(hw _ (List.mem_of_getElem? (i := 54) rfl)), rfl, hnm⟩) (hw _ (List.mem_of_getElem? (i := 10) rfl)) (ty := .long) (by decide) rfl rfl (g := (mkF m 147 #[.val (.ref a1), .val (.ref a2), .val (.int p3), .val (.double x4), .second, .val (.int p5), .val (.int p6), .val (.int p7), .val (.long q8), .second, .val (.long ((p6.toInt64) * (p7.toInt64))), .second] [(.long q8), (.ref a1)])) rfl rfl (hb hby d2_147)
  have Fw63 := f60.same W63
  have N63 := Fr.snoc X63 N58 g1
  have pre64 : ∀ t, Steps p.tables e below (T63.setTop (mkF m 150 #[.val (.ref a1), .val (.ref a2), .val (.int p3), .val (.double x4), .second, .val (.int p5), .val (.int p6), .val (.int p7), .val (.long q8), .second, .val (.long ((p6.toInt64) * (p7.toInt64))), .second] [])) t → Steps p.tables e below (s₁.setTop (entryFrame m #[(.ref a1), (.ref a2), (.int p3), (.double x4), (.int p5), (.int p6), (.int p7), (.long q8)] 12)) t := fun t kt => pre62 _ (st63 _ kt)
  have k65 : Keep h0 h63 [a1] := (((((((((((K0.ext E5).ext E11).ext E18).ext E24).wr W33 (Or.inl (List.mem_of_getElem? (i := 0) rfl))).wr W38 (Or.inl (List.mem_of_getElem? (i := 0) rfl))).wr W43 (Or.inl (List.mem_of_getElem? (i := 0) rfl))).wr W48 (Or.inl (List.mem_of_getElem? (i := 0) rfl))).wr W53 (Or.inl (List.mem_of_getElem? (i := 0) rfl))).wr W58 (Or.inl (List.mem_of_getElem? (i := 0) rfl))).wr W63 (Or.inl (List.mem_of_getElem? (i := 0) rfl)))
  have f66 := (f61.wr W63)
  have f67 := (((Fw48.other W53 (Or.inr (slot_ne (Or.inr (hw _ (List.mem_of_getElem? (i := 48) rfl))) (Or.inr (hw _ (List.mem_of_getElem? (i := 50) rfl))) (by decide) (t := .int) (t' := .int) (by decide) (by decide)))).other W58 (Or.inr (slot_ne (Or.inr (hw _ (List.mem_of_getElem? (i := 48) rfl))) (Or.inr (hw _ (List.mem_of_getElem? (i := 52) rfl))) (by decide) (t := .int) (t' := .int) (by decide) (by decide)))).other W63 (Or.inr (slot_ne (Or.inr (hw _ (List.mem_of_getElem? (i := 48) rfl))) (Or.inr (hw _ (List.mem_of_getElem? (i := 54) rfl))) (by decide) (t := .int) (t' := .long) (by decide) (by decide))))
  have hk68 := (Nat.le_trans (Nat.le_trans (Nat.le_trans (Nat.le_trans (Nat.le_trans (Nat.le_trans (Nat.le_trans hk24 (Keep.of_wr W33).1) (Keep.of_wr W38).1) (Keep.of_wr W43).1) (Keep.of_wr W48).1) (Keep.of_wr W53).1) (Keep.of_wr W58).1) (Keep.of_wr W63).1)
  obtain ⟨fs, hr, hrun, hended, -, hW, hI, hsame⟩ := X63.leaveW hS (e63.symm ▸ hk68) (v := none) (fun _ => rfl)
  refine ⟨_, _, pre64 _ ?_, hrun, hended, _, _, rfl, ?_, ⟨_, rfl⟩, hW, hI, hsame.mono (by decide) (by decide)⟩
  · show Steps p.tables e below (T63.setTop (mkF m 150 #[.val (.ref a1), .val (.ref a2), .val (.int p3), .val (.double x4), .second, .val (.int p5), .val (.int p6), .val (.int p7), .val (.long q8), .second, .val (.long ((p6.toInt64) * (p7.toInt64))), .second] [])) _
    exact X63.returnOut hx Bd.returns (hb hby d2_150) hr
  · show Qin Z a1 a2 p3 x4 p5 p6 p7 q8 h0 n0 _ T63.heap _
    rw [e63]
    exact ⟨rfl, N63, k65, f66, f67⟩
theorem ef_8 (m : MethodId) (a1 : Addr) (p2 : Int32) (x3 : UInt64) : entryFrame m #[(.ref a1), (.int p2), (.double x3)] 4 = (mkF m 0 #[.val (.ref a1), .val (.int p2), .val (.double x3), .second] []) := by first | (simp [entryFrame, mkF, argsToLocals, Value.category]; done) | rfl
theorem d8_0 : decode prog_7_method_2_code 0 = .ok (.new 18, 3) := by decide +kernel
theorem d8_3 : decode prog_7_method_2_code 3 = .ok (.dup, 1) := by decide +kernel
theorem d8_4 : decode prog_7_method_2_code 4 = .ok (.aload_n 0, 1) := by decide +kernel
theorem d8_5 : decode prog_7_method_2_code 5 = .ok (.iload_n 1, 1) := by decide +kernel
theorem d8_6 : decode prog_7_method_2_code 6 = .ok (.dload_n 2, 1) := by decide +kernel
theorem d8_7 : decode prog_7_method_2_code 7 = .ok (.iconst 0, 1) := by decide +kernel
theorem d8_8 : decode prog_7_method_2_code 8 = .ok (.iconst 0, 1) := by decide +kernel
theorem d8_9 : decode prog_7_method_2_code 9 = .ok (.iconst 0, 1) := by decide +kernel
theorem d8_10 : decode prog_7_method_2_code 10 = .ok (.lconst 0, 1) := by decide +kernel
theorem pd_3 : parseMethodDescriptor "(Lcom/example/libshingle/libshingle/model/Shingling;IDIIIJ)V" = some ⟨[(.object "com/example/libshingle/libshingle/model/Shingling"), .int, .double, .int, .int, .int, .long], none⟩ := by decide +kernel
theorem d8_11 : decode prog_7_method_2_code 11 = .ok (.invokespecial 60, 3) := by decide +kernel
theorem d8_14 : decode prog_7_method_2_code 14 = .ok (.areturn, 1) := by decide +kernel
def Q8 (Z : State) (a1 : Addr) (p2 : Int32) (x3 : UInt64) (h0 : Heap) (n0 : Nat) (v : Option Value) (h : Heap) (L : List Loc) : Prop := v = some (.ref h0.size) ∧ Fr n0 L ∧ Keep h0 h [] ∧ Exa Z h h0.size "com/example/libshingle/libshingle/model/DiscoveryOptions" ∧ Fld Z h h0.size "com/example/libshingle/libshingle/model/DiscoveryOptions" "signatureLength" "I" (.int (0 : Int32))
set_option maxRecDepth 65536 in
set_option maxHeartbeats 40000000 in
theorem rm8 (l : Launch) (Z : State) (a0 : Array Value) (hw : ∀ d ∈ tables_1, d.before a0 Z = true) (ws : List Jvm.Cond) (a1 : Addr) (p2 : Int32) (x3 : UInt64) (h0 : Heap) (n0 : Nat) (Z0 : n0 ≤ h0.size) (hp3 : ¬ (p2 < (1 : Int32))) (t0 : cmpValue (FP.dcmp x3 (0 : UInt64)) .l = (1 : Int32)) (t1 : ¬ ((0 : Int32) < cmpValue (FP.dcmp x3 (4607182418800017408 : UInt64)) .g)) :
    MetFree l (⟨"com/example/libshingle/libshingle/model/DiscoveryOptions", "exact", "(Lcom/example/libshingle/libshingle/model/Shingling;ID)Lcom/example/libshingle/libshingle/model/DiscoveryOptions;"⟩ : MethodName) (head1 (Jvm.Cond.code (⟨"com/example/libshingle/libshingle/model/DiscoveryOptions", "exact", "(Lcom/example/libshingle/libshingle/model/Shingling;ID)Lcom/example/libshingle/libshingle/model/DiscoveryOptions;"⟩ : MethodName) prog_7_method_2_code 4 (some (.object "com/example/libshingle/libshingle/model/DiscoveryOptions")) :: ws) ({ frames := 3, cells := 5, slots := 55, locals := 48 } : Room)) (fun a U => a = #[(.ref a1), (.int p2), (.double x3)] ∧ Z.Warmed39 U.vm ∧ U.heap = h0) (fun _ _ _ _ _ => True) (fun _ U o U' => ∃ v L, o = .returned v ∧ Q8 Z a1 p2 x3 h0 n0 v U'.heap L ∧ ReturnedEndW U o U' L ({ frames := 3, cells := 5, slots := 55, locals := 48 } : Room).cells ({ frames := 3, cells := 5, slots := 55, locals := 48 } : Room).slots) := by
  refine MetFree.of_bodySF (plainFor_of_name pn_3) hisR ?_
  intro p e s m args below meth c s₁ Bd hml0 hP hK
  obtain ⟨rfl, hZ, hh⟩ := hP
  have hx := Bd.exec
  have hby := Bd.bytes
  have hml : c.maxLocals = 4 := hml0
  have hown : s.vm.findClass "com/example/libshingle/libshingle/model/DiscoveryOptions" = some m.cls := findClass_of_methodNamed Bd.named
  have hnm := (name_of_methodNamed Bd.named Bd.method).1
  have X0 : Stand p l e ({ frames := 3, cells := 5, slots := 55, locals := 48 } : Room) (s.setVm s.vm) m #[(.ref a1), (.int p2), (.double x3)] below meth c s₁ [] 0 0 := Stand.of_body Bd
  have e0 : s₁.heap = h0 := by rw [← hh, Bd.state]; rfl
  have N0 := Fr.nil n0
  have hS := (State.WarmedH.refl s).since s₁.heap.size
  have hk : s₁.heap.size ≤ h0.size := Nat.le_of_eq (congrArg Array.size e0)
  have wS : ∀ a ∈ Bundle.stringAtoms, a.before a0 Z = true := own_wS hw
  have K0 : Keep h0 h0 [] := Keep.refl _ _
  have pre0 : ∀ t, Steps p.tables e below (s₁.setTop (mkF m 0 #[.val (.ref a1), .val (.int p2), .val (.double x3), .second] [])) t → Steps p.tables e below (s₁.setTop (entryFrame m #[(.ref a1), (.int p2), (.double x3)] 4)) t := fun t k => castTop (ef_8 m a1 p2 x3) k
  obtain ⟨T1, h1, X1, e1, E1, A1, D1, -, st1⟩ := newO X0 hx hZ hown (hw _ (List.mem_of_getElem? (i := 65) rfl)) (hw _ (List.mem_of_getElem? (i := 10) rfl)) (hw _ (List.mem_of_getElem? (i := 11) rfl)) e0 (g := (mkF m 0 #[.val (.ref a1), .val (.int p2), .val (.double x3), .second] [])) rfl (hb hby d8_0) (by decide) (by decide)
  obtain ⟨b1, gq1⟩ : ∃ z, z = h0.size := ⟨_, rfl⟩
  rw [← gq1] at A1 D1 st1
  have gg_b1 : n0 ≤ b1 := Nat.le_trans Z0 (Nat.le_of_eq gq1.symm)
  have sz_b1 : h0.size ≤ b1 := Nat.le_trans K0.1 (Nat.le_of_eq gq1.symm)
  have F1_shingling : Fld Z h1 b1 "com/example/libshingle/libshingle/model/DiscoveryOptions" "shingling" "Lcom/example/libshingle/libshingle/model/Shingling;" .null := D1 (Or.inr (hw _ (List.mem_of_getElem? (i := 42) rfl))) (ty := (.object "com/example/libshingle/libshingle/model/Shingling")) (by decide)
  have F1_k : Fld Z h1 b1 "com/example/libshingle/libshingle/model/DiscoveryOptions" "k" "I" (.int (0 : Int32)) := D1 (Or.inr (hw _ (List.mem_of_getElem? (i := 44) rfl))) (ty := .int) (by decide)
  have F1_threshold : Fld Z h1 b1 "com/example/libshingle/libshingle/model/DiscoveryOptions" "threshold" "D" (.double 0) := D1 (Or.inr (hw _ (List.mem_of_getElem? (i := 46) rfl))) (ty := .double) (by decide)
  have F1_signatureLength : Fld Z h1 b1 "com/example/libshingle/libshingle/model/DiscoveryOptions" "signatureLength" "I" (.int (0 : Int32)) := D1 (Or.inr (hw _ (List.mem_of_getElem? (i := 48) rfl))) (ty := .int) (by decide)
  have F1_bands : Fld Z h1 b1 "com/example/libshingle/libshingle/model/DiscoveryOptions" "bands" "I" (.int (0 : Int32)) := D1 (Or.inr (hw _ (List.mem_of_getElem? (i := 50) rfl))) (ty := .int) (by decide)
  have F1_rows : Fld Z h1 b1 "com/example/libshingle/libshingle/model/DiscoveryOptions" "rows" "I" (.int (0 : Int32)) := D1 (Or.inr (hw _ (List.mem_of_getElem? (i := 52) rfl))) (ty := .int) (by decide)
  have F1_seed : Fld Z h1 b1 "com/example/libshingle/libshingle/model/DiscoveryOptions" "seed" "J" (.long (0 : Int64)) := D1 (Or.inr (hw _ (List.mem_of_getElem? (i := 54) rfl))) (ty := .long) (by decide)
  have pre2 : ∀ t, Steps p.tables e below (T1.setTop (mkF m 3 #[.val (.ref a1), .val (.int p2), .val (.double x3), .second] [(.ref b1)])) t → Steps p.tables e below (s₁.setTop (entryFrame m #[(.ref a1), (.int p2), (.double x3)] 4)) t := fun t kt => pre0 _ (st1 _ kt)
  have z3 : n0 ≤ h1.size := (Nat.le_trans Z0 E1.1)
  have pre4 : ∀ t, Steps p.tables e below (T1.setTop (mkF m 11 #[.val (.ref a1), .val (.int p2), .val (.double x3), .second] [(.long (0 : Int64)), (.int (0 : Int32)), (.int (0 : Int32)), (.int (0 : Int32)), (.double x3), (.int p2), (.ref a1), (.ref b1), (.ref b1)])) t → Steps p.tables e below (s₁.setTop (entryFrame m #[(.ref a1), (.int p2), (.double x3)] 4)) t := fun t kt => by
    refine pre2 _ ?_
    show Steps p.tables e below (T1.setTop (mkF m 3 #[.val (.ref a1), .val (.int p2), .val (.double x3), .second] [(.ref b1)])) _
    refine XS.dup X1.here hx rfl (hb hby d8_3) rfl rfl ?_
    show Steps p.tables e below (T1.setTop (mkF m 4 #[.val (.ref a1), .val (.int p2), .val (.double x3), .second] [(.ref b1), (.ref b1)])) _
    refine XS.aloadN X1.here hx rfl (hb hby d8_4) rfl rfl ?_
    show Steps p.tables e below (T1.setTop (mkF m 5 #[.val (.ref a1), .val (.int p2), .val (.double x3), .second] [(.ref a1), (.ref b1), (.ref b1)])) _
    refine XS.iloadN X1.here hx rfl (hb hby d8_5) rfl ?_
    show Steps p.tables e below (T1.setTop (mkF m 6 #[.val (.ref a1), .val (.int p2), .val (.double x3), .second] [(.int p2), (.ref a1), (.ref b1), (.ref b1)])) _
    refine XS.dloadN X1.here hx rfl (hb hby d8_6) rfl ?_
    show Steps p.tables e below (T1.setTop (mkF m 7 #[.val (.ref a1), .val (.int p2), .val (.double x3), .second] [(.double x3), (.int p2), (.ref a1), (.ref b1), (.ref b1)])) _
    refine XS.iconst X1.here hx rfl (hb hby d8_7) ?_
    show Steps p.tables e below (T1.setTop (mkF m 8 #[.val (.ref a1), .val (.int p2), .val (.double x3), .second] [(.int (0 : Int32)), (.double x3), (.int p2), (.ref a1), (.ref b1), (.ref b1)])) _
    refine XS.iconst X1.here hx rfl (hb hby d8_8) ?_
    show Steps p.tables e below (T1.setTop (mkF m 9 #[.val (.ref a1), .val (.int p2), .val (.double x3), .second] [(.int (0 : Int32)), (.int (0 : Int32)), (.double x3), (.int p2), (.ref a1), (.ref b1), (.ref b1)])) _
    refine XS.iconst X1.here hx rfl (hb hby d8_9) ?_
    show Steps p.tables e below (T1.setTop (mkF m 10 #[.val (.ref a1), .val (.int p2), .val (.double x3), .second] [(.int (0 : Int32)), (.int (0 : Int32)), (.int (0 : Int32)), (.double x3), (.int p2), (.ref a1), (.ref b1), (.ref b1)])) _
    refine XS.lconst X1.here hx rfl (hb hby d8_10) ?_
    exact kt
  have hk5 := (Nat.le_trans hk E1.1)
  obtain ⟨_, _, ⟨T6, L6, kc6, nc6⟩, -, Xo6, hSo6, gr6, ⟨Lc6, hQ6, l6, y6, z6⟩, st6⟩ := X1.specialBackS hx (y := (⟨"com/example/libshingle/libshingle/model/DiscoveryOptions", "<init>", "(Lcom/example/libshingle/libshingle/model/Shingling;IDIIIJ)V"⟩ : MethodName)) rfl hown (mvT hZ (hw _ (List.mem_of_getElem? (i := 66) rfl))) (mvT hZ (hw _ (List.mem_of_getElem? (i := 13) rfl))) (mvT hZ (hw _ (List.mem_of_getElem? (i := 14) rfl))) (by decide) (backOfS (W := 1) (rmix l Z a0 hw [] b1 a1 p2 x3 (0 : Int64) h1 n0 z3 A1 F1_shingling F1_k F1_threshold F1_signatureLength F1_bands F1_rows F1_seed gg_b1 hp3 t0 t1) hZ (hw _ (List.mem_of_getElem? (i := 14) rfl)) (hw _ (List.mem_of_getElem? (i := 11) rfl)) (by decide) (by decide)) (g := (mkF m 11 #[.val (.ref a1), .val (.int p2), .val (.double x3), .second] [(.long (0 : Int64)), (.int (0 : Int32)), (.int (0 : Int32)), (.int (0 : Int32)), (.double x3), (.int p2), (.ref a1), (.ref b1), (.ref b1)])) rfl (by rw [hml]; rfl) (Steps.refl _) (a := b1) (argsL := [(.ref a1), (.int p2), (.double x3), (.int (0 : Int32)), (.int (0 : Int32)), (.int (0 : Int32)), (.long (0 : Int64))]) (rest := [(.ref b1)]) (lenOf pd_3 rfl) rfl (by show 2 * 0 + _ ≤ _; exact Nat.le_of_eq rfl) (hb hby d8_11) (fun _ _ => ⟨rfl, e1, (by decide : 1 + 4 ≤ _), (by decide : 7 + 48 ≤ _)⟩)
  dsimp only [Pt.U, Pt.locs, Pt.cells, Pt.slots] at Xo6 hSo6 gr6 l6 y6 z6 st6 hQ6
  subst l6 y6 z6
  obtain ⟨X6, hS6, hZ6, hown6⟩ := rebS hS (e1.symm ▸ hk5) Xo6 hSo6 gr6 hZ hown
  have hZ := hZ6
  have hown := hown6
  have hS := hS6
  obtain ⟨rfl, N6q, K6, Ex6, Fs6⟩ := hQ6
  have N6 := Fr.app N0 N6q
  have hk6 : T6.heap.size ≤ T6.heap.size := Nat.le_refl _
  have pre7 : ∀ t, Steps p.tables e below (T6.setTop (mkF m 14 #[.val (.ref a1), .val (.int p2), .val (.double x3), .second] [(.ref b1)])) t → Steps p.tables e below (s₁.setTop (entryFrame m #[(.ref a1), (.int p2), (.double x3)] 4)) t := fun t kt => pre4 _ (st6.trans kt)
  have k8 : Keep h0 T6.heap [] := ((K0.ext E1).trans K6 (allS (Or.inr sz_b1) all0))
  obtain ⟨fs, hr, hrun, hended, -, hW, hI, hsame⟩ := X6.leaveW hS (hk6) (v := (some (.ref b1))) (fun h => by rw [Bd.returns] at h; cases h)
  refine ⟨_, _, pre7 _ ?_, hrun, hended, _, _, rfl, ?_, ⟨_, rfl⟩, hW, hI, hsame.mono (by decide) (by decide)⟩
  · show Steps p.tables e below (T6.setTop (mkF m 14 #[.val (.ref a1), .val (.int p2), .val (.double x3), .second] [(.ref b1)])) _
    exact retOut X6 hx (t := (.object "com/example/libshingle/libshingle/model/DiscoveryOptions")) Bd.returns rfl (Or.inr (Or.inr (Or.inr (Or.inr ⟨rfl, rfl, rfl⟩)))) (hb hby d8_14) hr
  · show Q8 Z a1 p2 x3 h0 n0 _ T6.heap _
    exact ⟨by rw [gq1], N6, k8, by rw [← gq1]; exact Ex6, by rw [← gq1]; exact Fs6⟩
theorem ef_xe (m : MethodId) (a1 : Addr) : entryFrame m #[(.ref a1)] 1 = (mkF m 0 #[.val (.ref a1)] []) := by first | (simp [entryFrame, mkF, argsToLocals, Value.category]; done) | rfl
theorem d7_0 : decode prog_7_method_5_code 0 = .ok (.aload_n 0, 1) := by decide +kernel
theorem d7_1 : decode prog_7_method_5_code 1 = .ok (.getfield 49, 3) := by decide +kernel
theorem d7_4 : decode prog_7_method_5_code 4 = .ok (.ifCond .ne 7, 3) := by decide +kernel
theorem d7_7 : decode prog_7_method_5_code 7 = .ok (.iconst 1, 1) := by decide +kernel
theorem d7_8 : decode prog_7_method_5_code 8 = .ok (.goto 4, 3) := by decide +kernel
theorem d7_12 : decode prog_7_method_5_code 12 = .ok (.ireturn, 1) := by decide +kernel
def Qxe (Z : State) (a1 : Addr) (p2 : Int32) (h0 : Heap) (n0 : Nat) (v : Option Value) (h : Heap) (L : List Loc) : Prop := v = some (.int (1 : Int32)) ∧ Fr n0 L ∧ h = h0
set_option maxRecDepth 65536 in
set_option maxHeartbeats 40000000 in
theorem rmxe (l : Launch) (Z : State) (a0 : Array Value) (hw : ∀ d ∈ tables_1, d.before a0 Z = true) (ws : List Jvm.Cond) (a1 : Addr) (p2 : Int32) (h0 : Heap) (n0 : Nat) (Z0 : n0 ≤ h0.size) (Fs : Fld Z h0 a1 "com/example/libshingle/libshingle/model/DiscoveryOptions" "signatureLength" "I" (.int p2)) (hp : p2 = (0 : Int32)) :
    MetFree l (⟨"com/example/libshingle/libshingle/model/DiscoveryOptions", "isExact", "()Z"⟩ : MethodName) (head1 (Jvm.Cond.code (⟨"com/example/libshingle/libshingle/model/DiscoveryOptions", "isExact", "()Z"⟩ : MethodName) prog_7_method_5_code 1 (some .boolean) :: ws) ({ frames := 0, cells := 0, slots := 0, locals := 0 } : Room)) (fun a U => a = #[(.ref a1)] ∧ Z.Warmed39 U.vm ∧ U.heap = h0) (fun _ _ _ _ _ => True) (fun _ U o U' => ∃ v L, o = .returned v ∧ Qxe Z a1 p2 h0 n0 v U'.heap L ∧ FrameEnd U o U' L ({ frames := 0, cells := 0, slots := 0, locals := 0 } : Room).cells ({ frames := 0, cells := 0, slots := 0, locals := 0 } : Room).slots) := by
  refine MetFree.of_bodySF (plainFor_of_name pn_3) hisR ?_
  intro p e s m args below meth c s₁ Bd hml0 hP hK
  obtain ⟨rfl, hZ, hh⟩ := hP
  have hx := Bd.exec
  have hby := Bd.bytes
  have hml : c.maxLocals = 1 := hml0
  have hown : s.vm.findClass "com/example/libshingle/libshingle/model/DiscoveryOptions" = some m.cls := findClass_of_methodNamed Bd.named
  have hnm := (name_of_methodNamed Bd.named Bd.method).1
  have X0 : Stand p l e ({ frames := 0, cells := 0, slots := 0, locals := 0 } : Room) s m #[(.ref a1)] below meth c s₁ [] 0 0 := Stand.of_body Bd
  have e0 : s₁.heap = h0 := by rw [← hh, Bd.state]; rfl
  have N0 := Fr.nil n0
  have pre0 : ∀ t, Steps p.tables e below (s₁.setTop (mkF m 0 #[.val (.ref a1)] [])) t → Steps p.tables e below (s₁.setTop (entryFrame m #[(.ref a1)] 1)) t := fun t k => castTop (ef_xe m a1) k
  have pre1 : ∀ t, Steps p.tables e below (s₁.setTop (mkF m 1 #[.val (.ref a1)] [(.ref a1)])) t → Steps p.tables e below (s₁.setTop (entryFrame m #[(.ref a1)] 1)) t := fun t kt => by
    refine pre0 _ ?_
    show Steps p.tables e below (s₁.setTop (mkF m 0 #[.val (.ref a1)] [])) _
    refine XS.aloadN X0.here hx rfl (hb hby d7_0) rfl rfl ?_
    exact kt
  obtain ⟨T2, X2, e2, st2⟩ := getF X0 hx hZ hown (host := "") (Or.inl (hw _ (List.mem_of_getElem? (i := 47) rfl))) Via.refl e0 Fs (g := (mkF m 1 #[.val (.ref a1)] [(.ref a1)])) rfl rfl (hb hby d7_1)
  have pre3 : ∀ t, Steps p.tables e below (T2.setTop (mkF m 4 #[.val (.ref a1)] [(.int p2)])) t → Steps p.tables e below (s₁.setTop (entryFrame m #[(.ref a1)] 1)) t := fun t kt => pre1 _ (st2 _ kt)
  have pre4 : ∀ t, Steps p.tables e below (T2.setTop (mkF m 12 #[.val (.ref a1)] [(.int (1 : Int32))])) t → Steps p.tables e below (s₁.setTop (entryFrame m #[(.ref a1)] 1)) t := fun t kt => by
    refine pre3 _ ?_
    show Steps p.tables e below (T2.setTop (mkF m 4 #[.val (.ref a1)] [(.int p2)])) _
    refine XS.ifNo X2.here hx rfl (hb hby d7_4) rfl ((if0 _ _).trans (teq (hp : p2 = (0 : Int32))).2) ?_
    show Steps p.tables e below (T2.setTop (mkF m 7 #[.val (.ref a1)] [])) _
    refine XS.iconst X2.here hx rfl (hb hby d7_7) ?_
    show Steps p.tables e below (T2.setTop (mkF m 8 #[.val (.ref a1)] [(.int (1 : Int32))])) _
    refine XS.goto X2.here hx rfl (pc0 := 8) (pc' := 12) rfl (hb hby d7_8) (by decide) (by decide) ?_
    exact kt
  obtain ⟨fs, hr, hrun, hended, hW, hsame⟩ := X2.leave (v := (some (.int (1 : Int32)))) (fun h => by rw [Bd.returns] at h; cases h)
  refine ⟨_, _, pre4 _ ?_, hrun, hended, _, _, rfl, ?_, ⟨_, rfl⟩, hW, hsame.mono (by decide) (by decide)⟩
  · show Steps p.tables e below (T2.setTop (mkF m 12 #[.val (.ref a1)] [(.int (1 : Int32))])) _
    exact retN X2 hx (t := .boolean) Bd.returns (by simp) (hb hby d7_12) hr
  · show Qxe Z a1 p2 h0 n0 _ T2.heap _
    rw [e2]
    exact ⟨rfl, N0, rfl⟩
theorem ef_xn (m : MethodId) (a1 : Addr) : entryFrame m #[(.ref a1)] 1 = (mkF m 0 #[.val (.ref a1)] []) := by first | (simp [entryFrame, mkF, argsToLocals, Value.category]; done) | rfl
theorem d7_11 : decode prog_7_method_5_code 11 = .ok (.iconst 0, 1) := by decide +kernel
def Qxn (Z : State) (a1 : Addr) (p2 : Int32) (h0 : Heap) (n0 : Nat) (v : Option Value) (h : Heap) (L : List Loc) : Prop := v = some (.int (0 : Int32)) ∧ Fr n0 L ∧ h = h0
set_option maxRecDepth 65536 in
set_option maxHeartbeats 40000000 in
theorem rmxn (l : Launch) (Z : State) (a0 : Array Value) (hw : ∀ d ∈ tables_1, d.before a0 Z = true) (ws : List Jvm.Cond) (a1 : Addr) (p2 : Int32) (h0 : Heap) (n0 : Nat) (Z0 : n0 ≤ h0.size) (Fs : Fld Z h0 a1 "com/example/libshingle/libshingle/model/DiscoveryOptions" "signatureLength" "I" (.int p2)) (hp : ¬ p2 = (0 : Int32)) :
    MetFree l (⟨"com/example/libshingle/libshingle/model/DiscoveryOptions", "isExact", "()Z"⟩ : MethodName) (head1 (Jvm.Cond.code (⟨"com/example/libshingle/libshingle/model/DiscoveryOptions", "isExact", "()Z"⟩ : MethodName) prog_7_method_5_code 1 (some .boolean) :: ws) ({ frames := 0, cells := 0, slots := 0, locals := 0 } : Room)) (fun a U => a = #[(.ref a1)] ∧ Z.Warmed39 U.vm ∧ U.heap = h0) (fun _ _ _ _ _ => True) (fun _ U o U' => ∃ v L, o = .returned v ∧ Qxn Z a1 p2 h0 n0 v U'.heap L ∧ FrameEnd U o U' L ({ frames := 0, cells := 0, slots := 0, locals := 0 } : Room).cells ({ frames := 0, cells := 0, slots := 0, locals := 0 } : Room).slots) := by
  refine MetFree.of_bodySF (plainFor_of_name pn_3) hisR ?_
  intro p e s m args below meth c s₁ Bd hml0 hP hK
  obtain ⟨rfl, hZ, hh⟩ := hP
  have hx := Bd.exec
  have hby := Bd.bytes
  have hml : c.maxLocals = 1 := hml0
  have hown : s.vm.findClass "com/example/libshingle/libshingle/model/DiscoveryOptions" = some m.cls := findClass_of_methodNamed Bd.named
  have hnm := (name_of_methodNamed Bd.named Bd.method).1
  have X0 : Stand p l e ({ frames := 0, cells := 0, slots := 0, locals := 0 } : Room) s m #[(.ref a1)] below meth c s₁ [] 0 0 := Stand.of_body Bd
  have e0 : s₁.heap = h0 := by rw [← hh, Bd.state]; rfl
  have N0 := Fr.nil n0
  have pre0 : ∀ t, Steps p.tables e below (s₁.setTop (mkF m 0 #[.val (.ref a1)] [])) t → Steps p.tables e below (s₁.setTop (entryFrame m #[(.ref a1)] 1)) t := fun t k => castTop (ef_xn m a1) k
  have pre1 : ∀ t, Steps p.tables e below (s₁.setTop (mkF m 1 #[.val (.ref a1)] [(.ref a1)])) t → Steps p.tables e below (s₁.setTop (entryFrame m #[(.ref a1)] 1)) t := fun t kt => by
    refine pre0 _ ?_
    show Steps p.tables e below (s₁.setTop (mkF m 0 #[.val (.ref a1)] [])) _
    refine XS.aloadN X0.here hx rfl (hb hby d7_0) rfl rfl ?_
    exact kt
  obtain ⟨T2, X2, e2, st2⟩ := getF X0 hx hZ hown (host := "") (Or.inl (hw _ (List.mem_of_getElem? (i := 47) rfl))) Via.refl e0 Fs (g := (mkF m 1 #[.val (.ref a1)] [(.ref a1)])) rfl rfl (hb hby d7_1)
  have pre3 : ∀ t, Steps p.tables e below (T2.setTop (mkF m 4 #[.val (.ref a1)] [(.int p2)])) t → Steps p.tables e below (s₁.setTop (entryFrame m #[(.ref a1)] 1)) t := fun t kt => pre1 _ (st2 _ kt)
  have pre4 : ∀ t, Steps p.tables e below (T2.setTop (mkF m 12 #[.val (.ref a1)] [(.int (0 : Int32))])) t → Steps p.tables e below (s₁.setTop (entryFrame m #[(.ref a1)] 1)) t := fun t kt => by
    refine pre3 _ ?_
    show Steps p.tables e below (T2.setTop (mkF m 4 #[.val (.ref a1)] [(.int p2)])) _
    refine XS.ifYes X2.here hx rfl (pc0 := 4) (pc' := 11) rfl (hb hby d7_4) rfl ((if0 _ _).trans (feq (hp : ¬ (p2 = (0 : Int32)))).2) (by decide) (by decide) ?_
    show Steps p.tables e below (T2.setTop (mkF m 11 #[.val (.ref a1)] [])) _
    refine XS.iconst X2.here hx rfl (hb hby d7_11) ?_
    exact kt
  obtain ⟨fs, hr, hrun, hended, hW, hsame⟩ := X2.leave (v := (some (.int (0 : Int32)))) (fun h => by rw [Bd.returns] at h; cases h)
  refine ⟨_, _, pre4 _ ?_, hrun, hended, _, _, rfl, ?_, ⟨_, rfl⟩, hW, hsame.mono (by decide) (by decide)⟩
  · show Steps p.tables e below (T2.setTop (mkF m 12 #[.val (.ref a1)] [(.int (0 : Int32))])) _
    exact retN X2 hx (t := .boolean) Bd.returns (by simp) (hb hby d7_12) hr
  · show Qxn Z a1 p2 h0 n0 _ T2.heap _
    rw [e2]
    exact ⟨rfl, N0, rfl⟩
theorem pn_4 : plainName "com/example/libshingle/libshingle/model/DiscoveryOptionsIsExactPinLaw" = true := by first | (simp [plainName, overriddenIn]; done) | decide +kernel
theorem ef_0 (m : MethodId) (p0 : Int32) (p1 : Int32) (p2 : Int32) (p3 : Int32) (p4 : Int32) (q5 : Int64) : entryFrame m #[(.int p0), (.int p1), (.int p2), (.int p3), (.int p4), (.long q5)] maxLocals = (mkF m 0 #[.val (.int p0), .val (.int p1), .val (.int p2), .val (.int p3), .val (.int p4), .val (.long q5), .second, .unset, .unset, .unset, .unset, .unset, .unset, .unset, .unset, .unset, .unset, .unset] []) := by first | (simp [entryFrame, mkF, argsToLocals, Value.category, maxLocals]; done) | rfl
theorem pd_4 : parseMethodDescriptor "(II)I" = some ⟨[.int, .int], some .int⟩ := by decide +kernel
theorem pd_5 : parseMethodDescriptor "()Z" = some ⟨[], some .boolean⟩ := by decide +kernel
theorem pd_6 : parseMethodDescriptor "(Lcom/example/libshingle/libshingle/model/Shingling;ID)Lcom/example/libshingle/libshingle/model/DiscoveryOptions;" = some ⟨[(.object "com/example/libshingle/libshingle/model/Shingling"), .int, .double], some (.object "com/example/libshingle/libshingle/model/DiscoveryOptions")⟩ := by decide +kernel
def Q0 (Z : State) (p0 : Int32) (p1 : Int32) (p2 : Int32) (p3 : Int32) (p4 : Int32) (q5 : Int64) (aW : Addr) (aC : Addr) (h0 : Heap) (n0 : Nat) (v : Option Value) (h : Heap) (L : List Loc) : Prop := v = some (.int (1 : Int32)) ∧ Fr n0 L
set_option maxRecDepth 65536 in
set_option maxHeartbeats 40000000 in
theorem rm0 (l : Launch) (Z : State) (a0 : Array Value) (hw : ∀ d ∈ tables_1, d.before a0 Z = true) (ws : List Jvm.Cond) (p0 : Int32) (p1 : Int32) (p2 : Int32) (p3 : Int32) (p4 : Int32) (q5 : Int64) (aW : Addr) (aC : Addr) (h0 : Heap) (n0 : Nat) (O0 : Old Z n0 h0) (SW : Sta Z Z.heap "com/example/libshingle/libshingle/model/Shingling" "WORD" "Lcom/example/libshingle/libshingle/model/Shingling;" (.ref aW)) (SC : Sta Z Z.heap "com/example/libshingle/libshingle/model/Shingling" "CHARACTER" "Lcom/example/libshingle/libshingle/model/Shingling;" (.ref aC)) :
    MetFree l x (head1 (Jvm.Cond.code x code maxLocals ret :: ws) room_1) (fun a U => a = #[(.int p0), (.int p1), (.int p2), (.int p3), (.int p4), (.long q5)] ∧ Z.Warmed39 U.vm ∧ U.heap = h0) (fun _ _ _ _ _ => True) (fun _ U o U' => ∃ v L, o = .returned v ∧ Q0 Z p0 p1 p2 p3 p4 q5 aW aC h0 n0 v U'.heap L ∧ ReturnedEndW U o U' L room_1.cells room_1.slots) := by
  refine MetFree.of_bodySF (plainFor_of_name pn_4) hisR ?_
  intro p e s m args below meth c s₁ Bd hml0 hP hK
  obtain ⟨rfl, hZ, hh⟩ := hP
  have hx := Bd.exec
  have hby := Bd.bytes
  have hml : c.maxLocals = 18 := hml0
  have hown : s.vm.findClass "com/example/libshingle/libshingle/model/DiscoveryOptionsIsExactPinLaw" = some m.cls := findClass_of_methodNamed Bd.named
  have hnm := (name_of_methodNamed Bd.named Bd.method).1
  have X0 : Stand p l e room_1 (s.setVm s.vm) m #[(.int p0), (.int p1), (.int p2), (.int p3), (.int p4), (.long q5)] below meth c s₁ [] 0 0 := Stand.of_body Bd
  have e0 : s₁.heap = h0 := by rw [← hh, Bd.state]; rfl
  have N0 := Fr.nil n0
  have hS := (State.WarmedH.refl s).since s₁.heap.size
  have hk : s₁.heap.size ≤ h0.size := Nat.le_of_eq (congrArg Array.size e0)
  have wS : ∀ a ∈ Bundle.stringAtoms, a.before a0 Z = true := own_wS hw
  have Z0 : n0 ≤ h0.size := O0.1 ▸ O0.2.1
  have pre0 : ∀ t, Steps p.tables e below (s₁.setTop (mkF m 0 #[.val (.int p0), .val (.int p1), .val (.int p2), .val (.int p3), .val (.int p4), .val (.long q5), .second, .unset, .unset, .unset, .unset, .unset, .unset, .unset, .unset, .unset, .unset, .unset] [])) t → Steps p.tables e below (s₁.setTop (entryFrame m #[(.int p0), (.int p1), (.int p2), (.int p3), (.int p4), (.long q5)] maxLocals)) t := fun t k => castTop (ef_0 m p0 p1 p2 p3 p4 q5) k
  have pre1 : ∀ t, Steps p.tables e below (s₁.setTop (mkF m 5 #[.val (.int p0), .val (.int p1), .val (.int p2), .val (.int p3), .val (.int p4), .val (.long q5), .second, .unset, .unset, .unset, .unset, .unset, .unset, .unset, .unset, .unset, .unset, .unset] [(.int (((p0.toUInt32 >>> ((1 : Int32) &&& 31).toUInt32).toInt32) &&& (1 : Int32)))])) t → Steps p.tables e below (s₁.setTop (entryFrame m #[(.int p0), (.int p1), (.int p2), (.int p3), (.int p4), (.long q5)] maxLocals)) t := fun t kt => by
    refine pre0 _ ?_
    show Steps p.tables e below (s₁.setTop (mkF m 0 #[.val (.int p0), .val (.int p1), .val (.int p2), .val (.int p3), .val (.int p4), .val (.long q5), .second, .unset, .unset, .unset, .unset, .unset, .unset, .unset, .unset, .unset, .unset, .unset] [])) _
    refine XS.iloadN X0.here hx rfl (hb hby at_0) rfl ?_
    show Steps p.tables e below (s₁.setTop (mkF m 1 #[.val (.int p0), .val (.int p1), .val (.int p2), .val (.int p3), .val (.int p4), .val (.long q5), .second, .unset, .unset, .unset, .unset, .unset, .unset, .unset, .unset, .unset, .unset, .unset] [(.int p0)])) _
    refine XS.iconst X0.here hx rfl (hb hby at_1) ?_
    show Steps p.tables e below (s₁.setTop (mkF m 2 #[.val (.int p0), .val (.int p1), .val (.int p2), .val (.int p3), .val (.int p4), .val (.long q5), .second, .unset, .unset, .unset, .unset, .unset, .unset, .unset, .unset, .unset, .unset, .unset] [(.int (1 : Int32)), (.int p0)])) _
    refine XS.iushr X0.here hx rfl (hb hby at_2) rfl ?_
    show Steps p.tables e below (s₁.setTop (mkF m 3 #[.val (.int p0), .val (.int p1), .val (.int p2), .val (.int p3), .val (.int p4), .val (.long q5), .second, .unset, .unset, .unset, .unset, .unset, .unset, .unset, .unset, .unset, .unset, .unset] [(.int ((p0.toUInt32 >>> ((1 : Int32) &&& 31).toUInt32).toInt32))])) _
    refine XS.iconst X0.here hx rfl (hb hby at_3) ?_
    show Steps p.tables e below (s₁.setTop (mkF m 4 #[.val (.int p0), .val (.int p1), .val (.int p2), .val (.int p3), .val (.int p4), .val (.long q5), .second, .unset, .unset, .unset, .unset, .unset, .unset, .unset, .unset, .unset, .unset, .unset] [(.int (1 : Int32)), (.int ((p0.toUInt32 >>> ((1 : Int32) &&& 31).toUInt32).toInt32))])) _
    refine XS.iand X0.here hx rfl (hb hby at_4) rfl ?_
    exact kt
  by_cases c1 : (((p0.toUInt32 >>> ((1 : Int32) &&& 31).toUInt32).toInt32) &&& (1 : Int32)) = (0 : Int32)
  · have pre2 : ∀ t, Steps p.tables e below (s₁.setTop (mkF m 8 #[.val (.int p0), .val (.int p1), .val (.int p2), .val (.int p3), .val (.int p4), .val (.long q5), .second, .unset, .unset, .unset, .unset, .unset, .unset, .unset, .unset, .unset, .unset, .unset] [])) t → Steps p.tables e below (s₁.setTop (entryFrame m #[(.int p0), (.int p1), (.int p2), (.int p3), (.int p4), (.long q5)] maxLocals)) t := fun t kt => by
      refine pre1 _ ?_
      show Steps p.tables e below (s₁.setTop (mkF m 5 #[.val (.int p0), .val (.int p1), .val (.int p2), .val (.int p3), .val (.int p4), .val (.long q5), .second, .unset, .unset, .unset, .unset, .unset, .unset, .unset, .unset, .unset, .unset, .unset] [(.int (((p0.toUInt32 >>> ((1 : Int32) &&& 31).toUInt32).toInt32) &&& (1 : Int32)))])) _
      refine XS.ifNo X0.here hx rfl (hb hby at_5) rfl ((if0 _ _).trans (teq (c1 : (((p0.toUInt32 >>> ((1 : Int32) &&& 31).toUInt32).toInt32) &&& (1 : Int32)) = (0 : Int32))).2) ?_
      exact kt
    obtain ⟨T3, X3, e3, st3⟩ := getS2 X0 hx hZ hown (host := "") (Or.inl (hw _ (List.mem_of_getElem? (i := 0) rfl))) Via.refl e0 (SW.ext O0.2) (g := (mkF m 8 #[.val (.int p0), .val (.int p1), .val (.int p2), .val (.int p3), .val (.int p4), .val (.long q5), .second, .unset, .unset, .unset, .unset, .unset, .unset, .unset, .unset, .unset, .unset, .unset] [])) rfl (hb hby at_8)
    have pre4 : ∀ t, Steps p.tables e below (T3.setTop (mkF m 11 #[.val (.int p0), .val (.int p1), .val (.int p2), .val (.int p3), .val (.int p4), .val (.long q5), .second, .unset, .unset, .unset, .unset, .unset, .unset, .unset, .unset, .unset, .unset, .unset] [(.ref aW)])) t → Steps p.tables e below (s₁.setTop (entryFrame m #[(.int p0), (.int p1), (.int p2), (.int p3), (.int p4), (.long q5)] maxLocals)) t := fun t kt => pre2 _ (st3 _ kt)
    have pre5 : ∀ t, Steps p.tables e below (T3.setTop (mkF m 24 #[.val (.int p0), .val (.int p1), .val (.int p2), .val (.int p3), .val (.int p4), .val (.long q5), .second, .val (.ref aW), .unset, .unset, .unset, .unset, .unset, .unset, .unset, .unset, .unset, .unset] [(.int (p1 &&& (2147483647 : Int32))), (.int (1 : Int32))])) t → Steps p.tables e below (s₁.setTop (entryFrame m #[(.int p0), (.int p1), (.int p2), (.int p3), (.int p4), (.long q5)] maxLocals)) t := fun t kt => by
      refine pre4 _ ?_
      show Steps p.tables e below (T3.setTop (mkF m 11 #[.val (.int p0), .val (.int p1), .val (.int p2), .val (.int p3), .val (.int p4), .val (.long q5), .second, .unset, .unset, .unset, .unset, .unset, .unset, .unset, .unset, .unset, .unset, .unset] [(.ref aW)])) _
      refine XS.goto X3.here hx rfl (pc0 := 11) (pc' := 17) rfl (hb hby at_11) (by decide) (by decide) ?_
      show Steps p.tables e below (T3.setTop (mkF m 17 #[.val (.int p0), .val (.int p1), .val (.int p2), .val (.int p3), .val (.int p4), .val (.long q5), .second, .unset, .unset, .unset, .unset, .unset, .unset, .unset, .unset, .unset, .unset, .unset] [(.ref aW)])) _
      refine XS.astore X3.here hx rfl (hb hby at_17) rfl rfl (l' := #[.val (.int p0), .val (.int p1), .val (.int p2), .val (.int p3), .val (.int p4), .val (.long q5), .second, .val (.ref aW), .unset, .unset, .unset, .unset, .unset, .unset, .unset, .unset, .unset, .unset]) rfl ?_
      show Steps p.tables e below (T3.setTop (mkF m 19 #[.val (.int p0), .val (.int p1), .val (.int p2), .val (.int p3), .val (.int p4), .val (.long q5), .second, .val (.ref aW), .unset, .unset, .unset, .unset, .unset, .unset, .unset, .unset, .unset, .unset] [])) _
      refine XS.iconst X3.here hx rfl (hb hby at_19) ?_
      show Steps p.tables e below (T3.setTop (mkF m 20 #[.val (.int p0), .val (.int p1), .val (.int p2), .val (.int p3), .val (.int p4), .val (.long q5), .second, .val (.ref aW), .unset, .unset, .unset, .unset, .unset, .unset, .unset, .unset, .unset, .unset] [(.int (1 : Int32))])) _
      refine XS.iloadN X3.here hx rfl (hb hby at_20) rfl ?_
      show Steps p.tables e below (T3.setTop (mkF m 21 #[.val (.int p0), .val (.int p1), .val (.int p2), .val (.int p3), .val (.int p4), .val (.long q5), .second, .val (.ref aW), .unset, .unset, .unset, .unset, .unset, .unset, .unset, .unset, .unset, .unset] [(.int p1), (.int (1 : Int32))])) _
      refine X3.ldcInt hx hown (mvT hZ (hw _ (List.mem_of_getElem? (i := 3) rfl))) (g := (mkF m 21 #[.val (.int p0), .val (.int p1), .val (.int p2), .val (.int p3), .val (.int p4), .val (.long q5), .second, .val (.ref aW), .unset, .unset, .unset, .unset, .unset, .unset, .unset, .unset, .unset, .unset] [(.int p1), (.int (1 : Int32))])) rfl (hb hby at_21) _ ?_
      show Steps p.tables e below (T3.setTop (mkF m 23 #[.val (.int p0), .val (.int p1), .val (.int p2), .val (.int p3), .val (.int p4), .val (.long q5), .second, .val (.ref aW), .unset, .unset, .unset, .unset, .unset, .unset, .unset, .unset, .unset, .unset] [(.int (2147483647 : Int32)), (.int p1), (.int (1 : Int32))])) _
      refine XS.iand X3.here hx rfl (hb hby at_23) rfl ?_
      exact kt
    obtain ⟨_, _, ⟨T6, L6, kc6, nc6⟩, -, X6, ⟨Lc6, hQ6, l6, y6, z6⟩, st6⟩ := Jvm.LawKit.callS X3 hx (y := (⟨"java/lang/Math", "max", "(II)I"⟩ : MethodName)) hown (mvT hZ (hw _ (List.mem_of_getElem? (i := 4) rfl))) (mvT hZ (hw _ (List.mem_of_getElem? (i := 5) rfl))) (mvT hZ (hw _ (List.mem_of_getElem? (i := 6) rfl))) (mvT hZ (hw _ (List.mem_of_getElem? (i := 7) rfl))) (by decide) (backOf (W := 0) (rm1 l Z a0 hw [] (1 : Int32) (p1 &&& (2147483647 : Int32)) h0 n0 Z0) hZ (hw _ (List.mem_of_getElem? (i := 7) rfl)) (hw _ (List.mem_of_getElem? (i := 6) rfl)) (by decide) (by decide)) (g := (mkF m 24 #[.val (.int p0), .val (.int p1), .val (.int p2), .val (.int p3), .val (.int p4), .val (.long q5), .second, .val (.ref aW), .unset, .unset, .unset, .unset, .unset, .unset, .unset, .unset, .unset, .unset] [(.int (p1 &&& (2147483647 : Int32))), (.int (1 : Int32))])) rfl (by rw [hml]; rfl) (argsL := [(.int (1 : Int32)), (.int (p1 &&& (2147483647 : Int32)))]) (rest := []) (lenOf pd_4 rfl) rfl (by show 2 * 0 + _ ≤ _; exact Nat.le_of_eq rfl) (hb hby at_24) (fun _ _ => ⟨rfl, e3, (by decide : 0 + 0 ≤ _), (by decide : 0 + 0 ≤ _)⟩)
    dsimp only [Pt.U, Pt.locs, Pt.cells, Pt.slots] at X6 l6 y6 z6 st6 hQ6
    subst l6 y6 z6
    obtain ⟨rfl, N6q, he6⟩ := hQ6
    have N6 := Fr.app N0 N6q
    have pre7 : ∀ t, Steps p.tables e below (T6.setTop (mkF m 27 #[.val (.int p0), .val (.int p1), .val (.int p2), .val (.int p3), .val (.int p4), .val (.long q5), .second, .val (.ref aW), .unset, .unset, .unset, .unset, .unset, .unset, .unset, .unset, .unset, .unset] [(.int (own_max (1 : Int32) (p1 &&& (2147483647 : Int32))))])) t → Steps p.tables e below (s₁.setTop (entryFrame m #[(.int p0), (.int p1), (.int p2), (.int p3), (.int p4), (.long q5)] maxLocals)) t := fun t kt => pre5 _ (st6 _ kt)
    have pre8 : ∀ t, Steps p.tables e below (T6.setTop (mkF m 46 #[.val (.int p0), .val (.int p1), .val (.int p2), .val (.int p3), .val (.int p4), .val (.long q5), .second, .val (.ref aW), .val (.int (own_k p1)), .val (.double (own_th p2)), .second, .unset, .unset, .unset, .unset, .unset, .unset, .unset] [(.int (p0 &&& (1 : Int32)))])) t → Steps p.tables e below (s₁.setTop (entryFrame m #[(.int p0), (.int p1), (.int p2), (.int p3), (.int p4), (.long q5)] maxLocals)) t := fun t kt => by
      refine pre7 _ ?_
      show Steps p.tables e below (T6.setTop (mkF m 27 #[.val (.int p0), .val (.int p1), .val (.int p2), .val (.int p3), .val (.int p4), .val (.long q5), .second, .val (.ref aW), .unset, .unset, .unset, .unset, .unset, .unset, .unset, .unset, .unset, .unset] [(.int (own_k p1))])) _
      show Steps p.tables e below (T6.setTop (mkF m 27 #[.val (.int p0), .val (.int p1), .val (.int p2), .val (.int p3), .val (.int p4), .val (.long q5), .second, .val (.ref aW), .unset, .unset, .unset, .unset, .unset, .unset, .unset, .unset, .unset, .unset] [(.int (own_k p1))])) _
      refine XS.istore X6.here hx rfl (hb hby at_27) rfl (l' := #[.val (.int p0), .val (.int p1), .val (.int p2), .val (.int p3), .val (.int p4), .val (.long q5), .second, .val (.ref aW), .val (.int (own_k p1)), .unset, .unset, .unset, .unset, .unset, .unset, .unset, .unset, .unset]) rfl ?_
      show Steps p.tables e below (T6.setTop (mkF m 29 #[.val (.int p0), .val (.int p1), .val (.int p2), .val (.int p3), .val (.int p4), .val (.long q5), .second, .val (.ref aW), .val (.int (own_k p1)), .unset, .unset, .unset, .unset, .unset, .unset, .unset, .unset, .unset] [])) _
      refine XS.iloadN X6.here hx rfl (hb hby at_29) rfl ?_
      show Steps p.tables e below (T6.setTop (mkF m 30 #[.val (.int p0), .val (.int p1), .val (.int p2), .val (.int p3), .val (.int p4), .val (.long q5), .second, .val (.ref aW), .val (.int (own_k p1)), .unset, .unset, .unset, .unset, .unset, .unset, .unset, .unset, .unset] [(.int p2)])) _
      refine XS.sipush X6.here hx rfl (hb hby at_30) ?_
      show Steps p.tables e below (T6.setTop (mkF m 33 #[.val (.int p0), .val (.int p1), .val (.int p2), .val (.int p3), .val (.int p4), .val (.long q5), .second, .val (.ref aW), .val (.int (own_k p1)), .unset, .unset, .unset, .unset, .unset, .unset, .unset, .unset, .unset] [(.int (255 : Int32)), (.int p2)])) _
      refine XS.iand X6.here hx rfl (hb hby at_33) rfl ?_
      show Steps p.tables e below (T6.setTop (mkF m 34 #[.val (.int p0), .val (.int p1), .val (.int p2), .val (.int p3), .val (.int p4), .val (.long q5), .second, .val (.ref aW), .val (.int (own_k p1)), .unset, .unset, .unset, .unset, .unset, .unset, .unset, .unset, .unset] [(.int (p2 &&& (255 : Int32)))])) _
      refine XS.iconst X6.here hx rfl (hb hby at_34) ?_
      show Steps p.tables e below (T6.setTop (mkF m 35 #[.val (.int p0), .val (.int p1), .val (.int p2), .val (.int p3), .val (.int p4), .val (.long q5), .second, .val (.ref aW), .val (.int (own_k p1)), .unset, .unset, .unset, .unset, .unset, .unset, .unset, .unset, .unset] [(.int (1 : Int32)), (.int (p2 &&& (255 : Int32)))])) _
      refine XS.iadd X6.here hx rfl (hb hby at_35) rfl ?_
      show Steps p.tables e below (T6.setTop (mkF m 36 #[.val (.int p0), .val (.int p1), .val (.int p2), .val (.int p3), .val (.int p4), .val (.long q5), .second, .val (.ref aW), .val (.int (own_k p1)), .unset, .unset, .unset, .unset, .unset, .unset, .unset, .unset, .unset] [(.int (own_ti p2))])) _
      show Steps p.tables e below (T6.setTop (mkF m 36 #[.val (.int p0), .val (.int p1), .val (.int p2), .val (.int p3), .val (.int p4), .val (.long q5), .second, .val (.ref aW), .val (.int (own_k p1)), .unset, .unset, .unset, .unset, .unset, .unset, .unset, .unset, .unset] [(.int (own_ti p2))])) _
      refine XS.i2dS X6.here hx rfl (hb hby at_36) rfl rfl ?_
      show Steps p.tables e below (T6.setTop (mkF m 37 #[.val (.int p0), .val (.int p1), .val (.int p2), .val (.int p3), .val (.int p4), .val (.long q5), .second, .val (.ref aW), .val (.int (own_k p1)), .unset, .unset, .unset, .unset, .unset, .unset, .unset, .unset, .unset] [(.double (FP.i2d (own_ti p2)))])) _
      refine X6.ldc2DoubleC hx hown (mvT hZ (hw _ (List.mem_of_getElem? (i := 8) rfl))) (g := (mkF m 37 #[.val (.int p0), .val (.int p1), .val (.int p2), .val (.int p3), .val (.int p4), .val (.long q5), .second, .val (.ref aW), .val (.int (own_k p1)), .unset, .unset, .unset, .unset, .unset, .unset, .unset, .unset, .unset] [(.double (FP.i2d (own_ti p2)))])) rfl (hb hby at_37) _ ?_
      show Steps p.tables e below (T6.setTop (mkF m 40 #[.val (.int p0), .val (.int p1), .val (.int p2), .val (.int p3), .val (.int p4), .val (.long q5), .second, .val (.ref aW), .val (.int (own_k p1)), .unset, .unset, .unset, .unset, .unset, .unset, .unset, .unset, .unset] [(.double (4643211215818981376 : UInt64)), (.double (FP.i2d (own_ti p2)))])) _
      refine XS.ddivS X6.here hx rfl (hb hby at_40) rfl (own_th_nn p2) rfl ?_
      show Steps p.tables e below (T6.setTop (mkF m 41 #[.val (.int p0), .val (.int p1), .val (.int p2), .val (.int p3), .val (.int p4), .val (.long q5), .second, .val (.ref aW), .val (.int (own_k p1)), .unset, .unset, .unset, .unset, .unset, .unset, .unset, .unset, .unset] [(.double (own_th p2))])) _
      refine XS.dstore X6.here hx rfl (hb hby at_41) rfl (l' := #[.val (.int p0), .val (.int p1), .val (.int p2), .val (.int p3), .val (.int p4), .val (.long q5), .second, .val (.ref aW), .val (.int (own_k p1)), .val (.double (own_th p2)), .second, .unset, .unset, .unset, .unset, .unset, .unset, .unset]) rfl ?_
      show Steps p.tables e below (T6.setTop (mkF m 43 #[.val (.int p0), .val (.int p1), .val (.int p2), .val (.int p3), .val (.int p4), .val (.long q5), .second, .val (.ref aW), .val (.int (own_k p1)), .val (.double (own_th p2)), .second, .unset, .unset, .unset, .unset, .unset, .unset, .unset] [])) _
      refine XS.iloadN X6.here hx rfl (hb hby at_43) rfl ?_
      show Steps p.tables e below (T6.setTop (mkF m 44 #[.val (.int p0), .val (.int p1), .val (.int p2), .val (.int p3), .val (.int p4), .val (.long q5), .second, .val (.ref aW), .val (.int (own_k p1)), .val (.double (own_th p2)), .second, .unset, .unset, .unset, .unset, .unset, .unset, .unset] [(.int p0)])) _
      refine XS.iconst X6.here hx rfl (hb hby at_44) ?_
      show Steps p.tables e below (T6.setTop (mkF m 45 #[.val (.int p0), .val (.int p1), .val (.int p2), .val (.int p3), .val (.int p4), .val (.long q5), .second, .val (.ref aW), .val (.int (own_k p1)), .val (.double (own_th p2)), .second, .unset, .unset, .unset, .unset, .unset, .unset, .unset] [(.int (1 : Int32)), (.int p0)])) _
      refine XS.iand X6.here hx rfl (hb hby at_45) rfl ?_
      exact kt
    by_cases c2 : (p0 &&& (1 : Int32)) = (0 : Int32)
    · have pre9 : ∀ t, Steps p.tables e below (T6.setTop (mkF m 164 #[.val (.int p0), .val (.int p1), .val (.int p2), .val (.int p3), .val (.int p4), .val (.long q5), .second, .val (.ref aW), .val (.int (own_k p1)), .val (.double (own_th p2)), .second, .val (.int (0 : Int32)), .val (.int (own_ba p3)), .val (.int (own_ro p3)), .val (.int (own_pr p3)), .val (.int (own_rm p3)), .val (.int (own_sg p3 p4)), .unset] [])) t → Steps p.tables e below (s₁.setTop (entryFrame m #[(.int p0), (.int p1), (.int p2), (.int p3), (.int p4), (.long q5)] maxLocals)) t := fun t kt => by
        refine pre8 _ ?_
        show Steps p.tables e below (T6.setTop (mkF m 46 #[.val (.int p0), .val (.int p1), .val (.int p2), .val (.int p3), .val (.int p4), .val (.long q5), .second, .val (.ref aW), .val (.int (own_k p1)), .val (.double (own_th p2)), .second, .unset, .unset, .unset, .unset, .unset, .unset, .unset] [(.int (p0 &&& (1 : Int32)))])) _
        refine XS.ifYes X6.here hx rfl (pc0 := 46) (pc' := 53) rfl (hb hby at_46) rfl ((if0 _ _).trans (teq (c2 : (p0 &&& (1 : Int32)) = (0 : Int32))).1) (by decide) (by decide) ?_
        show Steps p.tables e below (T6.setTop (mkF m 53 #[.val (.int p0), .val (.int p1), .val (.int p2), .val (.int p3), .val (.int p4), .val (.long q5), .second, .val (.ref aW), .val (.int (own_k p1)), .val (.double (own_th p2)), .second, .unset, .unset, .unset, .unset, .unset, .unset, .unset] [])) _
        refine XS.iconst X6.here hx rfl (hb hby at_53) ?_
        show Steps p.tables e below (T6.setTop (mkF m 54 #[.val (.int p0), .val (.int p1), .val (.int p2), .val (.int p3), .val (.int p4), .val (.long q5), .second, .val (.ref aW), .val (.int (own_k p1)), .val (.double (own_th p2)), .second, .unset, .unset, .unset, .unset, .unset, .unset, .unset] [(.int (0 : Int32))])) _
        refine XS.istore X6.here hx rfl (hb hby at_54) rfl (l' := #[.val (.int p0), .val (.int p1), .val (.int p2), .val (.int p3), .val (.int p4), .val (.long q5), .second, .val (.ref aW), .val (.int (own_k p1)), .val (.double (own_th p2)), .second, .val (.int (0 : Int32)), .unset, .unset, .unset, .unset, .unset, .unset]) rfl ?_
        show Steps p.tables e below (T6.setTop (mkF m 56 #[.val (.int p0), .val (.int p1), .val (.int p2), .val (.int p3), .val (.int p4), .val (.long q5), .second, .val (.ref aW), .val (.int (own_k p1)), .val (.double (own_th p2)), .second, .val (.int (0 : Int32)), .unset, .unset, .unset, .unset, .unset, .unset] [])) _
        refine XS.iload X6.here hx rfl (hb hby at_56) rfl ?_
        show Steps p.tables e below (T6.setTop (mkF m 58 #[.val (.int p0), .val (.int p1), .val (.int p2), .val (.int p3), .val (.int p4), .val (.long q5), .second, .val (.ref aW), .val (.int (own_k p1)), .val (.double (own_th p2)), .second, .val (.int (0 : Int32)), .unset, .unset, .unset, .unset, .unset, .unset] [(.int (0 : Int32))])) _
        refine XS.ifYes X6.here hx rfl (pc0 := 58) (pc' := 114) rfl (hb hby at_58) rfl ((if0 _ _).trans (teq (by decide : (0 : Int32) = (0 : Int32))).1) (by decide) (by decide) ?_
        show Steps p.tables e below (T6.setTop (mkF m 114 #[.val (.int p0), .val (.int p1), .val (.int p2), .val (.int p3), .val (.int p4), .val (.long q5), .second, .val (.ref aW), .val (.int (own_k p1)), .val (.double (own_th p2)), .second, .val (.int (0 : Int32)), .unset, .unset, .unset, .unset, .unset, .unset] [])) _
        refine XS.iloadN X6.here hx rfl (hb hby at_114) rfl ?_
        show Steps p.tables e below (T6.setTop (mkF m 115 #[.val (.int p0), .val (.int p1), .val (.int p2), .val (.int p3), .val (.int p4), .val (.long q5), .second, .val (.ref aW), .val (.int (own_k p1)), .val (.double (own_th p2)), .second, .val (.int (0 : Int32)), .unset, .unset, .unset, .unset, .unset, .unset] [(.int p3)])) _
        refine XS.sipush X6.here hx rfl (hb hby at_115) ?_
        show Steps p.tables e below (T6.setTop (mkF m 118 #[.val (.int p0), .val (.int p1), .val (.int p2), .val (.int p3), .val (.int p4), .val (.long q5), .second, .val (.ref aW), .val (.int (own_k p1)), .val (.double (own_th p2)), .second, .val (.int (0 : Int32)), .unset, .unset, .unset, .unset, .unset, .unset] [(.int (32767 : Int32)), (.int p3)])) _
        refine XS.iand X6.here hx rfl (hb hby at_118) rfl ?_
        show Steps p.tables e below (T6.setTop (mkF m 119 #[.val (.int p0), .val (.int p1), .val (.int p2), .val (.int p3), .val (.int p4), .val (.long q5), .second, .val (.ref aW), .val (.int (own_k p1)), .val (.double (own_th p2)), .second, .val (.int (0 : Int32)), .unset, .unset, .unset, .unset, .unset, .unset] [(.int (p3 &&& (32767 : Int32)))])) _
        refine XS.iconst X6.here hx rfl (hb hby at_119) ?_
        show Steps p.tables e below (T6.setTop (mkF m 120 #[.val (.int p0), .val (.int p1), .val (.int p2), .val (.int p3), .val (.int p4), .val (.long q5), .second, .val (.ref aW), .val (.int (own_k p1)), .val (.double (own_th p2)), .second, .val (.int (0 : Int32)), .unset, .unset, .unset, .unset, .unset, .unset] [(.int (1 : Int32)), (.int (p3 &&& (32767 : Int32)))])) _
        refine XS.iadd X6.here hx rfl (hb hby at_120) rfl ?_
        show Steps p.tables e below (T6.setTop (mkF m 121 #[.val (.int p0), .val (.int p1), .val (.int p2), .val (.int p3), .val (.int p4), .val (.long q5), .second, .val (.ref aW), .val (.int (own_k p1)), .val (.double (own_th p2)), .second, .val (.int (0 : Int32)), .unset, .unset, .unset, .unset, .unset, .unset] [(.int (own_ba p3))])) _
        show Steps p.tables e below (T6.setTop (mkF m 121 #[.val (.int p0), .val (.int p1), .val (.int p2), .val (.int p3), .val (.int p4), .val (.long q5), .second, .val (.ref aW), .val (.int (own_k p1)), .val (.double (own_th p2)), .second, .val (.int (0 : Int32)), .unset, .unset, .unset, .unset, .unset, .unset] [(.int (own_ba p3))])) _
        refine XS.istore X6.here hx rfl (hb hby at_121) rfl (l' := #[.val (.int p0), .val (.int p1), .val (.int p2), .val (.int p3), .val (.int p4), .val (.long q5), .second, .val (.ref aW), .val (.int (own_k p1)), .val (.double (own_th p2)), .second, .val (.int (0 : Int32)), .val (.int (own_ba p3)), .unset, .unset, .unset, .unset, .unset]) rfl ?_
        show Steps p.tables e below (T6.setTop (mkF m 123 #[.val (.int p0), .val (.int p1), .val (.int p2), .val (.int p3), .val (.int p4), .val (.long q5), .second, .val (.ref aW), .val (.int (own_k p1)), .val (.double (own_th p2)), .second, .val (.int (0 : Int32)), .val (.int (own_ba p3)), .unset, .unset, .unset, .unset, .unset] [])) _
        refine XS.iloadN X6.here hx rfl (hb hby at_123) rfl ?_
        show Steps p.tables e below (T6.setTop (mkF m 124 #[.val (.int p0), .val (.int p1), .val (.int p2), .val (.int p3), .val (.int p4), .val (.long q5), .second, .val (.ref aW), .val (.int (own_k p1)), .val (.double (own_th p2)), .second, .val (.int (0 : Int32)), .val (.int (own_ba p3)), .unset, .unset, .unset, .unset, .unset] [(.int p3)])) _
        refine XS.bipush X6.here hx rfl (hb hby at_124) ?_
        show Steps p.tables e below (T6.setTop (mkF m 126 #[.val (.int p0), .val (.int p1), .val (.int p2), .val (.int p3), .val (.int p4), .val (.long q5), .second, .val (.ref aW), .val (.int (own_k p1)), .val (.double (own_th p2)), .second, .val (.int (0 : Int32)), .val (.int (own_ba p3)), .unset, .unset, .unset, .unset, .unset] [(.int (16 : Int32)), (.int p3)])) _
        refine XS.iushr X6.here hx rfl (hb hby at_126) rfl ?_
        show Steps p.tables e below (T6.setTop (mkF m 127 #[.val (.int p0), .val (.int p1), .val (.int p2), .val (.int p3), .val (.int p4), .val (.long q5), .second, .val (.ref aW), .val (.int (own_k p1)), .val (.double (own_th p2)), .second, .val (.int (0 : Int32)), .val (.int (own_ba p3)), .unset, .unset, .unset, .unset, .unset] [(.int ((p3.toUInt32 >>> ((16 : Int32) &&& 31).toUInt32).toInt32))])) _
        refine XS.sipush X6.here hx rfl (hb hby at_127) ?_
        show Steps p.tables e below (T6.setTop (mkF m 130 #[.val (.int p0), .val (.int p1), .val (.int p2), .val (.int p3), .val (.int p4), .val (.long q5), .second, .val (.ref aW), .val (.int (own_k p1)), .val (.double (own_th p2)), .second, .val (.int (0 : Int32)), .val (.int (own_ba p3)), .unset, .unset, .unset, .unset, .unset] [(.int (32767 : Int32)), (.int ((p3.toUInt32 >>> ((16 : Int32) &&& 31).toUInt32).toInt32))])) _
        refine XS.iand X6.here hx rfl (hb hby at_130) rfl ?_
        show Steps p.tables e below (T6.setTop (mkF m 131 #[.val (.int p0), .val (.int p1), .val (.int p2), .val (.int p3), .val (.int p4), .val (.long q5), .second, .val (.ref aW), .val (.int (own_k p1)), .val (.double (own_th p2)), .second, .val (.int (0 : Int32)), .val (.int (own_ba p3)), .unset, .unset, .unset, .unset, .unset] [(.int (((p3.toUInt32 >>> ((16 : Int32) &&& 31).toUInt32).toInt32) &&& (32767 : Int32)))])) _
        refine XS.iconst X6.here hx rfl (hb hby at_131) ?_
        show Steps p.tables e below (T6.setTop (mkF m 132 #[.val (.int p0), .val (.int p1), .val (.int p2), .val (.int p3), .val (.int p4), .val (.long q5), .second, .val (.ref aW), .val (.int (own_k p1)), .val (.double (own_th p2)), .second, .val (.int (0 : Int32)), .val (.int (own_ba p3)), .unset, .unset, .unset, .unset, .unset] [(.int (1 : Int32)), (.int (((p3.toUInt32 >>> ((16 : Int32) &&& 31).toUInt32).toInt32) &&& (32767 : Int32)))])) _
        refine XS.iadd X6.here hx rfl (hb hby at_132) rfl ?_
        show Steps p.tables e below (T6.setTop (mkF m 133 #[.val (.int p0), .val (.int p1), .val (.int p2), .val (.int p3), .val (.int p4), .val (.long q5), .second, .val (.ref aW), .val (.int (own_k p1)), .val (.double (own_th p2)), .second, .val (.int (0 : Int32)), .val (.int (own_ba p3)), .unset, .unset, .unset, .unset, .unset] [(.int (own_ro p3))])) _
        show Steps p.tables e below (T6.setTop (mkF m 133 #[.val (.int p0), .val (.int p1), .val (.int p2), .val (.int p3), .val (.int p4), .val (.long q5), .second, .val (.ref aW), .val (.int (own_k p1)), .val (.double (own_th p2)), .second, .val (.int (0 : Int32)), .val (.int (own_ba p3)), .unset, .unset, .unset, .unset, .unset] [(.int (own_ro p3))])) _
        refine XS.istore X6.here hx rfl (hb hby at_133) rfl (l' := #[.val (.int p0), .val (.int p1), .val (.int p2), .val (.int p3), .val (.int p4), .val (.long q5), .second, .val (.ref aW), .val (.int (own_k p1)), .val (.double (own_th p2)), .second, .val (.int (0 : Int32)), .val (.int (own_ba p3)), .val (.int (own_ro p3)), .unset, .unset, .unset, .unset]) rfl ?_
        show Steps p.tables e below (T6.setTop (mkF m 135 #[.val (.int p0), .val (.int p1), .val (.int p2), .val (.int p3), .val (.int p4), .val (.long q5), .second, .val (.ref aW), .val (.int (own_k p1)), .val (.double (own_th p2)), .second, .val (.int (0 : Int32)), .val (.int (own_ba p3)), .val (.int (own_ro p3)), .unset, .unset, .unset, .unset] [])) _
        refine XS.iload X6.here hx rfl (hb hby at_135) rfl ?_
        show Steps p.tables e below (T6.setTop (mkF m 137 #[.val (.int p0), .val (.int p1), .val (.int p2), .val (.int p3), .val (.int p4), .val (.long q5), .second, .val (.ref aW), .val (.int (own_k p1)), .val (.double (own_th p2)), .second, .val (.int (0 : Int32)), .val (.int (own_ba p3)), .val (.int (own_ro p3)), .unset, .unset, .unset, .unset] [(.int (own_ba p3))])) _
        refine XS.iload X6.here hx rfl (hb hby at_137) rfl ?_
        show Steps p.tables e below (T6.setTop (mkF m 139 #[.val (.int p0), .val (.int p1), .val (.int p2), .val (.int p3), .val (.int p4), .val (.long q5), .second, .val (.ref aW), .val (.int (own_k p1)), .val (.double (own_th p2)), .second, .val (.int (0 : Int32)), .val (.int (own_ba p3)), .val (.int (own_ro p3)), .unset, .unset, .unset, .unset] [(.int (own_ro p3)), (.int (own_ba p3))])) _
        refine XS.imul X6.here hx rfl (hb hby at_139) rfl ?_
        show Steps p.tables e below (T6.setTop (mkF m 140 #[.val (.int p0), .val (.int p1), .val (.int p2), .val (.int p3), .val (.int p4), .val (.long q5), .second, .val (.ref aW), .val (.int (own_k p1)), .val (.double (own_th p2)), .second, .val (.int (0 : Int32)), .val (.int (own_ba p3)), .val (.int (own_ro p3)), .unset, .unset, .unset, .unset] [(.int (own_pr p3))])) _
        show Steps p.tables e below (T6.setTop (mkF m 140 #[.val (.int p0), .val (.int p1), .val (.int p2), .val (.int p3), .val (.int p4), .val (.long q5), .second, .val (.ref aW), .val (.int (own_k p1)), .val (.double (own_th p2)), .second, .val (.int (0 : Int32)), .val (.int (own_ba p3)), .val (.int (own_ro p3)), .unset, .unset, .unset, .unset] [(.int (own_pr p3))])) _
        refine XS.istore X6.here hx rfl (hb hby at_140) rfl (l' := #[.val (.int p0), .val (.int p1), .val (.int p2), .val (.int p3), .val (.int p4), .val (.long q5), .second, .val (.ref aW), .val (.int (own_k p1)), .val (.double (own_th p2)), .second, .val (.int (0 : Int32)), .val (.int (own_ba p3)), .val (.int (own_ro p3)), .val (.int (own_pr p3)), .unset, .unset, .unset]) rfl ?_
        show Steps p.tables e below (T6.setTop (mkF m 142 #[.val (.int p0), .val (.int p1), .val (.int p2), .val (.int p3), .val (.int p4), .val (.long q5), .second, .val (.ref aW), .val (.int (own_k p1)), .val (.double (own_th p2)), .second, .val (.int (0 : Int32)), .val (.int (own_ba p3)), .val (.int (own_ro p3)), .val (.int (own_pr p3)), .unset, .unset, .unset] [])) _
        refine X6.ldcInt hx hown (mvT hZ (hw _ (List.mem_of_getElem? (i := 3) rfl))) (g := (mkF m 142 #[.val (.int p0), .val (.int p1), .val (.int p2), .val (.int p3), .val (.int p4), .val (.long q5), .second, .val (.ref aW), .val (.int (own_k p1)), .val (.double (own_th p2)), .second, .val (.int (0 : Int32)), .val (.int (own_ba p3)), .val (.int (own_ro p3)), .val (.int (own_pr p3)), .unset, .unset, .unset] [])) rfl (hb hby at_142) _ ?_
        show Steps p.tables e below (T6.setTop (mkF m 144 #[.val (.int p0), .val (.int p1), .val (.int p2), .val (.int p3), .val (.int p4), .val (.long q5), .second, .val (.ref aW), .val (.int (own_k p1)), .val (.double (own_th p2)), .second, .val (.int (0 : Int32)), .val (.int (own_ba p3)), .val (.int (own_ro p3)), .val (.int (own_pr p3)), .unset, .unset, .unset] [(.int (2147483647 : Int32))])) _
        refine XS.iload X6.here hx rfl (hb hby at_144) rfl ?_
        show Steps p.tables e below (T6.setTop (mkF m 146 #[.val (.int p0), .val (.int p1), .val (.int p2), .val (.int p3), .val (.int p4), .val (.long q5), .second, .val (.ref aW), .val (.int (own_k p1)), .val (.double (own_th p2)), .second, .val (.int (0 : Int32)), .val (.int (own_ba p3)), .val (.int (own_ro p3)), .val (.int (own_pr p3)), .unset, .unset, .unset] [(.int (own_pr p3)), (.int (2147483647 : Int32))])) _
        refine XS.isub X6.here hx rfl (hb hby at_146) rfl ?_
        show Steps p.tables e below (T6.setTop (mkF m 147 #[.val (.int p0), .val (.int p1), .val (.int p2), .val (.int p3), .val (.int p4), .val (.long q5), .second, .val (.ref aW), .val (.int (own_k p1)), .val (.double (own_th p2)), .second, .val (.int (0 : Int32)), .val (.int (own_ba p3)), .val (.int (own_ro p3)), .val (.int (own_pr p3)), .unset, .unset, .unset] [(.int ((2147483647 : Int32) - (own_pr p3)))])) _
        refine XS.iconst X6.here hx rfl (hb hby at_147) ?_
        show Steps p.tables e below (T6.setTop (mkF m 148 #[.val (.int p0), .val (.int p1), .val (.int p2), .val (.int p3), .val (.int p4), .val (.long q5), .second, .val (.ref aW), .val (.int (own_k p1)), .val (.double (own_th p2)), .second, .val (.int (0 : Int32)), .val (.int (own_ba p3)), .val (.int (own_ro p3)), .val (.int (own_pr p3)), .unset, .unset, .unset] [(.int (1 : Int32)), (.int ((2147483647 : Int32) - (own_pr p3)))])) _
        refine XS.iadd X6.here hx rfl (hb hby at_148) rfl ?_
        show Steps p.tables e below (T6.setTop (mkF m 149 #[.val (.int p0), .val (.int p1), .val (.int p2), .val (.int p3), .val (.int p4), .val (.long q5), .second, .val (.ref aW), .val (.int (own_k p1)), .val (.double (own_th p2)), .second, .val (.int (0 : Int32)), .val (.int (own_ba p3)), .val (.int (own_ro p3)), .val (.int (own_pr p3)), .unset, .unset, .unset] [(.int (own_rm p3))])) _
        show Steps p.tables e below (T6.setTop (mkF m 149 #[.val (.int p0), .val (.int p1), .val (.int p2), .val (.int p3), .val (.int p4), .val (.long q5), .second, .val (.ref aW), .val (.int (own_k p1)), .val (.double (own_th p2)), .second, .val (.int (0 : Int32)), .val (.int (own_ba p3)), .val (.int (own_ro p3)), .val (.int (own_pr p3)), .unset, .unset, .unset] [(.int (own_rm p3))])) _
        refine XS.istore X6.here hx rfl (hb hby at_149) rfl (l' := #[.val (.int p0), .val (.int p1), .val (.int p2), .val (.int p3), .val (.int p4), .val (.long q5), .second, .val (.ref aW), .val (.int (own_k p1)), .val (.double (own_th p2)), .second, .val (.int (0 : Int32)), .val (.int (own_ba p3)), .val (.int (own_ro p3)), .val (.int (own_pr p3)), .val (.int (own_rm p3)), .unset, .unset]) rfl ?_
        show Steps p.tables e below (T6.setTop (mkF m 151 #[.val (.int p0), .val (.int p1), .val (.int p2), .val (.int p3), .val (.int p4), .val (.long q5), .second, .val (.ref aW), .val (.int (own_k p1)), .val (.double (own_th p2)), .second, .val (.int (0 : Int32)), .val (.int (own_ba p3)), .val (.int (own_ro p3)), .val (.int (own_pr p3)), .val (.int (own_rm p3)), .unset, .unset] [])) _
        refine XS.iload X6.here hx rfl (hb hby at_151) rfl ?_
        show Steps p.tables e below (T6.setTop (mkF m 153 #[.val (.int p0), .val (.int p1), .val (.int p2), .val (.int p3), .val (.int p4), .val (.long q5), .second, .val (.ref aW), .val (.int (own_k p1)), .val (.double (own_th p2)), .second, .val (.int (0 : Int32)), .val (.int (own_ba p3)), .val (.int (own_ro p3)), .val (.int (own_pr p3)), .val (.int (own_rm p3)), .unset, .unset] [(.int (own_pr p3))])) _
        refine XS.iload X6.here hx rfl (hb hby at_153) rfl ?_
        show Steps p.tables e below (T6.setTop (mkF m 155 #[.val (.int p0), .val (.int p1), .val (.int p2), .val (.int p3), .val (.int p4), .val (.long q5), .second, .val (.ref aW), .val (.int (own_k p1)), .val (.double (own_th p2)), .second, .val (.int (0 : Int32)), .val (.int (own_ba p3)), .val (.int (own_ro p3)), .val (.int (own_pr p3)), .val (.int (own_rm p3)), .unset, .unset] [(.int p4), (.int (own_pr p3))])) _
        refine X6.ldcInt hx hown (mvT hZ (hw _ (List.mem_of_getElem? (i := 3) rfl))) (g := (mkF m 155 #[.val (.int p0), .val (.int p1), .val (.int p2), .val (.int p3), .val (.int p4), .val (.long q5), .second, .val (.ref aW), .val (.int (own_k p1)), .val (.double (own_th p2)), .second, .val (.int (0 : Int32)), .val (.int (own_ba p3)), .val (.int (own_ro p3)), .val (.int (own_pr p3)), .val (.int (own_rm p3)), .unset, .unset] [(.int p4), (.int (own_pr p3))])) rfl (hb hby at_155) _ ?_
        show Steps p.tables e below (T6.setTop (mkF m 157 #[.val (.int p0), .val (.int p1), .val (.int p2), .val (.int p3), .val (.int p4), .val (.long q5), .second, .val (.ref aW), .val (.int (own_k p1)), .val (.double (own_th p2)), .second, .val (.int (0 : Int32)), .val (.int (own_ba p3)), .val (.int (own_ro p3)), .val (.int (own_pr p3)), .val (.int (own_rm p3)), .unset, .unset] [(.int (2147483647 : Int32)), (.int p4), (.int (own_pr p3))])) _
        refine XS.iand X6.here hx rfl (hb hby at_157) rfl ?_
        show Steps p.tables e below (T6.setTop (mkF m 158 #[.val (.int p0), .val (.int p1), .val (.int p2), .val (.int p3), .val (.int p4), .val (.long q5), .second, .val (.ref aW), .val (.int (own_k p1)), .val (.double (own_th p2)), .second, .val (.int (0 : Int32)), .val (.int (own_ba p3)), .val (.int (own_ro p3)), .val (.int (own_pr p3)), .val (.int (own_rm p3)), .unset, .unset] [(.int (p4 &&& (2147483647 : Int32))), (.int (own_pr p3))])) _
        refine XS.iload X6.here hx rfl (hb hby at_158) rfl ?_
        show Steps p.tables e below (T6.setTop (mkF m 160 #[.val (.int p0), .val (.int p1), .val (.int p2), .val (.int p3), .val (.int p4), .val (.long q5), .second, .val (.ref aW), .val (.int (own_k p1)), .val (.double (own_th p2)), .second, .val (.int (0 : Int32)), .val (.int (own_ba p3)), .val (.int (own_ro p3)), .val (.int (own_pr p3)), .val (.int (own_rm p3)), .unset, .unset] [(.int (own_rm p3)), (.int (p4 &&& (2147483647 : Int32))), (.int (own_pr p3))])) _
        refine Jvm.RoadKit.iremM X6 hx rfl (hb hby at_160) rfl (own_rm_nz p3) ?_
        show Steps p.tables e below (T6.setTop (mkF m 161 #[.val (.int p0), .val (.int p1), .val (.int p2), .val (.int p3), .val (.int p4), .val (.long q5), .second, .val (.ref aW), .val (.int (own_k p1)), .val (.double (own_th p2)), .second, .val (.int (0 : Int32)), .val (.int (own_ba p3)), .val (.int (own_ro p3)), .val (.int (own_pr p3)), .val (.int (own_rm p3)), .unset, .unset] [(.int ((p4 &&& (2147483647 : Int32)) % (own_rm p3))), (.int (own_pr p3))])) _
        refine XS.iadd X6.here hx rfl (hb hby at_161) rfl ?_
        show Steps p.tables e below (T6.setTop (mkF m 162 #[.val (.int p0), .val (.int p1), .val (.int p2), .val (.int p3), .val (.int p4), .val (.long q5), .second, .val (.ref aW), .val (.int (own_k p1)), .val (.double (own_th p2)), .second, .val (.int (0 : Int32)), .val (.int (own_ba p3)), .val (.int (own_ro p3)), .val (.int (own_pr p3)), .val (.int (own_rm p3)), .unset, .unset] [(.int (own_sg p3 p4))])) _
        show Steps p.tables e below (T6.setTop (mkF m 162 #[.val (.int p0), .val (.int p1), .val (.int p2), .val (.int p3), .val (.int p4), .val (.long q5), .second, .val (.ref aW), .val (.int (own_k p1)), .val (.double (own_th p2)), .second, .val (.int (0 : Int32)), .val (.int (own_ba p3)), .val (.int (own_ro p3)), .val (.int (own_pr p3)), .val (.int (own_rm p3)), .unset, .unset] [(.int (own_sg p3 p4))])) _
        refine XS.istore X6.here hx rfl (hb hby at_162) rfl (l' := #[.val (.int p0), .val (.int p1), .val (.int p2), .val (.int p3), .val (.int p4), .val (.long q5), .second, .val (.ref aW), .val (.int (own_k p1)), .val (.double (own_th p2)), .second, .val (.int (0 : Int32)), .val (.int (own_ba p3)), .val (.int (own_ro p3)), .val (.int (own_pr p3)), .val (.int (own_rm p3)), .val (.int (own_sg p3 p4)), .unset]) rfl ?_
        exact kt
      obtain ⟨T10, h10, X10, e10, E10, A10, D10, -, st10⟩ := newO X6 hx hZ hown (hw _ (List.mem_of_getElem? (i := 9) rfl)) (hw _ (List.mem_of_getElem? (i := 10) rfl)) (hw _ (List.mem_of_getElem? (i := 11) rfl)) he6 (g := (mkF m 164 #[.val (.int p0), .val (.int p1), .val (.int p2), .val (.int p3), .val (.int p4), .val (.long q5), .second, .val (.ref aW), .val (.int (own_k p1)), .val (.double (own_th p2)), .second, .val (.int (0 : Int32)), .val (.int (own_ba p3)), .val (.int (own_ro p3)), .val (.int (own_pr p3)), .val (.int (own_rm p3)), .val (.int (own_sg p3 p4)), .unset] [])) rfl (hb hby at_164) (by decide) (by decide)
      obtain ⟨b10, gq10⟩ : ∃ z, z = h0.size := ⟨_, rfl⟩
      rw [← gq10] at A10 D10 st10
      have gg_b10 : n0 ≤ b10 := Nat.le_trans Z0 (Nat.le_of_eq gq10.symm)
      have F10_shingling : Fld Z h10 b10 "com/example/libshingle/libshingle/model/DiscoveryOptions" "shingling" "Lcom/example/libshingle/libshingle/model/Shingling;" .null := D10 (Or.inr (hw _ (List.mem_of_getElem? (i := 42) rfl))) (ty := (.object "com/example/libshingle/libshingle/model/Shingling")) (by decide)
      have F10_k : Fld Z h10 b10 "com/example/libshingle/libshingle/model/DiscoveryOptions" "k" "I" (.int (0 : Int32)) := D10 (Or.inr (hw _ (List.mem_of_getElem? (i := 44) rfl))) (ty := .int) (by decide)
      have F10_threshold : Fld Z h10 b10 "com/example/libshingle/libshingle/model/DiscoveryOptions" "threshold" "D" (.double 0) := D10 (Or.inr (hw _ (List.mem_of_getElem? (i := 46) rfl))) (ty := .double) (by decide)
      have F10_signatureLength : Fld Z h10 b10 "com/example/libshingle/libshingle/model/DiscoveryOptions" "signatureLength" "I" (.int (0 : Int32)) := D10 (Or.inr (hw _ (List.mem_of_getElem? (i := 48) rfl))) (ty := .int) (by decide)
      have F10_bands : Fld Z h10 b10 "com/example/libshingle/libshingle/model/DiscoveryOptions" "bands" "I" (.int (0 : Int32)) := D10 (Or.inr (hw _ (List.mem_of_getElem? (i := 50) rfl))) (ty := .int) (by decide)
      have F10_rows : Fld Z h10 b10 "com/example/libshingle/libshingle/model/DiscoveryOptions" "rows" "I" (.int (0 : Int32)) := D10 (Or.inr (hw _ (List.mem_of_getElem? (i := 52) rfl))) (ty := .int) (by decide)
      have F10_seed : Fld Z h10 b10 "com/example/libshingle/libshingle/model/DiscoveryOptions" "seed" "J" (.long (0 : Int64)) := D10 (Or.inr (hw _ (List.mem_of_getElem? (i := 54) rfl))) (ty := .long) (by decide)
      have pre11 : ∀ t, Steps p.tables e below (T10.setTop (mkF m 167 #[.val (.int p0), .val (.int p1), .val (.int p2), .val (.int p3), .val (.int p4), .val (.long q5), .second, .val (.ref aW), .val (.int (own_k p1)), .val (.double (own_th p2)), .second, .val (.int (0 : Int32)), .val (.int (own_ba p3)), .val (.int (own_ro p3)), .val (.int (own_pr p3)), .val (.int (own_rm p3)), .val (.int (own_sg p3 p4)), .unset] [(.ref b10)])) t → Steps p.tables e below (s₁.setTop (entryFrame m #[(.int p0), (.int p1), (.int p2), (.int p3), (.int p4), (.long q5)] maxLocals)) t := fun t kt => pre9 _ (st10 _ kt)
      have z12 : n0 ≤ h10.size := (Nat.le_trans Z0 E10.1)
      have pre13 : ∀ t, Steps p.tables e below (T10.setTop (mkF m 182 #[.val (.int p0), .val (.int p1), .val (.int p2), .val (.int p3), .val (.int p4), .val (.long q5), .second, .val (.ref aW), .val (.int (own_k p1)), .val (.double (own_th p2)), .second, .val (.int (0 : Int32)), .val (.int (own_ba p3)), .val (.int (own_ro p3)), .val (.int (own_pr p3)), .val (.int (own_rm p3)), .val (.int (own_sg p3 p4)), .unset] [(.long q5), (.int (own_ro p3)), (.int (own_ba p3)), (.int (own_sg p3 p4)), (.double (own_th p2)), (.int (own_k p1)), (.ref aW), (.ref b10), (.ref b10)])) t → Steps p.tables e below (s₁.setTop (entryFrame m #[(.int p0), (.int p1), (.int p2), (.int p3), (.int p4), (.long q5)] maxLocals)) t := fun t kt => by
        refine pre11 _ ?_
        show Steps p.tables e below (T10.setTop (mkF m 167 #[.val (.int p0), .val (.int p1), .val (.int p2), .val (.int p3), .val (.int p4), .val (.long q5), .second, .val (.ref aW), .val (.int (own_k p1)), .val (.double (own_th p2)), .second, .val (.int (0 : Int32)), .val (.int (own_ba p3)), .val (.int (own_ro p3)), .val (.int (own_pr p3)), .val (.int (own_rm p3)), .val (.int (own_sg p3 p4)), .unset] [(.ref b10)])) _
        refine XS.dup X10.here hx rfl (hb hby at_167) rfl rfl ?_
        show Steps p.tables e below (T10.setTop (mkF m 168 #[.val (.int p0), .val (.int p1), .val (.int p2), .val (.int p3), .val (.int p4), .val (.long q5), .second, .val (.ref aW), .val (.int (own_k p1)), .val (.double (own_th p2)), .second, .val (.int (0 : Int32)), .val (.int (own_ba p3)), .val (.int (own_ro p3)), .val (.int (own_pr p3)), .val (.int (own_rm p3)), .val (.int (own_sg p3 p4)), .unset] [(.ref b10), (.ref b10)])) _
        refine XS.aload X10.here hx rfl (hb hby at_168) rfl rfl ?_
        show Steps p.tables e below (T10.setTop (mkF m 170 #[.val (.int p0), .val (.int p1), .val (.int p2), .val (.int p3), .val (.int p4), .val (.long q5), .second, .val (.ref aW), .val (.int (own_k p1)), .val (.double (own_th p2)), .second, .val (.int (0 : Int32)), .val (.int (own_ba p3)), .val (.int (own_ro p3)), .val (.int (own_pr p3)), .val (.int (own_rm p3)), .val (.int (own_sg p3 p4)), .unset] [(.ref aW), (.ref b10), (.ref b10)])) _
        refine XS.iload X10.here hx rfl (hb hby at_170) rfl ?_
        show Steps p.tables e below (T10.setTop (mkF m 172 #[.val (.int p0), .val (.int p1), .val (.int p2), .val (.int p3), .val (.int p4), .val (.long q5), .second, .val (.ref aW), .val (.int (own_k p1)), .val (.double (own_th p2)), .second, .val (.int (0 : Int32)), .val (.int (own_ba p3)), .val (.int (own_ro p3)), .val (.int (own_pr p3)), .val (.int (own_rm p3)), .val (.int (own_sg p3 p4)), .unset] [(.int (own_k p1)), (.ref aW), (.ref b10), (.ref b10)])) _
        refine XS.dload X10.here hx rfl (hb hby at_172) rfl ?_
        show Steps p.tables e below (T10.setTop (mkF m 174 #[.val (.int p0), .val (.int p1), .val (.int p2), .val (.int p3), .val (.int p4), .val (.long q5), .second, .val (.ref aW), .val (.int (own_k p1)), .val (.double (own_th p2)), .second, .val (.int (0 : Int32)), .val (.int (own_ba p3)), .val (.int (own_ro p3)), .val (.int (own_pr p3)), .val (.int (own_rm p3)), .val (.int (own_sg p3 p4)), .unset] [(.double (own_th p2)), (.int (own_k p1)), (.ref aW), (.ref b10), (.ref b10)])) _
        refine XS.iload X10.here hx rfl (hb hby at_174) rfl ?_
        show Steps p.tables e below (T10.setTop (mkF m 176 #[.val (.int p0), .val (.int p1), .val (.int p2), .val (.int p3), .val (.int p4), .val (.long q5), .second, .val (.ref aW), .val (.int (own_k p1)), .val (.double (own_th p2)), .second, .val (.int (0 : Int32)), .val (.int (own_ba p3)), .val (.int (own_ro p3)), .val (.int (own_pr p3)), .val (.int (own_rm p3)), .val (.int (own_sg p3 p4)), .unset] [(.int (own_sg p3 p4)), (.double (own_th p2)), (.int (own_k p1)), (.ref aW), (.ref b10), (.ref b10)])) _
        refine XS.iload X10.here hx rfl (hb hby at_176) rfl ?_
        show Steps p.tables e below (T10.setTop (mkF m 178 #[.val (.int p0), .val (.int p1), .val (.int p2), .val (.int p3), .val (.int p4), .val (.long q5), .second, .val (.ref aW), .val (.int (own_k p1)), .val (.double (own_th p2)), .second, .val (.int (0 : Int32)), .val (.int (own_ba p3)), .val (.int (own_ro p3)), .val (.int (own_pr p3)), .val (.int (own_rm p3)), .val (.int (own_sg p3 p4)), .unset] [(.int (own_ba p3)), (.int (own_sg p3 p4)), (.double (own_th p2)), (.int (own_k p1)), (.ref aW), (.ref b10), (.ref b10)])) _
        refine XS.iload X10.here hx rfl (hb hby at_178) rfl ?_
        show Steps p.tables e below (T10.setTop (mkF m 180 #[.val (.int p0), .val (.int p1), .val (.int p2), .val (.int p3), .val (.int p4), .val (.long q5), .second, .val (.ref aW), .val (.int (own_k p1)), .val (.double (own_th p2)), .second, .val (.int (0 : Int32)), .val (.int (own_ba p3)), .val (.int (own_ro p3)), .val (.int (own_pr p3)), .val (.int (own_rm p3)), .val (.int (own_sg p3 p4)), .unset] [(.int (own_ro p3)), (.int (own_ba p3)), (.int (own_sg p3 p4)), (.double (own_th p2)), (.int (own_k p1)), (.ref aW), (.ref b10), (.ref b10)])) _
        refine XS.lload X10.here hx rfl (hb hby at_180) rfl ?_
        exact kt
      have hk14 := (Nat.le_trans hk E10.1)
      obtain ⟨_, _, ⟨T15, L15, kc15, nc15⟩, -, Xo15, hSo15, gr15, ⟨Lc15, hQ15, l15, y15, z15⟩, st15⟩ := X10.specialBackS hx (y := (⟨"com/example/libshingle/libshingle/model/DiscoveryOptions", "<init>", "(Lcom/example/libshingle/libshingle/model/Shingling;IDIIIJ)V"⟩ : MethodName)) rfl hown (mvT hZ (hw _ (List.mem_of_getElem? (i := 12) rfl))) (mvT hZ (hw _ (List.mem_of_getElem? (i := 13) rfl))) (mvT hZ (hw _ (List.mem_of_getElem? (i := 14) rfl))) (by decide) (backOfS (W := 1) (rmin l Z a0 hw [] b10 aW (own_k p1) (own_th p2) (own_sg p3 p4) (own_ba p3) (own_ro p3) q5 h10 n0 z12 A10 F10_shingling F10_k F10_threshold F10_signatureLength F10_bands F10_rows F10_seed gg_b10 (own_k1 p1) (own_th0 p2) (own_th1 p2) (own_h5 p3 p4) (own_h6 p3) (own_h7 p3) (own_hb p3 p4)) hZ (hw _ (List.mem_of_getElem? (i := 14) rfl)) (hw _ (List.mem_of_getElem? (i := 11) rfl)) (by decide) (by decide)) (g := (mkF m 182 #[.val (.int p0), .val (.int p1), .val (.int p2), .val (.int p3), .val (.int p4), .val (.long q5), .second, .val (.ref aW), .val (.int (own_k p1)), .val (.double (own_th p2)), .second, .val (.int (0 : Int32)), .val (.int (own_ba p3)), .val (.int (own_ro p3)), .val (.int (own_pr p3)), .val (.int (own_rm p3)), .val (.int (own_sg p3 p4)), .unset] [(.long q5), (.int (own_ro p3)), (.int (own_ba p3)), (.int (own_sg p3 p4)), (.double (own_th p2)), (.int (own_k p1)), (.ref aW), (.ref b10), (.ref b10)])) rfl (by rw [hml]; rfl) (Steps.refl _) (a := b10) (argsL := [(.ref aW), (.int (own_k p1)), (.double (own_th p2)), (.int (own_sg p3 p4)), (.int (own_ba p3)), (.int (own_ro p3)), (.long q5)]) (rest := [(.ref b10)]) (lenOf pd_3 rfl) rfl (by show 2 * 0 + _ ≤ _; exact Nat.le_of_eq rfl) (hb hby at_182) (fun _ _ => ⟨rfl, e10, (by decide : 1 + 8 ≤ _), (by decide : 7 + 92 ≤ _)⟩)
      dsimp only [Pt.U, Pt.locs, Pt.cells, Pt.slots] at Xo15 hSo15 gr15 l15 y15 z15 st15 hQ15
      subst l15 y15 z15
      obtain ⟨X15, hS15, hZ15, hown15⟩ := rebS hS (e10.symm ▸ hk14) Xo15 hSo15 gr15 hZ hown
      have hZ := hZ15
      have hown := hown15
      have hS := hS15
      obtain ⟨rfl, N15q, K15, Ex15, Fs15⟩ := hQ15
      have N15 := Fr.app N6 N15q
      have hk15 : T15.heap.size ≤ T15.heap.size := Nat.le_refl _
      have pre16 : ∀ t, Steps p.tables e below (T15.setTop (mkF m 185 #[.val (.int p0), .val (.int p1), .val (.int p2), .val (.int p3), .val (.int p4), .val (.long q5), .second, .val (.ref aW), .val (.int (own_k p1)), .val (.double (own_th p2)), .second, .val (.int (0 : Int32)), .val (.int (own_ba p3)), .val (.int (own_ro p3)), .val (.int (own_pr p3)), .val (.int (own_rm p3)), .val (.int (own_sg p3 p4)), .unset] [(.ref b10)])) t → Steps p.tables e below (s₁.setTop (entryFrame m #[(.int p0), (.int p1), (.int p2), (.int p3), (.int p4), (.long q5)] maxLocals)) t := fun t kt => pre13 _ (st15.trans kt)
      have z17 : n0 ≤ T15.heap.size := (Nat.le_trans z12 K15.1)
      have pre18 : ∀ t, Steps p.tables e below (T15.setTop (mkF m 189 #[.val (.int p0), .val (.int p1), .val (.int p2), .val (.int p3), .val (.int p4), .val (.long q5), .second, .val (.ref aW), .val (.int (own_k p1)), .val (.double (own_th p2)), .second, .val (.int (0 : Int32)), .val (.int (own_ba p3)), .val (.int (own_ro p3)), .val (.int (own_pr p3)), .val (.int (own_rm p3)), .val (.int (own_sg p3 p4)), .val (.ref b10)] [(.ref b10)])) t → Steps p.tables e below (s₁.setTop (entryFrame m #[(.int p0), (.int p1), (.int p2), (.int p3), (.int p4), (.long q5)] maxLocals)) t := fun t kt => by
        refine pre16 _ ?_
        show Steps p.tables e below (T15.setTop (mkF m 185 #[.val (.int p0), .val (.int p1), .val (.int p2), .val (.int p3), .val (.int p4), .val (.long q5), .second, .val (.ref aW), .val (.int (own_k p1)), .val (.double (own_th p2)), .second, .val (.int (0 : Int32)), .val (.int (own_ba p3)), .val (.int (own_ro p3)), .val (.int (own_pr p3)), .val (.int (own_rm p3)), .val (.int (own_sg p3 p4)), .unset] [(.ref b10)])) _
        refine XS.astore X15.here hx rfl (hb hby at_185) rfl rfl (l' := #[.val (.int p0), .val (.int p1), .val (.int p2), .val (.int p3), .val (.int p4), .val (.long q5), .second, .val (.ref aW), .val (.int (own_k p1)), .val (.double (own_th p2)), .second, .val (.int (0 : Int32)), .val (.int (own_ba p3)), .val (.int (own_ro p3)), .val (.int (own_pr p3)), .val (.int (own_rm p3)), .val (.int (own_sg p3 p4)), .val (.ref b10)]) rfl ?_
        show Steps p.tables e below (T15.setTop (mkF m 187 #[.val (.int p0), .val (.int p1), .val (.int p2), .val (.int p3), .val (.int p4), .val (.long q5), .second, .val (.ref aW), .val (.int (own_k p1)), .val (.double (own_th p2)), .second, .val (.int (0 : Int32)), .val (.int (own_ba p3)), .val (.int (own_ro p3)), .val (.int (own_pr p3)), .val (.int (own_rm p3)), .val (.int (own_sg p3 p4)), .val (.ref b10)] [])) _
        refine XS.aload X15.here hx rfl (hb hby at_187) rfl rfl ?_
        exact kt
      obtain ⟨cq19, kq19, q19a, q19b, q19c⟩ := isOf hZ rfl Ex15
      obtain ⟨_, _, ⟨T20, L20, kc20, nc20⟩, -, X20, ⟨Lc20, hQ20, l20, y20, z20⟩, st20⟩ := X15.virtualBack hx (y := (⟨"com/example/libshingle/libshingle/model/DiscoveryOptions", "isExact", "()Z"⟩ : MethodName)) (z := (⟨"com/example/libshingle/libshingle/model/DiscoveryOptions", "isExact", "()Z"⟩ : MethodName)) hown (mvT hZ (hw _ (List.mem_of_getElem? (i := 55) rfl))) (mvT hZ (hw _ (List.mem_of_getElem? (i := 56) rfl))) (notFace_of_selects (args := #[]) (mvT hZ (hw _ (List.mem_of_getElem? (i := 58) rfl)))) (mvT hZ (hw _ (List.mem_of_getElem? (i := 58) rfl))) (mvT hZ (hw _ (List.mem_of_getElem? (i := 57) rfl))) (by decide) (backOf (W := 0) (rmxn l Z a0 hw [] b10 (own_sg p3 p4) T15.heap n0 z17 Fs15 (own_h5 p3 p4)) hZ (hw _ (List.mem_of_getElem? (i := 59) rfl)) (hw _ (List.mem_of_getElem? (i := 11) rfl)) (by decide) (by decide)) q19a q19c (g := (mkF m 189 #[.val (.int p0), .val (.int p1), .val (.int p2), .val (.int p3), .val (.int p4), .val (.long q5), .second, .val (.ref aW), .val (.int (own_k p1)), .val (.double (own_th p2)), .second, .val (.int (0 : Int32)), .val (.int (own_ba p3)), .val (.int (own_ro p3)), .val (.int (own_pr p3)), .val (.int (own_rm p3)), .val (.int (own_sg p3 p4)), .val (.ref b10)] [(.ref b10)])) rfl (by rw [hml]; rfl) (Steps.refl _) (argsL := []) (rest := []) (lenOf pd_5 rfl) rfl (by show 2 * 0 + _ ≤ _; exact Nat.le_of_eq rfl) (hb hby at_189) (fun _ _ => ⟨rfl, rfl, (by decide : 9 + 0 ≤ _), (by decide : 99 + 0 ≤ _)⟩)
      dsimp only [Pt.U, Pt.locs, Pt.cells, Pt.slots] at X20 l20 y20 z20 st20 hQ20
      subst l20 y20 z20
      obtain ⟨rfl, N20q, he20⟩ := hQ20
      have N20 := Fr.app N15 N20q
      have pre21 : ∀ t, Steps p.tables e below (T20.setTop (mkF m 192 #[.val (.int p0), .val (.int p1), .val (.int p2), .val (.int p3), .val (.int p4), .val (.long q5), .second, .val (.ref aW), .val (.int (own_k p1)), .val (.double (own_th p2)), .second, .val (.int (0 : Int32)), .val (.int (own_ba p3)), .val (.int (own_ro p3)), .val (.int (own_pr p3)), .val (.int (own_rm p3)), .val (.int (own_sg p3 p4)), .val (.ref b10)] [(.int (0 : Int32))])) t → Steps p.tables e below (s₁.setTop (entryFrame m #[(.int p0), (.int p1), (.int p2), (.int p3), (.int p4), (.long q5)] maxLocals)) t := fun t kt => pre18 _ (st20.trans kt)
      have pre22 : ∀ t, Steps p.tables e below (T20.setTop (mkF m 200 #[.val (.int p0), .val (.int p1), .val (.int p2), .val (.int p3), .val (.int p4), .val (.long q5), .second, .val (.ref aW), .val (.int (own_k p1)), .val (.double (own_th p2)), .second, .val (.int (0 : Int32)), .val (.int (own_ba p3)), .val (.int (own_ro p3)), .val (.int (own_pr p3)), .val (.int (own_rm p3)), .val (.int (own_sg p3 p4)), .val (.ref b10)] [(.int (1 : Int32))])) t → Steps p.tables e below (s₁.setTop (entryFrame m #[(.int p0), (.int p1), (.int p2), (.int p3), (.int p4), (.long q5)] maxLocals)) t := fun t kt => by
        refine pre21 _ ?_
        show Steps p.tables e below (T20.setTop (mkF m 192 #[.val (.int p0), .val (.int p1), .val (.int p2), .val (.int p3), .val (.int p4), .val (.long q5), .second, .val (.ref aW), .val (.int (own_k p1)), .val (.double (own_th p2)), .second, .val (.int (0 : Int32)), .val (.int (own_ba p3)), .val (.int (own_ro p3)), .val (.int (own_pr p3)), .val (.int (own_rm p3)), .val (.int (own_sg p3 p4)), .val (.ref b10)] [(.int (0 : Int32))])) _
        refine XS.ifNo X20.here hx rfl (hb hby at_192) rfl ((if0 _ _).trans (teq (by decide : (0 : Int32) = (0 : Int32))).2) ?_
        show Steps p.tables e below (T20.setTop (mkF m 195 #[.val (.int p0), .val (.int p1), .val (.int p2), .val (.int p3), .val (.int p4), .val (.long q5), .second, .val (.ref aW), .val (.int (own_k p1)), .val (.double (own_th p2)), .second, .val (.int (0 : Int32)), .val (.int (own_ba p3)), .val (.int (own_ro p3)), .val (.int (own_pr p3)), .val (.int (own_rm p3)), .val (.int (own_sg p3 p4)), .val (.ref b10)] [])) _
        refine XS.iconst X20.here hx rfl (hb hby at_195) ?_
        show Steps p.tables e below (T20.setTop (mkF m 196 #[.val (.int p0), .val (.int p1), .val (.int p2), .val (.int p3), .val (.int p4), .val (.long q5), .second, .val (.ref aW), .val (.int (own_k p1)), .val (.double (own_th p2)), .second, .val (.int (0 : Int32)), .val (.int (own_ba p3)), .val (.int (own_ro p3)), .val (.int (own_pr p3)), .val (.int (own_rm p3)), .val (.int (own_sg p3 p4)), .val (.ref b10)] [(.int (1 : Int32))])) _
        refine XS.goto X20.here hx rfl (pc0 := 196) (pc' := 200) rfl (hb hby at_196) (by decide) (by decide) ?_
        exact kt
      obtain ⟨fs, hr, hrun, hended, -, hW, hI, hsame⟩ := X20.leaveW hS (he20.symm ▸ hk15) (v := (some (.int (1 : Int32)))) (fun h => by rw [Bd.returns] at h; cases h)
      refine ⟨_, _, pre22 _ ?_, hrun, hended, _, _, rfl, ?_, ⟨_, rfl⟩, hW, hI, hsame.mono (by decide) (by decide)⟩
      · show Steps p.tables e below (T20.setTop (mkF m 200 #[.val (.int p0), .val (.int p1), .val (.int p2), .val (.int p3), .val (.int p4), .val (.long q5), .second, .val (.ref aW), .val (.int (own_k p1)), .val (.double (own_th p2)), .second, .val (.int (0 : Int32)), .val (.int (own_ba p3)), .val (.int (own_ro p3)), .val (.int (own_pr p3)), .val (.int (own_rm p3)), .val (.int (own_sg p3 p4)), .val (.ref b10)] [(.int (1 : Int32))])) _
        exact retN X20 hx (t := .boolean) Bd.returns (by simp) (hb hby at_200) hr
      · show Q0 Z p0 p1 p2 p3 p4 q5 aW aC h0 n0 _ T20.heap _
        rw [he20]
        exact ⟨rfl, N20⟩
    · have pre23 : ∀ t, Steps p.tables e below (T6.setTop (mkF m 61 #[.val (.int p0), .val (.int p1), .val (.int p2), .val (.int p3), .val (.int p4), .val (.long q5), .second, .val (.ref aW), .val (.int (own_k p1)), .val (.double (own_th p2)), .second, .val (.int (1 : Int32)), .unset, .unset, .unset, .unset, .unset, .unset] [])) t → Steps p.tables e below (s₁.setTop (entryFrame m #[(.int p0), (.int p1), (.int p2), (.int p3), (.int p4), (.long q5)] maxLocals)) t := fun t kt => by
        refine pre8 _ ?_
        show Steps p.tables e below (T6.setTop (mkF m 46 #[.val (.int p0), .val (.int p1), .val (.int p2), .val (.int p3), .val (.int p4), .val (.long q5), .second, .val (.ref aW), .val (.int (own_k p1)), .val (.double (own_th p2)), .second, .unset, .unset, .unset, .unset, .unset, .unset, .unset] [(.int (p0 &&& (1 : Int32)))])) _
        refine XS.ifNo X6.here hx rfl (hb hby at_46) rfl ((if0 _ _).trans (feq (c2 : ¬ ((p0 &&& (1 : Int32)) = (0 : Int32)))).1) ?_
        show Steps p.tables e below (T6.setTop (mkF m 49 #[.val (.int p0), .val (.int p1), .val (.int p2), .val (.int p3), .val (.int p4), .val (.long q5), .second, .val (.ref aW), .val (.int (own_k p1)), .val (.double (own_th p2)), .second, .unset, .unset, .unset, .unset, .unset, .unset, .unset] [])) _
        refine XS.iconst X6.here hx rfl (hb hby at_49) ?_
        show Steps p.tables e below (T6.setTop (mkF m 50 #[.val (.int p0), .val (.int p1), .val (.int p2), .val (.int p3), .val (.int p4), .val (.long q5), .second, .val (.ref aW), .val (.int (own_k p1)), .val (.double (own_th p2)), .second, .unset, .unset, .unset, .unset, .unset, .unset, .unset] [(.int (1 : Int32))])) _
        refine XS.goto X6.here hx rfl (pc0 := 50) (pc' := 54) rfl (hb hby at_50) (by decide) (by decide) ?_
        show Steps p.tables e below (T6.setTop (mkF m 54 #[.val (.int p0), .val (.int p1), .val (.int p2), .val (.int p3), .val (.int p4), .val (.long q5), .second, .val (.ref aW), .val (.int (own_k p1)), .val (.double (own_th p2)), .second, .unset, .unset, .unset, .unset, .unset, .unset, .unset] [(.int (1 : Int32))])) _
        refine XS.istore X6.here hx rfl (hb hby at_54) rfl (l' := #[.val (.int p0), .val (.int p1), .val (.int p2), .val (.int p3), .val (.int p4), .val (.long q5), .second, .val (.ref aW), .val (.int (own_k p1)), .val (.double (own_th p2)), .second, .val (.int (1 : Int32)), .unset, .unset, .unset, .unset, .unset, .unset]) rfl ?_
        show Steps p.tables e below (T6.setTop (mkF m 56 #[.val (.int p0), .val (.int p1), .val (.int p2), .val (.int p3), .val (.int p4), .val (.long q5), .second, .val (.ref aW), .val (.int (own_k p1)), .val (.double (own_th p2)), .second, .val (.int (1 : Int32)), .unset, .unset, .unset, .unset, .unset, .unset] [])) _
        refine XS.iload X6.here hx rfl (hb hby at_56) rfl ?_
        show Steps p.tables e below (T6.setTop (mkF m 58 #[.val (.int p0), .val (.int p1), .val (.int p2), .val (.int p3), .val (.int p4), .val (.long q5), .second, .val (.ref aW), .val (.int (own_k p1)), .val (.double (own_th p2)), .second, .val (.int (1 : Int32)), .unset, .unset, .unset, .unset, .unset, .unset] [(.int (1 : Int32))])) _
        refine XS.ifNo X6.here hx rfl (hb hby at_58) rfl ((if0 _ _).trans (feq (by decide : ¬ ((1 : Int32) = (0 : Int32)))).1) ?_
        exact kt
      obtain ⟨T24, h24, X24, e24, E24, A24, D24, -, st24⟩ := newO X6 hx hZ hown (hw _ (List.mem_of_getElem? (i := 9) rfl)) (hw _ (List.mem_of_getElem? (i := 10) rfl)) (hw _ (List.mem_of_getElem? (i := 11) rfl)) he6 (g := (mkF m 61 #[.val (.int p0), .val (.int p1), .val (.int p2), .val (.int p3), .val (.int p4), .val (.long q5), .second, .val (.ref aW), .val (.int (own_k p1)), .val (.double (own_th p2)), .second, .val (.int (1 : Int32)), .unset, .unset, .unset, .unset, .unset, .unset] [])) rfl (hb hby at_61) (by decide) (by decide)
      obtain ⟨b24, gq24⟩ : ∃ z, z = h0.size := ⟨_, rfl⟩
      rw [← gq24] at A24 D24 st24
      have gg_b24 : n0 ≤ b24 := Nat.le_trans Z0 (Nat.le_of_eq gq24.symm)
      have F24_shingling : Fld Z h24 b24 "com/example/libshingle/libshingle/model/DiscoveryOptions" "shingling" "Lcom/example/libshingle/libshingle/model/Shingling;" .null := D24 (Or.inr (hw _ (List.mem_of_getElem? (i := 42) rfl))) (ty := (.object "com/example/libshingle/libshingle/model/Shingling")) (by decide)
      have F24_k : Fld Z h24 b24 "com/example/libshingle/libshingle/model/DiscoveryOptions" "k" "I" (.int (0 : Int32)) := D24 (Or.inr (hw _ (List.mem_of_getElem? (i := 44) rfl))) (ty := .int) (by decide)
      have F24_threshold : Fld Z h24 b24 "com/example/libshingle/libshingle/model/DiscoveryOptions" "threshold" "D" (.double 0) := D24 (Or.inr (hw _ (List.mem_of_getElem? (i := 46) rfl))) (ty := .double) (by decide)
      have F24_signatureLength : Fld Z h24 b24 "com/example/libshingle/libshingle/model/DiscoveryOptions" "signatureLength" "I" (.int (0 : Int32)) := D24 (Or.inr (hw _ (List.mem_of_getElem? (i := 48) rfl))) (ty := .int) (by decide)
      have F24_bands : Fld Z h24 b24 "com/example/libshingle/libshingle/model/DiscoveryOptions" "bands" "I" (.int (0 : Int32)) := D24 (Or.inr (hw _ (List.mem_of_getElem? (i := 50) rfl))) (ty := .int) (by decide)
      have F24_rows : Fld Z h24 b24 "com/example/libshingle/libshingle/model/DiscoveryOptions" "rows" "I" (.int (0 : Int32)) := D24 (Or.inr (hw _ (List.mem_of_getElem? (i := 52) rfl))) (ty := .int) (by decide)
      have F24_seed : Fld Z h24 b24 "com/example/libshingle/libshingle/model/DiscoveryOptions" "seed" "J" (.long (0 : Int64)) := D24 (Or.inr (hw _ (List.mem_of_getElem? (i := 54) rfl))) (ty := .long) (by decide)
      have pre25 : ∀ t, Steps p.tables e below (T24.setTop (mkF m 64 #[.val (.int p0), .val (.int p1), .val (.int p2), .val (.int p3), .val (.int p4), .val (.long q5), .second, .val (.ref aW), .val (.int (own_k p1)), .val (.double (own_th p2)), .second, .val (.int (1 : Int32)), .unset, .unset, .unset, .unset, .unset, .unset] [(.ref b24)])) t → Steps p.tables e below (s₁.setTop (entryFrame m #[(.int p0), (.int p1), (.int p2), (.int p3), (.int p4), (.long q5)] maxLocals)) t := fun t kt => pre23 _ (st24 _ kt)
      have z26 : n0 ≤ h24.size := (Nat.le_trans Z0 E24.1)
      have pre27 : ∀ t, Steps p.tables e below (T24.setTop (mkF m 76 #[.val (.int p0), .val (.int p1), .val (.int p2), .val (.int p3), .val (.int p4), .val (.long q5), .second, .val (.ref aW), .val (.int (own_k p1)), .val (.double (own_th p2)), .second, .val (.int (1 : Int32)), .unset, .unset, .unset, .unset, .unset, .unset] [(.long q5), (.int (0 : Int32)), (.int (0 : Int32)), (.int (0 : Int32)), (.double (own_th p2)), (.int (own_k p1)), (.ref aW), (.ref b24), (.ref b24)])) t → Steps p.tables e below (s₁.setTop (entryFrame m #[(.int p0), (.int p1), (.int p2), (.int p3), (.int p4), (.long q5)] maxLocals)) t := fun t kt => by
        refine pre25 _ ?_
        show Steps p.tables e below (T24.setTop (mkF m 64 #[.val (.int p0), .val (.int p1), .val (.int p2), .val (.int p3), .val (.int p4), .val (.long q5), .second, .val (.ref aW), .val (.int (own_k p1)), .val (.double (own_th p2)), .second, .val (.int (1 : Int32)), .unset, .unset, .unset, .unset, .unset, .unset] [(.ref b24)])) _
        refine XS.dup X24.here hx rfl (hb hby at_64) rfl rfl ?_
        show Steps p.tables e below (T24.setTop (mkF m 65 #[.val (.int p0), .val (.int p1), .val (.int p2), .val (.int p3), .val (.int p4), .val (.long q5), .second, .val (.ref aW), .val (.int (own_k p1)), .val (.double (own_th p2)), .second, .val (.int (1 : Int32)), .unset, .unset, .unset, .unset, .unset, .unset] [(.ref b24), (.ref b24)])) _
        refine XS.aload X24.here hx rfl (hb hby at_65) rfl rfl ?_
        show Steps p.tables e below (T24.setTop (mkF m 67 #[.val (.int p0), .val (.int p1), .val (.int p2), .val (.int p3), .val (.int p4), .val (.long q5), .second, .val (.ref aW), .val (.int (own_k p1)), .val (.double (own_th p2)), .second, .val (.int (1 : Int32)), .unset, .unset, .unset, .unset, .unset, .unset] [(.ref aW), (.ref b24), (.ref b24)])) _
        refine XS.iload X24.here hx rfl (hb hby at_67) rfl ?_
        show Steps p.tables e below (T24.setTop (mkF m 69 #[.val (.int p0), .val (.int p1), .val (.int p2), .val (.int p3), .val (.int p4), .val (.long q5), .second, .val (.ref aW), .val (.int (own_k p1)), .val (.double (own_th p2)), .second, .val (.int (1 : Int32)), .unset, .unset, .unset, .unset, .unset, .unset] [(.int (own_k p1)), (.ref aW), (.ref b24), (.ref b24)])) _
        refine XS.dload X24.here hx rfl (hb hby at_69) rfl ?_
        show Steps p.tables e below (T24.setTop (mkF m 71 #[.val (.int p0), .val (.int p1), .val (.int p2), .val (.int p3), .val (.int p4), .val (.long q5), .second, .val (.ref aW), .val (.int (own_k p1)), .val (.double (own_th p2)), .second, .val (.int (1 : Int32)), .unset, .unset, .unset, .unset, .unset, .unset] [(.double (own_th p2)), (.int (own_k p1)), (.ref aW), (.ref b24), (.ref b24)])) _
        refine XS.iconst X24.here hx rfl (hb hby at_71) ?_
        show Steps p.tables e below (T24.setTop (mkF m 72 #[.val (.int p0), .val (.int p1), .val (.int p2), .val (.int p3), .val (.int p4), .val (.long q5), .second, .val (.ref aW), .val (.int (own_k p1)), .val (.double (own_th p2)), .second, .val (.int (1 : Int32)), .unset, .unset, .unset, .unset, .unset, .unset] [(.int (0 : Int32)), (.double (own_th p2)), (.int (own_k p1)), (.ref aW), (.ref b24), (.ref b24)])) _
        refine XS.iconst X24.here hx rfl (hb hby at_72) ?_
        show Steps p.tables e below (T24.setTop (mkF m 73 #[.val (.int p0), .val (.int p1), .val (.int p2), .val (.int p3), .val (.int p4), .val (.long q5), .second, .val (.ref aW), .val (.int (own_k p1)), .val (.double (own_th p2)), .second, .val (.int (1 : Int32)), .unset, .unset, .unset, .unset, .unset, .unset] [(.int (0 : Int32)), (.int (0 : Int32)), (.double (own_th p2)), (.int (own_k p1)), (.ref aW), (.ref b24), (.ref b24)])) _
        refine XS.iconst X24.here hx rfl (hb hby at_73) ?_
        show Steps p.tables e below (T24.setTop (mkF m 74 #[.val (.int p0), .val (.int p1), .val (.int p2), .val (.int p3), .val (.int p4), .val (.long q5), .second, .val (.ref aW), .val (.int (own_k p1)), .val (.double (own_th p2)), .second, .val (.int (1 : Int32)), .unset, .unset, .unset, .unset, .unset, .unset] [(.int (0 : Int32)), (.int (0 : Int32)), (.int (0 : Int32)), (.double (own_th p2)), (.int (own_k p1)), (.ref aW), (.ref b24), (.ref b24)])) _
        refine XS.lload X24.here hx rfl (hb hby at_74) rfl ?_
        exact kt
      have hk28 := (Nat.le_trans hk E24.1)
      obtain ⟨_, _, ⟨T29, L29, kc29, nc29⟩, -, Xo29, hSo29, gr29, ⟨Lc29, hQ29, l29, y29, z29⟩, st29⟩ := X24.specialBackS hx (y := (⟨"com/example/libshingle/libshingle/model/DiscoveryOptions", "<init>", "(Lcom/example/libshingle/libshingle/model/Shingling;IDIIIJ)V"⟩ : MethodName)) rfl hown (mvT hZ (hw _ (List.mem_of_getElem? (i := 12) rfl))) (mvT hZ (hw _ (List.mem_of_getElem? (i := 13) rfl))) (mvT hZ (hw _ (List.mem_of_getElem? (i := 14) rfl))) (by decide) (backOfS (W := 1) (rmix l Z a0 hw [] b24 aW (own_k p1) (own_th p2) q5 h24 n0 z26 A24 F24_shingling F24_k F24_threshold F24_signatureLength F24_bands F24_rows F24_seed gg_b24 (own_k1 p1) (own_th0 p2) (own_th1 p2)) hZ (hw _ (List.mem_of_getElem? (i := 14) rfl)) (hw _ (List.mem_of_getElem? (i := 11) rfl)) (by decide) (by decide)) (g := (mkF m 76 #[.val (.int p0), .val (.int p1), .val (.int p2), .val (.int p3), .val (.int p4), .val (.long q5), .second, .val (.ref aW), .val (.int (own_k p1)), .val (.double (own_th p2)), .second, .val (.int (1 : Int32)), .unset, .unset, .unset, .unset, .unset, .unset] [(.long q5), (.int (0 : Int32)), (.int (0 : Int32)), (.int (0 : Int32)), (.double (own_th p2)), (.int (own_k p1)), (.ref aW), (.ref b24), (.ref b24)])) rfl (by rw [hml]; rfl) (Steps.refl _) (a := b24) (argsL := [(.ref aW), (.int (own_k p1)), (.double (own_th p2)), (.int (0 : Int32)), (.int (0 : Int32)), (.int (0 : Int32)), (.long q5)]) (rest := [(.ref b24)]) (lenOf pd_3 rfl) rfl (by show 2 * 0 + _ ≤ _; exact Nat.le_of_eq rfl) (hb hby at_76) (fun _ _ => ⟨rfl, e24, (by decide : 1 + 4 ≤ _), (by decide : 7 + 48 ≤ _)⟩)
      dsimp only [Pt.U, Pt.locs, Pt.cells, Pt.slots] at Xo29 hSo29 gr29 l29 y29 z29 st29 hQ29
      subst l29 y29 z29
      obtain ⟨X29, hS29, hZ29, hown29⟩ := rebS hS (e24.symm ▸ hk28) Xo29 hSo29 gr29 hZ hown
      have hZ := hZ29
      have hown := hown29
      have hS := hS29
      obtain ⟨rfl, N29q, K29, Ex29, Fs29⟩ := hQ29
      have N29 := Fr.app N6 N29q
      have hk29 : T29.heap.size ≤ T29.heap.size := Nat.le_refl _
      have pre30 : ∀ t, Steps p.tables e below (T29.setTop (mkF m 79 #[.val (.int p0), .val (.int p1), .val (.int p2), .val (.int p3), .val (.int p4), .val (.long q5), .second, .val (.ref aW), .val (.int (own_k p1)), .val (.double (own_th p2)), .second, .val (.int (1 : Int32)), .unset, .unset, .unset, .unset, .unset, .unset] [(.ref b24)])) t → Steps p.tables e below (s₁.setTop (entryFrame m #[(.int p0), (.int p1), (.int p2), (.int p3), (.int p4), (.long q5)] maxLocals)) t := fun t kt => pre27 _ (st29.trans kt)
      have z31 : n0 ≤ T29.heap.size := (Nat.le_trans z26 K29.1)
      have pre32 : ∀ t, Steps p.tables e below (T29.setTop (mkF m 87 #[.val (.int p0), .val (.int p1), .val (.int p2), .val (.int p3), .val (.int p4), .val (.long q5), .second, .val (.ref aW), .val (.int (own_k p1)), .val (.double (own_th p2)), .second, .val (.int (1 : Int32)), .val (.ref b24), .unset, .unset, .unset, .unset, .unset] [(.double (own_th p2)), (.int (own_k p1)), (.ref aW)])) t → Steps p.tables e below (s₁.setTop (entryFrame m #[(.int p0), (.int p1), (.int p2), (.int p3), (.int p4), (.long q5)] maxLocals)) t := fun t kt => by
        refine pre30 _ ?_
        show Steps p.tables e below (T29.setTop (mkF m 79 #[.val (.int p0), .val (.int p1), .val (.int p2), .val (.int p3), .val (.int p4), .val (.long q5), .second, .val (.ref aW), .val (.int (own_k p1)), .val (.double (own_th p2)), .second, .val (.int (1 : Int32)), .unset, .unset, .unset, .unset, .unset, .unset] [(.ref b24)])) _
        refine XS.astore X29.here hx rfl (hb hby at_79) rfl rfl (l' := #[.val (.int p0), .val (.int p1), .val (.int p2), .val (.int p3), .val (.int p4), .val (.long q5), .second, .val (.ref aW), .val (.int (own_k p1)), .val (.double (own_th p2)), .second, .val (.int (1 : Int32)), .val (.ref b24), .unset, .unset, .unset, .unset, .unset]) rfl ?_
        show Steps p.tables e below (T29.setTop (mkF m 81 #[.val (.int p0), .val (.int p1), .val (.int p2), .val (.int p3), .val (.int p4), .val (.long q5), .second, .val (.ref aW), .val (.int (own_k p1)), .val (.double (own_th p2)), .second, .val (.int (1 : Int32)), .val (.ref b24), .unset, .unset, .unset, .unset, .unset] [])) _
        refine XS.aload X29.here hx rfl (hb hby at_81) rfl rfl ?_
        show Steps p.tables e below (T29.setTop (mkF m 83 #[.val (.int p0), .val (.int p1), .val (.int p2), .val (.int p3), .val (.int p4), .val (.long q5), .second, .val (.ref aW), .val (.int (own_k p1)), .val (.double (own_th p2)), .second, .val (.int (1 : Int32)), .val (.ref b24), .unset, .unset, .unset, .unset, .unset] [(.ref aW)])) _
        refine XS.iload X29.here hx rfl (hb hby at_83) rfl ?_
        show Steps p.tables e below (T29.setTop (mkF m 85 #[.val (.int p0), .val (.int p1), .val (.int p2), .val (.int p3), .val (.int p4), .val (.long q5), .second, .val (.ref aW), .val (.int (own_k p1)), .val (.double (own_th p2)), .second, .val (.int (1 : Int32)), .val (.ref b24), .unset, .unset, .unset, .unset, .unset] [(.int (own_k p1)), (.ref aW)])) _
        refine XS.dload X29.here hx rfl (hb hby at_85) rfl ?_
        exact kt
      obtain ⟨_, _, ⟨T33, L33, kc33, nc33⟩, -, Xo33, hSo33, gr33, ⟨Lc33, hQ33, l33, y33, z33⟩, st33⟩ := callSS X29 hx (y := (⟨"com/example/libshingle/libshingle/model/DiscoveryOptions", "exact", "(Lcom/example/libshingle/libshingle/model/Shingling;ID)Lcom/example/libshingle/libshingle/model/DiscoveryOptions;"⟩ : MethodName)) hown (mvT hZ (hw _ (List.mem_of_getElem? (i := 62) rfl))) (mvT hZ (hw _ (List.mem_of_getElem? (i := 63) rfl))) (mvT hZ (hw _ (List.mem_of_getElem? (i := 11) rfl))) (mvT hZ (hw _ (List.mem_of_getElem? (i := 64) rfl))) (by decide) (backOfS (W := 0) (rm8 l Z a0 hw [] aW (own_k p1) (own_th p2) T29.heap n0 z31 (own_k1 p1) (own_th0 p2) (own_th1 p2)) hZ (hw _ (List.mem_of_getElem? (i := 64) rfl)) (hw _ (List.mem_of_getElem? (i := 11) rfl)) (by decide) (by decide)) (g := (mkF m 87 #[.val (.int p0), .val (.int p1), .val (.int p2), .val (.int p3), .val (.int p4), .val (.long q5), .second, .val (.ref aW), .val (.int (own_k p1)), .val (.double (own_th p2)), .second, .val (.int (1 : Int32)), .val (.ref b24), .unset, .unset, .unset, .unset, .unset] [(.double (own_th p2)), (.int (own_k p1)), (.ref aW)])) rfl (by rw [hml]; rfl) (argsL := [(.ref aW), (.int (own_k p1)), (.double (own_th p2))]) (rest := []) (lenOf pd_6 rfl) rfl (by show 2 * 0 + _ ≤ _; exact Nat.le_of_eq rfl) (hb hby at_87) (fun _ _ => ⟨rfl, rfl, (by decide : 5 + 5 ≤ _), (by decide : 55 + 55 ≤ _)⟩)
      dsimp only [Pt.U, Pt.locs, Pt.cells, Pt.slots] at Xo33 hSo33 gr33 l33 y33 z33 st33 hQ33
      subst l33 y33 z33
      obtain ⟨X33, hS33, hZ33, hown33⟩ := rebS hS (hk29) Xo33 hSo33 gr33 hZ hown
      have hZ := hZ33
      have hown := hown33
      have hS := hS33
      obtain ⟨rfl, N33q, K33, Ex33, Fs33⟩ := hQ33
      have N33 := Fr.app N29 N33q
      obtain ⟨b33, gq33⟩ : ∃ z, z = T29.heap.size := ⟨_, rfl⟩
      rw [← gq33] at Ex33 Fs33 st33
      have gg_b33 : n0 ≤ b33 := Nat.le_trans z31 (Nat.le_of_eq gq33.symm)
      have hk33 : T33.heap.size ≤ T33.heap.size := Nat.le_refl _
      have pre34 : ∀ t, Steps p.tables e below (T33.setTop (mkF m 90 #[.val (.int p0), .val (.int p1), .val (.int p2), .val (.int p3), .val (.int p4), .val (.long q5), .second, .val (.ref aW), .val (.int (own_k p1)), .val (.double (own_th p2)), .second, .val (.int (1 : Int32)), .val (.ref b24), .unset, .unset, .unset, .unset, .unset] [(.ref b33)])) t → Steps p.tables e below (s₁.setTop (entryFrame m #[(.int p0), (.int p1), (.int p2), (.int p3), (.int p4), (.long q5)] maxLocals)) t := fun t kt => pre32 _ (st33.trans kt)
      have z35 : n0 ≤ T33.heap.size := (Nat.le_trans z31 K33.1)
      have f36 := (Fs29.keep K33 nin0)
      have pre37 : ∀ t, Steps p.tables e below (T33.setTop (mkF m 94 #[.val (.int p0), .val (.int p1), .val (.int p2), .val (.int p3), .val (.int p4), .val (.long q5), .second, .val (.ref aW), .val (.int (own_k p1)), .val (.double (own_th p2)), .second, .val (.int (1 : Int32)), .val (.ref b24), .val (.ref b33), .unset, .unset, .unset, .unset] [(.ref b24)])) t → Steps p.tables e below (s₁.setTop (entryFrame m #[(.int p0), (.int p1), (.int p2), (.int p3), (.int p4), (.long q5)] maxLocals)) t := fun t kt => by
        refine pre34 _ ?_
        show Steps p.tables e below (T33.setTop (mkF m 90 #[.val (.int p0), .val (.int p1), .val (.int p2), .val (.int p3), .val (.int p4), .val (.long q5), .second, .val (.ref aW), .val (.int (own_k p1)), .val (.double (own_th p2)), .second, .val (.int (1 : Int32)), .val (.ref b24), .unset, .unset, .unset, .unset, .unset] [(.ref b33)])) _
        refine XS.astore X33.here hx rfl (hb hby at_90) rfl rfl (l' := #[.val (.int p0), .val (.int p1), .val (.int p2), .val (.int p3), .val (.int p4), .val (.long q5), .second, .val (.ref aW), .val (.int (own_k p1)), .val (.double (own_th p2)), .second, .val (.int (1 : Int32)), .val (.ref b24), .val (.ref b33), .unset, .unset, .unset, .unset]) rfl ?_
        show Steps p.tables e below (T33.setTop (mkF m 92 #[.val (.int p0), .val (.int p1), .val (.int p2), .val (.int p3), .val (.int p4), .val (.long q5), .second, .val (.ref aW), .val (.int (own_k p1)), .val (.double (own_th p2)), .second, .val (.int (1 : Int32)), .val (.ref b24), .val (.ref b33), .unset, .unset, .unset, .unset] [])) _
        refine XS.aload X33.here hx rfl (hb hby at_92) rfl rfl ?_
        exact kt
      have f39 := (Ex29.keep K33)
      obtain ⟨cq38, kq38, q38a, q38b, q38c⟩ := isOf hZ rfl f39
      obtain ⟨_, _, ⟨T40, L40, kc40, nc40⟩, -, X40, ⟨Lc40, hQ40, l40, y40, z40⟩, st40⟩ := X33.virtualBack hx (y := (⟨"com/example/libshingle/libshingle/model/DiscoveryOptions", "isExact", "()Z"⟩ : MethodName)) (z := (⟨"com/example/libshingle/libshingle/model/DiscoveryOptions", "isExact", "()Z"⟩ : MethodName)) hown (mvT hZ (hw _ (List.mem_of_getElem? (i := 55) rfl))) (mvT hZ (hw _ (List.mem_of_getElem? (i := 56) rfl))) (notFace_of_selects (args := #[]) (mvT hZ (hw _ (List.mem_of_getElem? (i := 58) rfl)))) (mvT hZ (hw _ (List.mem_of_getElem? (i := 58) rfl))) (mvT hZ (hw _ (List.mem_of_getElem? (i := 57) rfl))) (by decide) (backOf (W := 0) (rmxe l Z a0 hw [] b24 (0 : Int32) T33.heap n0 z35 f36 rfl) hZ (hw _ (List.mem_of_getElem? (i := 59) rfl)) (hw _ (List.mem_of_getElem? (i := 11) rfl)) (by decide) (by decide)) q38a q38c (g := (mkF m 94 #[.val (.int p0), .val (.int p1), .val (.int p2), .val (.int p3), .val (.int p4), .val (.long q5), .second, .val (.ref aW), .val (.int (own_k p1)), .val (.double (own_th p2)), .second, .val (.int (1 : Int32)), .val (.ref b24), .val (.ref b33), .unset, .unset, .unset, .unset] [(.ref b24)])) rfl (by rw [hml]; rfl) (Steps.refl _) (argsL := []) (rest := []) (lenOf pd_5 rfl) rfl (by show 2 * 0 + _ ≤ _; exact Nat.le_of_eq rfl) (hb hby at_94) (fun _ _ => ⟨rfl, rfl, (by decide : 10 + 0 ≤ _), (by decide : 110 + 0 ≤ _)⟩)
      dsimp only [Pt.U, Pt.locs, Pt.cells, Pt.slots] at X40 l40 y40 z40 st40 hQ40
      subst l40 y40 z40
      obtain ⟨rfl, N40q, he40⟩ := hQ40
      have N40 := Fr.app N33 N40q
      have pre41 : ∀ t, Steps p.tables e below (T40.setTop (mkF m 97 #[.val (.int p0), .val (.int p1), .val (.int p2), .val (.int p3), .val (.int p4), .val (.long q5), .second, .val (.ref aW), .val (.int (own_k p1)), .val (.double (own_th p2)), .second, .val (.int (1 : Int32)), .val (.ref b24), .val (.ref b33), .unset, .unset, .unset, .unset] [(.int (1 : Int32))])) t → Steps p.tables e below (s₁.setTop (entryFrame m #[(.int p0), (.int p1), (.int p2), (.int p3), (.int p4), (.long q5)] maxLocals)) t := fun t kt => pre37 _ (st40.trans kt)
      have pre42 : ∀ t, Steps p.tables e below (T40.setTop (mkF m 102 #[.val (.int p0), .val (.int p1), .val (.int p2), .val (.int p3), .val (.int p4), .val (.long q5), .second, .val (.ref aW), .val (.int (own_k p1)), .val (.double (own_th p2)), .second, .val (.int (1 : Int32)), .val (.ref b24), .val (.ref b33), .unset, .unset, .unset, .unset] [(.ref b33)])) t → Steps p.tables e below (s₁.setTop (entryFrame m #[(.int p0), (.int p1), (.int p2), (.int p3), (.int p4), (.long q5)] maxLocals)) t := fun t kt => by
        refine pre41 _ ?_
        show Steps p.tables e below (T40.setTop (mkF m 97 #[.val (.int p0), .val (.int p1), .val (.int p2), .val (.int p3), .val (.int p4), .val (.long q5), .second, .val (.ref aW), .val (.int (own_k p1)), .val (.double (own_th p2)), .second, .val (.int (1 : Int32)), .val (.ref b24), .val (.ref b33), .unset, .unset, .unset, .unset] [(.int (1 : Int32))])) _
        refine XS.ifNo X40.here hx rfl (hb hby at_97) rfl ((if0 _ _).trans (feq (by decide : ¬ ((1 : Int32) = (0 : Int32)))).1) ?_
        show Steps p.tables e below (T40.setTop (mkF m 100 #[.val (.int p0), .val (.int p1), .val (.int p2), .val (.int p3), .val (.int p4), .val (.long q5), .second, .val (.ref aW), .val (.int (own_k p1)), .val (.double (own_th p2)), .second, .val (.int (1 : Int32)), .val (.ref b24), .val (.ref b33), .unset, .unset, .unset, .unset] [])) _
        refine XS.aload X40.here hx rfl (hb hby at_100) rfl rfl ?_
        exact kt
      obtain ⟨cq43, kq43, q43a, q43b, q43c⟩ := isOf hZ he40 Ex33
      obtain ⟨_, _, ⟨T44, L44, kc44, nc44⟩, -, X44, ⟨Lc44, hQ44, l44, y44, z44⟩, st44⟩ := X40.virtualBack hx (y := (⟨"com/example/libshingle/libshingle/model/DiscoveryOptions", "isExact", "()Z"⟩ : MethodName)) (z := (⟨"com/example/libshingle/libshingle/model/DiscoveryOptions", "isExact", "()Z"⟩ : MethodName)) hown (mvT hZ (hw _ (List.mem_of_getElem? (i := 55) rfl))) (mvT hZ (hw _ (List.mem_of_getElem? (i := 56) rfl))) (notFace_of_selects (args := #[]) (mvT hZ (hw _ (List.mem_of_getElem? (i := 58) rfl)))) (mvT hZ (hw _ (List.mem_of_getElem? (i := 58) rfl))) (mvT hZ (hw _ (List.mem_of_getElem? (i := 57) rfl))) (by decide) (backOf (W := 0) (rmxe l Z a0 hw [] b33 (0 : Int32) T33.heap n0 z35 Fs33 rfl) hZ (hw _ (List.mem_of_getElem? (i := 59) rfl)) (hw _ (List.mem_of_getElem? (i := 11) rfl)) (by decide) (by decide)) q43a q43c (g := (mkF m 102 #[.val (.int p0), .val (.int p1), .val (.int p2), .val (.int p3), .val (.int p4), .val (.long q5), .second, .val (.ref aW), .val (.int (own_k p1)), .val (.double (own_th p2)), .second, .val (.int (1 : Int32)), .val (.ref b24), .val (.ref b33), .unset, .unset, .unset, .unset] [(.ref b33)])) rfl (by rw [hml]; rfl) (Steps.refl _) (argsL := []) (rest := []) (lenOf pd_5 rfl) rfl (by show 2 * 0 + _ ≤ _; exact Nat.le_of_eq rfl) (hb hby at_102) (fun _ _ => ⟨rfl, he40, (by decide : 10 + 0 ≤ _), (by decide : 110 + 0 ≤ _)⟩)
      dsimp only [Pt.U, Pt.locs, Pt.cells, Pt.slots] at X44 l44 y44 z44 st44 hQ44
      subst l44 y44 z44
      obtain ⟨rfl, N44q, he44⟩ := hQ44
      have N44 := Fr.app N40 N44q
      have pre45 : ∀ t, Steps p.tables e below (T44.setTop (mkF m 105 #[.val (.int p0), .val (.int p1), .val (.int p2), .val (.int p3), .val (.int p4), .val (.long q5), .second, .val (.ref aW), .val (.int (own_k p1)), .val (.double (own_th p2)), .second, .val (.int (1 : Int32)), .val (.ref b24), .val (.ref b33), .unset, .unset, .unset, .unset] [(.int (1 : Int32))])) t → Steps p.tables e below (s₁.setTop (entryFrame m #[(.int p0), (.int p1), (.int p2), (.int p3), (.int p4), (.long q5)] maxLocals)) t := fun t kt => pre42 _ (st44.trans kt)
      have pre46 : ∀ t, Steps p.tables e below (T44.setTop (mkF m 113 #[.val (.int p0), .val (.int p1), .val (.int p2), .val (.int p3), .val (.int p4), .val (.long q5), .second, .val (.ref aW), .val (.int (own_k p1)), .val (.double (own_th p2)), .second, .val (.int (1 : Int32)), .val (.ref b24), .val (.ref b33), .unset, .unset, .unset, .unset] [(.int (1 : Int32))])) t → Steps p.tables e below (s₁.setTop (entryFrame m #[(.int p0), (.int p1), (.int p2), (.int p3), (.int p4), (.long q5)] maxLocals)) t := fun t kt => by
        refine pre45 _ ?_
        show Steps p.tables e below (T44.setTop (mkF m 105 #[.val (.int p0), .val (.int p1), .val (.int p2), .val (.int p3), .val (.int p4), .val (.long q5), .second, .val (.ref aW), .val (.int (own_k p1)), .val (.double (own_th p2)), .second, .val (.int (1 : Int32)), .val (.ref b24), .val (.ref b33), .unset, .unset, .unset, .unset] [(.int (1 : Int32))])) _
        refine XS.ifNo X44.here hx rfl (hb hby at_105) rfl ((if0 _ _).trans (feq (by decide : ¬ ((1 : Int32) = (0 : Int32)))).1) ?_
        show Steps p.tables e below (T44.setTop (mkF m 108 #[.val (.int p0), .val (.int p1), .val (.int p2), .val (.int p3), .val (.int p4), .val (.long q5), .second, .val (.ref aW), .val (.int (own_k p1)), .val (.double (own_th p2)), .second, .val (.int (1 : Int32)), .val (.ref b24), .val (.ref b33), .unset, .unset, .unset, .unset] [])) _
        refine XS.iconst X44.here hx rfl (hb hby at_108) ?_
        show Steps p.tables e below (T44.setTop (mkF m 109 #[.val (.int p0), .val (.int p1), .val (.int p2), .val (.int p3), .val (.int p4), .val (.long q5), .second, .val (.ref aW), .val (.int (own_k p1)), .val (.double (own_th p2)), .second, .val (.int (1 : Int32)), .val (.ref b24), .val (.ref b33), .unset, .unset, .unset, .unset] [(.int (1 : Int32))])) _
        refine XS.goto X44.here hx rfl (pc0 := 109) (pc' := 113) rfl (hb hby at_109) (by decide) (by decide) ?_
        exact kt
      obtain ⟨fs, hr, hrun, hended, -, hW, hI, hsame⟩ := X44.leaveW hS (he44.symm ▸ hk33) (v := (some (.int (1 : Int32)))) (fun h => by rw [Bd.returns] at h; cases h)
      refine ⟨_, _, pre46 _ ?_, hrun, hended, _, _, rfl, ?_, ⟨_, rfl⟩, hW, hI, hsame.mono (by decide) (by decide)⟩
      · show Steps p.tables e below (T44.setTop (mkF m 113 #[.val (.int p0), .val (.int p1), .val (.int p2), .val (.int p3), .val (.int p4), .val (.long q5), .second, .val (.ref aW), .val (.int (own_k p1)), .val (.double (own_th p2)), .second, .val (.int (1 : Int32)), .val (.ref b24), .val (.ref b33), .unset, .unset, .unset, .unset] [(.int (1 : Int32))])) _
        exact retN X44 hx (t := .boolean) Bd.returns (by simp) (hb hby at_113) hr
      · show Q0 Z p0 p1 p2 p3 p4 q5 aW aC h0 n0 _ T44.heap _
        rw [he44]
        exact ⟨rfl, N44⟩
  · have pre47 : ∀ t, Steps p.tables e below (s₁.setTop (mkF m 14 #[.val (.int p0), .val (.int p1), .val (.int p2), .val (.int p3), .val (.int p4), .val (.long q5), .second, .unset, .unset, .unset, .unset, .unset, .unset, .unset, .unset, .unset, .unset, .unset] [])) t → Steps p.tables e below (s₁.setTop (entryFrame m #[(.int p0), (.int p1), (.int p2), (.int p3), (.int p4), (.long q5)] maxLocals)) t := fun t kt => by
      refine pre1 _ ?_
      show Steps p.tables e below (s₁.setTop (mkF m 5 #[.val (.int p0), .val (.int p1), .val (.int p2), .val (.int p3), .val (.int p4), .val (.long q5), .second, .unset, .unset, .unset, .unset, .unset, .unset, .unset, .unset, .unset, .unset, .unset] [(.int (((p0.toUInt32 >>> ((1 : Int32) &&& 31).toUInt32).toInt32) &&& (1 : Int32)))])) _
      refine XS.ifYes X0.here hx rfl (pc0 := 5) (pc' := 14) rfl (hb hby at_5) rfl ((if0 _ _).trans (feq (c1 : ¬ ((((p0.toUInt32 >>> ((1 : Int32) &&& 31).toUInt32).toInt32) &&& (1 : Int32)) = (0 : Int32)))).2) (by decide) (by decide) ?_
      exact kt
    obtain ⟨T48, X48, e48, st48⟩ := getS2 X0 hx hZ hown (host := "") (Or.inl (hw _ (List.mem_of_getElem? (i := 60) rfl))) Via.refl e0 (SC.ext O0.2) (g := (mkF m 14 #[.val (.int p0), .val (.int p1), .val (.int p2), .val (.int p3), .val (.int p4), .val (.long q5), .second, .unset, .unset, .unset, .unset, .unset, .unset, .unset, .unset, .unset, .unset, .unset] [])) rfl (hb hby at_14)
    have pre49 : ∀ t, Steps p.tables e below (T48.setTop (mkF m 17 #[.val (.int p0), .val (.int p1), .val (.int p2), .val (.int p3), .val (.int p4), .val (.long q5), .second, .unset, .unset, .unset, .unset, .unset, .unset, .unset, .unset, .unset, .unset, .unset] [(.ref aC)])) t → Steps p.tables e below (s₁.setTop (entryFrame m #[(.int p0), (.int p1), (.int p2), (.int p3), (.int p4), (.long q5)] maxLocals)) t := fun t kt => pre47 _ (st48 _ kt)
    have pre50 : ∀ t, Steps p.tables e below (T48.setTop (mkF m 24 #[.val (.int p0), .val (.int p1), .val (.int p2), .val (.int p3), .val (.int p4), .val (.long q5), .second, .val (.ref aC), .unset, .unset, .unset, .unset, .unset, .unset, .unset, .unset, .unset, .unset] [(.int (p1 &&& (2147483647 : Int32))), (.int (1 : Int32))])) t → Steps p.tables e below (s₁.setTop (entryFrame m #[(.int p0), (.int p1), (.int p2), (.int p3), (.int p4), (.long q5)] maxLocals)) t := fun t kt => by
      refine pre49 _ ?_
      show Steps p.tables e below (T48.setTop (mkF m 17 #[.val (.int p0), .val (.int p1), .val (.int p2), .val (.int p3), .val (.int p4), .val (.long q5), .second, .unset, .unset, .unset, .unset, .unset, .unset, .unset, .unset, .unset, .unset, .unset] [(.ref aC)])) _
      refine XS.astore X48.here hx rfl (hb hby at_17) rfl rfl (l' := #[.val (.int p0), .val (.int p1), .val (.int p2), .val (.int p3), .val (.int p4), .val (.long q5), .second, .val (.ref aC), .unset, .unset, .unset, .unset, .unset, .unset, .unset, .unset, .unset, .unset]) rfl ?_
      show Steps p.tables e below (T48.setTop (mkF m 19 #[.val (.int p0), .val (.int p1), .val (.int p2), .val (.int p3), .val (.int p4), .val (.long q5), .second, .val (.ref aC), .unset, .unset, .unset, .unset, .unset, .unset, .unset, .unset, .unset, .unset] [])) _
      refine XS.iconst X48.here hx rfl (hb hby at_19) ?_
      show Steps p.tables e below (T48.setTop (mkF m 20 #[.val (.int p0), .val (.int p1), .val (.int p2), .val (.int p3), .val (.int p4), .val (.long q5), .second, .val (.ref aC), .unset, .unset, .unset, .unset, .unset, .unset, .unset, .unset, .unset, .unset] [(.int (1 : Int32))])) _
      refine XS.iloadN X48.here hx rfl (hb hby at_20) rfl ?_
      show Steps p.tables e below (T48.setTop (mkF m 21 #[.val (.int p0), .val (.int p1), .val (.int p2), .val (.int p3), .val (.int p4), .val (.long q5), .second, .val (.ref aC), .unset, .unset, .unset, .unset, .unset, .unset, .unset, .unset, .unset, .unset] [(.int p1), (.int (1 : Int32))])) _
      refine X48.ldcInt hx hown (mvT hZ (hw _ (List.mem_of_getElem? (i := 3) rfl))) (g := (mkF m 21 #[.val (.int p0), .val (.int p1), .val (.int p2), .val (.int p3), .val (.int p4), .val (.long q5), .second, .val (.ref aC), .unset, .unset, .unset, .unset, .unset, .unset, .unset, .unset, .unset, .unset] [(.int p1), (.int (1 : Int32))])) rfl (hb hby at_21) _ ?_
      show Steps p.tables e below (T48.setTop (mkF m 23 #[.val (.int p0), .val (.int p1), .val (.int p2), .val (.int p3), .val (.int p4), .val (.long q5), .second, .val (.ref aC), .unset, .unset, .unset, .unset, .unset, .unset, .unset, .unset, .unset, .unset] [(.int (2147483647 : Int32)), (.int p1), (.int (1 : Int32))])) _
      refine XS.iand X48.here hx rfl (hb hby at_23) rfl ?_
      exact kt
    obtain ⟨_, _, ⟨T51, L51, kc51, nc51⟩, -, X51, ⟨Lc51, hQ51, l51, y51, z51⟩, st51⟩ := Jvm.LawKit.callS X48 hx (y := (⟨"java/lang/Math", "max", "(II)I"⟩ : MethodName)) hown (mvT hZ (hw _ (List.mem_of_getElem? (i := 4) rfl))) (mvT hZ (hw _ (List.mem_of_getElem? (i := 5) rfl))) (mvT hZ (hw _ (List.mem_of_getElem? (i := 6) rfl))) (mvT hZ (hw _ (List.mem_of_getElem? (i := 7) rfl))) (by decide) (backOf (W := 0) (rm1 l Z a0 hw [] (1 : Int32) (p1 &&& (2147483647 : Int32)) h0 n0 Z0) hZ (hw _ (List.mem_of_getElem? (i := 7) rfl)) (hw _ (List.mem_of_getElem? (i := 6) rfl)) (by decide) (by decide)) (g := (mkF m 24 #[.val (.int p0), .val (.int p1), .val (.int p2), .val (.int p3), .val (.int p4), .val (.long q5), .second, .val (.ref aC), .unset, .unset, .unset, .unset, .unset, .unset, .unset, .unset, .unset, .unset] [(.int (p1 &&& (2147483647 : Int32))), (.int (1 : Int32))])) rfl (by rw [hml]; rfl) (argsL := [(.int (1 : Int32)), (.int (p1 &&& (2147483647 : Int32)))]) (rest := []) (lenOf pd_4 rfl) rfl (by show 2 * 0 + _ ≤ _; exact Nat.le_of_eq rfl) (hb hby at_24) (fun _ _ => ⟨rfl, e48, (by decide : 0 + 0 ≤ _), (by decide : 0 + 0 ≤ _)⟩)
    dsimp only [Pt.U, Pt.locs, Pt.cells, Pt.slots] at X51 l51 y51 z51 st51 hQ51
    subst l51 y51 z51
    obtain ⟨rfl, N51q, he51⟩ := hQ51
    have N51 := Fr.app N0 N51q
    have pre52 : ∀ t, Steps p.tables e below (T51.setTop (mkF m 27 #[.val (.int p0), .val (.int p1), .val (.int p2), .val (.int p3), .val (.int p4), .val (.long q5), .second, .val (.ref aC), .unset, .unset, .unset, .unset, .unset, .unset, .unset, .unset, .unset, .unset] [(.int (own_max (1 : Int32) (p1 &&& (2147483647 : Int32))))])) t → Steps p.tables e below (s₁.setTop (entryFrame m #[(.int p0), (.int p1), (.int p2), (.int p3), (.int p4), (.long q5)] maxLocals)) t := fun t kt => pre50 _ (st51 _ kt)
    have pre53 : ∀ t, Steps p.tables e below (T51.setTop (mkF m 46 #[.val (.int p0), .val (.int p1), .val (.int p2), .val (.int p3), .val (.int p4), .val (.long q5), .second, .val (.ref aC), .val (.int (own_k p1)), .val (.double (own_th p2)), .second, .unset, .unset, .unset, .unset, .unset, .unset, .unset] [(.int (p0 &&& (1 : Int32)))])) t → Steps p.tables e below (s₁.setTop (entryFrame m #[(.int p0), (.int p1), (.int p2), (.int p3), (.int p4), (.long q5)] maxLocals)) t := fun t kt => by
      refine pre52 _ ?_
      show Steps p.tables e below (T51.setTop (mkF m 27 #[.val (.int p0), .val (.int p1), .val (.int p2), .val (.int p3), .val (.int p4), .val (.long q5), .second, .val (.ref aC), .unset, .unset, .unset, .unset, .unset, .unset, .unset, .unset, .unset, .unset] [(.int (own_k p1))])) _
      show Steps p.tables e below (T51.setTop (mkF m 27 #[.val (.int p0), .val (.int p1), .val (.int p2), .val (.int p3), .val (.int p4), .val (.long q5), .second, .val (.ref aC), .unset, .unset, .unset, .unset, .unset, .unset, .unset, .unset, .unset, .unset] [(.int (own_k p1))])) _
      refine XS.istore X51.here hx rfl (hb hby at_27) rfl (l' := #[.val (.int p0), .val (.int p1), .val (.int p2), .val (.int p3), .val (.int p4), .val (.long q5), .second, .val (.ref aC), .val (.int (own_k p1)), .unset, .unset, .unset, .unset, .unset, .unset, .unset, .unset, .unset]) rfl ?_
      show Steps p.tables e below (T51.setTop (mkF m 29 #[.val (.int p0), .val (.int p1), .val (.int p2), .val (.int p3), .val (.int p4), .val (.long q5), .second, .val (.ref aC), .val (.int (own_k p1)), .unset, .unset, .unset, .unset, .unset, .unset, .unset, .unset, .unset] [])) _
      refine XS.iloadN X51.here hx rfl (hb hby at_29) rfl ?_
      show Steps p.tables e below (T51.setTop (mkF m 30 #[.val (.int p0), .val (.int p1), .val (.int p2), .val (.int p3), .val (.int p4), .val (.long q5), .second, .val (.ref aC), .val (.int (own_k p1)), .unset, .unset, .unset, .unset, .unset, .unset, .unset, .unset, .unset] [(.int p2)])) _
      refine XS.sipush X51.here hx rfl (hb hby at_30) ?_
      show Steps p.tables e below (T51.setTop (mkF m 33 #[.val (.int p0), .val (.int p1), .val (.int p2), .val (.int p3), .val (.int p4), .val (.long q5), .second, .val (.ref aC), .val (.int (own_k p1)), .unset, .unset, .unset, .unset, .unset, .unset, .unset, .unset, .unset] [(.int (255 : Int32)), (.int p2)])) _
      refine XS.iand X51.here hx rfl (hb hby at_33) rfl ?_
      show Steps p.tables e below (T51.setTop (mkF m 34 #[.val (.int p0), .val (.int p1), .val (.int p2), .val (.int p3), .val (.int p4), .val (.long q5), .second, .val (.ref aC), .val (.int (own_k p1)), .unset, .unset, .unset, .unset, .unset, .unset, .unset, .unset, .unset] [(.int (p2 &&& (255 : Int32)))])) _
      refine XS.iconst X51.here hx rfl (hb hby at_34) ?_
      show Steps p.tables e below (T51.setTop (mkF m 35 #[.val (.int p0), .val (.int p1), .val (.int p2), .val (.int p3), .val (.int p4), .val (.long q5), .second, .val (.ref aC), .val (.int (own_k p1)), .unset, .unset, .unset, .unset, .unset, .unset, .unset, .unset, .unset] [(.int (1 : Int32)), (.int (p2 &&& (255 : Int32)))])) _
      refine XS.iadd X51.here hx rfl (hb hby at_35) rfl ?_
      show Steps p.tables e below (T51.setTop (mkF m 36 #[.val (.int p0), .val (.int p1), .val (.int p2), .val (.int p3), .val (.int p4), .val (.long q5), .second, .val (.ref aC), .val (.int (own_k p1)), .unset, .unset, .unset, .unset, .unset, .unset, .unset, .unset, .unset] [(.int (own_ti p2))])) _
      show Steps p.tables e below (T51.setTop (mkF m 36 #[.val (.int p0), .val (.int p1), .val (.int p2), .val (.int p3), .val (.int p4), .val (.long q5), .second, .val (.ref aC), .val (.int (own_k p1)), .unset, .unset, .unset, .unset, .unset, .unset, .unset, .unset, .unset] [(.int (own_ti p2))])) _
      refine XS.i2dS X51.here hx rfl (hb hby at_36) rfl rfl ?_
      show Steps p.tables e below (T51.setTop (mkF m 37 #[.val (.int p0), .val (.int p1), .val (.int p2), .val (.int p3), .val (.int p4), .val (.long q5), .second, .val (.ref aC), .val (.int (own_k p1)), .unset, .unset, .unset, .unset, .unset, .unset, .unset, .unset, .unset] [(.double (FP.i2d (own_ti p2)))])) _
      refine X51.ldc2DoubleC hx hown (mvT hZ (hw _ (List.mem_of_getElem? (i := 8) rfl))) (g := (mkF m 37 #[.val (.int p0), .val (.int p1), .val (.int p2), .val (.int p3), .val (.int p4), .val (.long q5), .second, .val (.ref aC), .val (.int (own_k p1)), .unset, .unset, .unset, .unset, .unset, .unset, .unset, .unset, .unset] [(.double (FP.i2d (own_ti p2)))])) rfl (hb hby at_37) _ ?_
      show Steps p.tables e below (T51.setTop (mkF m 40 #[.val (.int p0), .val (.int p1), .val (.int p2), .val (.int p3), .val (.int p4), .val (.long q5), .second, .val (.ref aC), .val (.int (own_k p1)), .unset, .unset, .unset, .unset, .unset, .unset, .unset, .unset, .unset] [(.double (4643211215818981376 : UInt64)), (.double (FP.i2d (own_ti p2)))])) _
      refine XS.ddivS X51.here hx rfl (hb hby at_40) rfl (own_th_nn p2) rfl ?_
      show Steps p.tables e below (T51.setTop (mkF m 41 #[.val (.int p0), .val (.int p1), .val (.int p2), .val (.int p3), .val (.int p4), .val (.long q5), .second, .val (.ref aC), .val (.int (own_k p1)), .unset, .unset, .unset, .unset, .unset, .unset, .unset, .unset, .unset] [(.double (own_th p2))])) _
      refine XS.dstore X51.here hx rfl (hb hby at_41) rfl (l' := #[.val (.int p0), .val (.int p1), .val (.int p2), .val (.int p3), .val (.int p4), .val (.long q5), .second, .val (.ref aC), .val (.int (own_k p1)), .val (.double (own_th p2)), .second, .unset, .unset, .unset, .unset, .unset, .unset, .unset]) rfl ?_
      show Steps p.tables e below (T51.setTop (mkF m 43 #[.val (.int p0), .val (.int p1), .val (.int p2), .val (.int p3), .val (.int p4), .val (.long q5), .second, .val (.ref aC), .val (.int (own_k p1)), .val (.double (own_th p2)), .second, .unset, .unset, .unset, .unset, .unset, .unset, .unset] [])) _
      refine XS.iloadN X51.here hx rfl (hb hby at_43) rfl ?_
      show Steps p.tables e below (T51.setTop (mkF m 44 #[.val (.int p0), .val (.int p1), .val (.int p2), .val (.int p3), .val (.int p4), .val (.long q5), .second, .val (.ref aC), .val (.int (own_k p1)), .val (.double (own_th p2)), .second, .unset, .unset, .unset, .unset, .unset, .unset, .unset] [(.int p0)])) _
      refine XS.iconst X51.here hx rfl (hb hby at_44) ?_
      show Steps p.tables e below (T51.setTop (mkF m 45 #[.val (.int p0), .val (.int p1), .val (.int p2), .val (.int p3), .val (.int p4), .val (.long q5), .second, .val (.ref aC), .val (.int (own_k p1)), .val (.double (own_th p2)), .second, .unset, .unset, .unset, .unset, .unset, .unset, .unset] [(.int (1 : Int32)), (.int p0)])) _
      refine XS.iand X51.here hx rfl (hb hby at_45) rfl ?_
      exact kt
    by_cases c2 : (p0 &&& (1 : Int32)) = (0 : Int32)
    · have pre54 : ∀ t, Steps p.tables e below (T51.setTop (mkF m 164 #[.val (.int p0), .val (.int p1), .val (.int p2), .val (.int p3), .val (.int p4), .val (.long q5), .second, .val (.ref aC), .val (.int (own_k p1)), .val (.double (own_th p2)), .second, .val (.int (0 : Int32)), .val (.int (own_ba p3)), .val (.int (own_ro p3)), .val (.int (own_pr p3)), .val (.int (own_rm p3)), .val (.int (own_sg p3 p4)), .unset] [])) t → Steps p.tables e below (s₁.setTop (entryFrame m #[(.int p0), (.int p1), (.int p2), (.int p3), (.int p4), (.long q5)] maxLocals)) t := fun t kt => by
        refine pre53 _ ?_
        show Steps p.tables e below (T51.setTop (mkF m 46 #[.val (.int p0), .val (.int p1), .val (.int p2), .val (.int p3), .val (.int p4), .val (.long q5), .second, .val (.ref aC), .val (.int (own_k p1)), .val (.double (own_th p2)), .second, .unset, .unset, .unset, .unset, .unset, .unset, .unset] [(.int (p0 &&& (1 : Int32)))])) _
        refine XS.ifYes X51.here hx rfl (pc0 := 46) (pc' := 53) rfl (hb hby at_46) rfl ((if0 _ _).trans (teq (c2 : (p0 &&& (1 : Int32)) = (0 : Int32))).1) (by decide) (by decide) ?_
        show Steps p.tables e below (T51.setTop (mkF m 53 #[.val (.int p0), .val (.int p1), .val (.int p2), .val (.int p3), .val (.int p4), .val (.long q5), .second, .val (.ref aC), .val (.int (own_k p1)), .val (.double (own_th p2)), .second, .unset, .unset, .unset, .unset, .unset, .unset, .unset] [])) _
        refine XS.iconst X51.here hx rfl (hb hby at_53) ?_
        show Steps p.tables e below (T51.setTop (mkF m 54 #[.val (.int p0), .val (.int p1), .val (.int p2), .val (.int p3), .val (.int p4), .val (.long q5), .second, .val (.ref aC), .val (.int (own_k p1)), .val (.double (own_th p2)), .second, .unset, .unset, .unset, .unset, .unset, .unset, .unset] [(.int (0 : Int32))])) _
        refine XS.istore X51.here hx rfl (hb hby at_54) rfl (l' := #[.val (.int p0), .val (.int p1), .val (.int p2), .val (.int p3), .val (.int p4), .val (.long q5), .second, .val (.ref aC), .val (.int (own_k p1)), .val (.double (own_th p2)), .second, .val (.int (0 : Int32)), .unset, .unset, .unset, .unset, .unset, .unset]) rfl ?_
        show Steps p.tables e below (T51.setTop (mkF m 56 #[.val (.int p0), .val (.int p1), .val (.int p2), .val (.int p3), .val (.int p4), .val (.long q5), .second, .val (.ref aC), .val (.int (own_k p1)), .val (.double (own_th p2)), .second, .val (.int (0 : Int32)), .unset, .unset, .unset, .unset, .unset, .unset] [])) _
        refine XS.iload X51.here hx rfl (hb hby at_56) rfl ?_
        show Steps p.tables e below (T51.setTop (mkF m 58 #[.val (.int p0), .val (.int p1), .val (.int p2), .val (.int p3), .val (.int p4), .val (.long q5), .second, .val (.ref aC), .val (.int (own_k p1)), .val (.double (own_th p2)), .second, .val (.int (0 : Int32)), .unset, .unset, .unset, .unset, .unset, .unset] [(.int (0 : Int32))])) _
        refine XS.ifYes X51.here hx rfl (pc0 := 58) (pc' := 114) rfl (hb hby at_58) rfl ((if0 _ _).trans (teq (by decide : (0 : Int32) = (0 : Int32))).1) (by decide) (by decide) ?_
        show Steps p.tables e below (T51.setTop (mkF m 114 #[.val (.int p0), .val (.int p1), .val (.int p2), .val (.int p3), .val (.int p4), .val (.long q5), .second, .val (.ref aC), .val (.int (own_k p1)), .val (.double (own_th p2)), .second, .val (.int (0 : Int32)), .unset, .unset, .unset, .unset, .unset, .unset] [])) _
        refine XS.iloadN X51.here hx rfl (hb hby at_114) rfl ?_
        show Steps p.tables e below (T51.setTop (mkF m 115 #[.val (.int p0), .val (.int p1), .val (.int p2), .val (.int p3), .val (.int p4), .val (.long q5), .second, .val (.ref aC), .val (.int (own_k p1)), .val (.double (own_th p2)), .second, .val (.int (0 : Int32)), .unset, .unset, .unset, .unset, .unset, .unset] [(.int p3)])) _
        refine XS.sipush X51.here hx rfl (hb hby at_115) ?_
        show Steps p.tables e below (T51.setTop (mkF m 118 #[.val (.int p0), .val (.int p1), .val (.int p2), .val (.int p3), .val (.int p4), .val (.long q5), .second, .val (.ref aC), .val (.int (own_k p1)), .val (.double (own_th p2)), .second, .val (.int (0 : Int32)), .unset, .unset, .unset, .unset, .unset, .unset] [(.int (32767 : Int32)), (.int p3)])) _
        refine XS.iand X51.here hx rfl (hb hby at_118) rfl ?_
        show Steps p.tables e below (T51.setTop (mkF m 119 #[.val (.int p0), .val (.int p1), .val (.int p2), .val (.int p3), .val (.int p4), .val (.long q5), .second, .val (.ref aC), .val (.int (own_k p1)), .val (.double (own_th p2)), .second, .val (.int (0 : Int32)), .unset, .unset, .unset, .unset, .unset, .unset] [(.int (p3 &&& (32767 : Int32)))])) _
        refine XS.iconst X51.here hx rfl (hb hby at_119) ?_
        show Steps p.tables e below (T51.setTop (mkF m 120 #[.val (.int p0), .val (.int p1), .val (.int p2), .val (.int p3), .val (.int p4), .val (.long q5), .second, .val (.ref aC), .val (.int (own_k p1)), .val (.double (own_th p2)), .second, .val (.int (0 : Int32)), .unset, .unset, .unset, .unset, .unset, .unset] [(.int (1 : Int32)), (.int (p3 &&& (32767 : Int32)))])) _
        refine XS.iadd X51.here hx rfl (hb hby at_120) rfl ?_
        show Steps p.tables e below (T51.setTop (mkF m 121 #[.val (.int p0), .val (.int p1), .val (.int p2), .val (.int p3), .val (.int p4), .val (.long q5), .second, .val (.ref aC), .val (.int (own_k p1)), .val (.double (own_th p2)), .second, .val (.int (0 : Int32)), .unset, .unset, .unset, .unset, .unset, .unset] [(.int (own_ba p3))])) _
        show Steps p.tables e below (T51.setTop (mkF m 121 #[.val (.int p0), .val (.int p1), .val (.int p2), .val (.int p3), .val (.int p4), .val (.long q5), .second, .val (.ref aC), .val (.int (own_k p1)), .val (.double (own_th p2)), .second, .val (.int (0 : Int32)), .unset, .unset, .unset, .unset, .unset, .unset] [(.int (own_ba p3))])) _
        refine XS.istore X51.here hx rfl (hb hby at_121) rfl (l' := #[.val (.int p0), .val (.int p1), .val (.int p2), .val (.int p3), .val (.int p4), .val (.long q5), .second, .val (.ref aC), .val (.int (own_k p1)), .val (.double (own_th p2)), .second, .val (.int (0 : Int32)), .val (.int (own_ba p3)), .unset, .unset, .unset, .unset, .unset]) rfl ?_
        show Steps p.tables e below (T51.setTop (mkF m 123 #[.val (.int p0), .val (.int p1), .val (.int p2), .val (.int p3), .val (.int p4), .val (.long q5), .second, .val (.ref aC), .val (.int (own_k p1)), .val (.double (own_th p2)), .second, .val (.int (0 : Int32)), .val (.int (own_ba p3)), .unset, .unset, .unset, .unset, .unset] [])) _
        refine XS.iloadN X51.here hx rfl (hb hby at_123) rfl ?_
        show Steps p.tables e below (T51.setTop (mkF m 124 #[.val (.int p0), .val (.int p1), .val (.int p2), .val (.int p3), .val (.int p4), .val (.long q5), .second, .val (.ref aC), .val (.int (own_k p1)), .val (.double (own_th p2)), .second, .val (.int (0 : Int32)), .val (.int (own_ba p3)), .unset, .unset, .unset, .unset, .unset] [(.int p3)])) _
        refine XS.bipush X51.here hx rfl (hb hby at_124) ?_
        show Steps p.tables e below (T51.setTop (mkF m 126 #[.val (.int p0), .val (.int p1), .val (.int p2), .val (.int p3), .val (.int p4), .val (.long q5), .second, .val (.ref aC), .val (.int (own_k p1)), .val (.double (own_th p2)), .second, .val (.int (0 : Int32)), .val (.int (own_ba p3)), .unset, .unset, .unset, .unset, .unset] [(.int (16 : Int32)), (.int p3)])) _
        refine XS.iushr X51.here hx rfl (hb hby at_126) rfl ?_
        show Steps p.tables e below (T51.setTop (mkF m 127 #[.val (.int p0), .val (.int p1), .val (.int p2), .val (.int p3), .val (.int p4), .val (.long q5), .second, .val (.ref aC), .val (.int (own_k p1)), .val (.double (own_th p2)), .second, .val (.int (0 : Int32)), .val (.int (own_ba p3)), .unset, .unset, .unset, .unset, .unset] [(.int ((p3.toUInt32 >>> ((16 : Int32) &&& 31).toUInt32).toInt32))])) _
        refine XS.sipush X51.here hx rfl (hb hby at_127) ?_
        show Steps p.tables e below (T51.setTop (mkF m 130 #[.val (.int p0), .val (.int p1), .val (.int p2), .val (.int p3), .val (.int p4), .val (.long q5), .second, .val (.ref aC), .val (.int (own_k p1)), .val (.double (own_th p2)), .second, .val (.int (0 : Int32)), .val (.int (own_ba p3)), .unset, .unset, .unset, .unset, .unset] [(.int (32767 : Int32)), (.int ((p3.toUInt32 >>> ((16 : Int32) &&& 31).toUInt32).toInt32))])) _
        refine XS.iand X51.here hx rfl (hb hby at_130) rfl ?_
        show Steps p.tables e below (T51.setTop (mkF m 131 #[.val (.int p0), .val (.int p1), .val (.int p2), .val (.int p3), .val (.int p4), .val (.long q5), .second, .val (.ref aC), .val (.int (own_k p1)), .val (.double (own_th p2)), .second, .val (.int (0 : Int32)), .val (.int (own_ba p3)), .unset, .unset, .unset, .unset, .unset] [(.int (((p3.toUInt32 >>> ((16 : Int32) &&& 31).toUInt32).toInt32) &&& (32767 : Int32)))])) _
        refine XS.iconst X51.here hx rfl (hb hby at_131) ?_
        show Steps p.tables e below (T51.setTop (mkF m 132 #[.val (.int p0), .val (.int p1), .val (.int p2), .val (.int p3), .val (.int p4), .val (.long q5), .second, .val (.ref aC), .val (.int (own_k p1)), .val (.double (own_th p2)), .second, .val (.int (0 : Int32)), .val (.int (own_ba p3)), .unset, .unset, .unset, .unset, .unset] [(.int (1 : Int32)), (.int (((p3.toUInt32 >>> ((16 : Int32) &&& 31).toUInt32).toInt32) &&& (32767 : Int32)))])) _
        refine XS.iadd X51.here hx rfl (hb hby at_132) rfl ?_
        show Steps p.tables e below (T51.setTop (mkF m 133 #[.val (.int p0), .val (.int p1), .val (.int p2), .val (.int p3), .val (.int p4), .val (.long q5), .second, .val (.ref aC), .val (.int (own_k p1)), .val (.double (own_th p2)), .second, .val (.int (0 : Int32)), .val (.int (own_ba p3)), .unset, .unset, .unset, .unset, .unset] [(.int (own_ro p3))])) _
        show Steps p.tables e below (T51.setTop (mkF m 133 #[.val (.int p0), .val (.int p1), .val (.int p2), .val (.int p3), .val (.int p4), .val (.long q5), .second, .val (.ref aC), .val (.int (own_k p1)), .val (.double (own_th p2)), .second, .val (.int (0 : Int32)), .val (.int (own_ba p3)), .unset, .unset, .unset, .unset, .unset] [(.int (own_ro p3))])) _
        refine XS.istore X51.here hx rfl (hb hby at_133) rfl (l' := #[.val (.int p0), .val (.int p1), .val (.int p2), .val (.int p3), .val (.int p4), .val (.long q5), .second, .val (.ref aC), .val (.int (own_k p1)), .val (.double (own_th p2)), .second, .val (.int (0 : Int32)), .val (.int (own_ba p3)), .val (.int (own_ro p3)), .unset, .unset, .unset, .unset]) rfl ?_
        show Steps p.tables e below (T51.setTop (mkF m 135 #[.val (.int p0), .val (.int p1), .val (.int p2), .val (.int p3), .val (.int p4), .val (.long q5), .second, .val (.ref aC), .val (.int (own_k p1)), .val (.double (own_th p2)), .second, .val (.int (0 : Int32)), .val (.int (own_ba p3)), .val (.int (own_ro p3)), .unset, .unset, .unset, .unset] [])) _
        refine XS.iload X51.here hx rfl (hb hby at_135) rfl ?_
        show Steps p.tables e below (T51.setTop (mkF m 137 #[.val (.int p0), .val (.int p1), .val (.int p2), .val (.int p3), .val (.int p4), .val (.long q5), .second, .val (.ref aC), .val (.int (own_k p1)), .val (.double (own_th p2)), .second, .val (.int (0 : Int32)), .val (.int (own_ba p3)), .val (.int (own_ro p3)), .unset, .unset, .unset, .unset] [(.int (own_ba p3))])) _
        refine XS.iload X51.here hx rfl (hb hby at_137) rfl ?_
        show Steps p.tables e below (T51.setTop (mkF m 139 #[.val (.int p0), .val (.int p1), .val (.int p2), .val (.int p3), .val (.int p4), .val (.long q5), .second, .val (.ref aC), .val (.int (own_k p1)), .val (.double (own_th p2)), .second, .val (.int (0 : Int32)), .val (.int (own_ba p3)), .val (.int (own_ro p3)), .unset, .unset, .unset, .unset] [(.int (own_ro p3)), (.int (own_ba p3))])) _
        refine XS.imul X51.here hx rfl (hb hby at_139) rfl ?_
        show Steps p.tables e below (T51.setTop (mkF m 140 #[.val (.int p0), .val (.int p1), .val (.int p2), .val (.int p3), .val (.int p4), .val (.long q5), .second, .val (.ref aC), .val (.int (own_k p1)), .val (.double (own_th p2)), .second, .val (.int (0 : Int32)), .val (.int (own_ba p3)), .val (.int (own_ro p3)), .unset, .unset, .unset, .unset] [(.int (own_pr p3))])) _
        show Steps p.tables e below (T51.setTop (mkF m 140 #[.val (.int p0), .val (.int p1), .val (.int p2), .val (.int p3), .val (.int p4), .val (.long q5), .second, .val (.ref aC), .val (.int (own_k p1)), .val (.double (own_th p2)), .second, .val (.int (0 : Int32)), .val (.int (own_ba p3)), .val (.int (own_ro p3)), .unset, .unset, .unset, .unset] [(.int (own_pr p3))])) _
        refine XS.istore X51.here hx rfl (hb hby at_140) rfl (l' := #[.val (.int p0), .val (.int p1), .val (.int p2), .val (.int p3), .val (.int p4), .val (.long q5), .second, .val (.ref aC), .val (.int (own_k p1)), .val (.double (own_th p2)), .second, .val (.int (0 : Int32)), .val (.int (own_ba p3)), .val (.int (own_ro p3)), .val (.int (own_pr p3)), .unset, .unset, .unset]) rfl ?_
        show Steps p.tables e below (T51.setTop (mkF m 142 #[.val (.int p0), .val (.int p1), .val (.int p2), .val (.int p3), .val (.int p4), .val (.long q5), .second, .val (.ref aC), .val (.int (own_k p1)), .val (.double (own_th p2)), .second, .val (.int (0 : Int32)), .val (.int (own_ba p3)), .val (.int (own_ro p3)), .val (.int (own_pr p3)), .unset, .unset, .unset] [])) _
        refine X51.ldcInt hx hown (mvT hZ (hw _ (List.mem_of_getElem? (i := 3) rfl))) (g := (mkF m 142 #[.val (.int p0), .val (.int p1), .val (.int p2), .val (.int p3), .val (.int p4), .val (.long q5), .second, .val (.ref aC), .val (.int (own_k p1)), .val (.double (own_th p2)), .second, .val (.int (0 : Int32)), .val (.int (own_ba p3)), .val (.int (own_ro p3)), .val (.int (own_pr p3)), .unset, .unset, .unset] [])) rfl (hb hby at_142) _ ?_
        show Steps p.tables e below (T51.setTop (mkF m 144 #[.val (.int p0), .val (.int p1), .val (.int p2), .val (.int p3), .val (.int p4), .val (.long q5), .second, .val (.ref aC), .val (.int (own_k p1)), .val (.double (own_th p2)), .second, .val (.int (0 : Int32)), .val (.int (own_ba p3)), .val (.int (own_ro p3)), .val (.int (own_pr p3)), .unset, .unset, .unset] [(.int (2147483647 : Int32))])) _
        refine XS.iload X51.here hx rfl (hb hby at_144) rfl ?_
        show Steps p.tables e below (T51.setTop (mkF m 146 #[.val (.int p0), .val (.int p1), .val (.int p2), .val (.int p3), .val (.int p4), .val (.long q5), .second, .val (.ref aC), .val (.int (own_k p1)), .val (.double (own_th p2)), .second, .val (.int (0 : Int32)), .val (.int (own_ba p3)), .val (.int (own_ro p3)), .val (.int (own_pr p3)), .unset, .unset, .unset] [(.int (own_pr p3)), (.int (2147483647 : Int32))])) _
        refine XS.isub X51.here hx rfl (hb hby at_146) rfl ?_
        show Steps p.tables e below (T51.setTop (mkF m 147 #[.val (.int p0), .val (.int p1), .val (.int p2), .val (.int p3), .val (.int p4), .val (.long q5), .second, .val (.ref aC), .val (.int (own_k p1)), .val (.double (own_th p2)), .second, .val (.int (0 : Int32)), .val (.int (own_ba p3)), .val (.int (own_ro p3)), .val (.int (own_pr p3)), .unset, .unset, .unset] [(.int ((2147483647 : Int32) - (own_pr p3)))])) _
        refine XS.iconst X51.here hx rfl (hb hby at_147) ?_
        show Steps p.tables e below (T51.setTop (mkF m 148 #[.val (.int p0), .val (.int p1), .val (.int p2), .val (.int p3), .val (.int p4), .val (.long q5), .second, .val (.ref aC), .val (.int (own_k p1)), .val (.double (own_th p2)), .second, .val (.int (0 : Int32)), .val (.int (own_ba p3)), .val (.int (own_ro p3)), .val (.int (own_pr p3)), .unset, .unset, .unset] [(.int (1 : Int32)), (.int ((2147483647 : Int32) - (own_pr p3)))])) _
        refine XS.iadd X51.here hx rfl (hb hby at_148) rfl ?_
        show Steps p.tables e below (T51.setTop (mkF m 149 #[.val (.int p0), .val (.int p1), .val (.int p2), .val (.int p3), .val (.int p4), .val (.long q5), .second, .val (.ref aC), .val (.int (own_k p1)), .val (.double (own_th p2)), .second, .val (.int (0 : Int32)), .val (.int (own_ba p3)), .val (.int (own_ro p3)), .val (.int (own_pr p3)), .unset, .unset, .unset] [(.int (own_rm p3))])) _
        show Steps p.tables e below (T51.setTop (mkF m 149 #[.val (.int p0), .val (.int p1), .val (.int p2), .val (.int p3), .val (.int p4), .val (.long q5), .second, .val (.ref aC), .val (.int (own_k p1)), .val (.double (own_th p2)), .second, .val (.int (0 : Int32)), .val (.int (own_ba p3)), .val (.int (own_ro p3)), .val (.int (own_pr p3)), .unset, .unset, .unset] [(.int (own_rm p3))])) _
        refine XS.istore X51.here hx rfl (hb hby at_149) rfl (l' := #[.val (.int p0), .val (.int p1), .val (.int p2), .val (.int p3), .val (.int p4), .val (.long q5), .second, .val (.ref aC), .val (.int (own_k p1)), .val (.double (own_th p2)), .second, .val (.int (0 : Int32)), .val (.int (own_ba p3)), .val (.int (own_ro p3)), .val (.int (own_pr p3)), .val (.int (own_rm p3)), .unset, .unset]) rfl ?_
        show Steps p.tables e below (T51.setTop (mkF m 151 #[.val (.int p0), .val (.int p1), .val (.int p2), .val (.int p3), .val (.int p4), .val (.long q5), .second, .val (.ref aC), .val (.int (own_k p1)), .val (.double (own_th p2)), .second, .val (.int (0 : Int32)), .val (.int (own_ba p3)), .val (.int (own_ro p3)), .val (.int (own_pr p3)), .val (.int (own_rm p3)), .unset, .unset] [])) _
        refine XS.iload X51.here hx rfl (hb hby at_151) rfl ?_
        show Steps p.tables e below (T51.setTop (mkF m 153 #[.val (.int p0), .val (.int p1), .val (.int p2), .val (.int p3), .val (.int p4), .val (.long q5), .second, .val (.ref aC), .val (.int (own_k p1)), .val (.double (own_th p2)), .second, .val (.int (0 : Int32)), .val (.int (own_ba p3)), .val (.int (own_ro p3)), .val (.int (own_pr p3)), .val (.int (own_rm p3)), .unset, .unset] [(.int (own_pr p3))])) _
        refine XS.iload X51.here hx rfl (hb hby at_153) rfl ?_
        show Steps p.tables e below (T51.setTop (mkF m 155 #[.val (.int p0), .val (.int p1), .val (.int p2), .val (.int p3), .val (.int p4), .val (.long q5), .second, .val (.ref aC), .val (.int (own_k p1)), .val (.double (own_th p2)), .second, .val (.int (0 : Int32)), .val (.int (own_ba p3)), .val (.int (own_ro p3)), .val (.int (own_pr p3)), .val (.int (own_rm p3)), .unset, .unset] [(.int p4), (.int (own_pr p3))])) _
        refine X51.ldcInt hx hown (mvT hZ (hw _ (List.mem_of_getElem? (i := 3) rfl))) (g := (mkF m 155 #[.val (.int p0), .val (.int p1), .val (.int p2), .val (.int p3), .val (.int p4), .val (.long q5), .second, .val (.ref aC), .val (.int (own_k p1)), .val (.double (own_th p2)), .second, .val (.int (0 : Int32)), .val (.int (own_ba p3)), .val (.int (own_ro p3)), .val (.int (own_pr p3)), .val (.int (own_rm p3)), .unset, .unset] [(.int p4), (.int (own_pr p3))])) rfl (hb hby at_155) _ ?_
        show Steps p.tables e below (T51.setTop (mkF m 157 #[.val (.int p0), .val (.int p1), .val (.int p2), .val (.int p3), .val (.int p4), .val (.long q5), .second, .val (.ref aC), .val (.int (own_k p1)), .val (.double (own_th p2)), .second, .val (.int (0 : Int32)), .val (.int (own_ba p3)), .val (.int (own_ro p3)), .val (.int (own_pr p3)), .val (.int (own_rm p3)), .unset, .unset] [(.int (2147483647 : Int32)), (.int p4), (.int (own_pr p3))])) _
        refine XS.iand X51.here hx rfl (hb hby at_157) rfl ?_
        show Steps p.tables e below (T51.setTop (mkF m 158 #[.val (.int p0), .val (.int p1), .val (.int p2), .val (.int p3), .val (.int p4), .val (.long q5), .second, .val (.ref aC), .val (.int (own_k p1)), .val (.double (own_th p2)), .second, .val (.int (0 : Int32)), .val (.int (own_ba p3)), .val (.int (own_ro p3)), .val (.int (own_pr p3)), .val (.int (own_rm p3)), .unset, .unset] [(.int (p4 &&& (2147483647 : Int32))), (.int (own_pr p3))])) _
        refine XS.iload X51.here hx rfl (hb hby at_158) rfl ?_
        show Steps p.tables e below (T51.setTop (mkF m 160 #[.val (.int p0), .val (.int p1), .val (.int p2), .val (.int p3), .val (.int p4), .val (.long q5), .second, .val (.ref aC), .val (.int (own_k p1)), .val (.double (own_th p2)), .second, .val (.int (0 : Int32)), .val (.int (own_ba p3)), .val (.int (own_ro p3)), .val (.int (own_pr p3)), .val (.int (own_rm p3)), .unset, .unset] [(.int (own_rm p3)), (.int (p4 &&& (2147483647 : Int32))), (.int (own_pr p3))])) _
        refine Jvm.RoadKit.iremM X51 hx rfl (hb hby at_160) rfl (own_rm_nz p3) ?_
        show Steps p.tables e below (T51.setTop (mkF m 161 #[.val (.int p0), .val (.int p1), .val (.int p2), .val (.int p3), .val (.int p4), .val (.long q5), .second, .val (.ref aC), .val (.int (own_k p1)), .val (.double (own_th p2)), .second, .val (.int (0 : Int32)), .val (.int (own_ba p3)), .val (.int (own_ro p3)), .val (.int (own_pr p3)), .val (.int (own_rm p3)), .unset, .unset] [(.int ((p4 &&& (2147483647 : Int32)) % (own_rm p3))), (.int (own_pr p3))])) _
        refine XS.iadd X51.here hx rfl (hb hby at_161) rfl ?_
        show Steps p.tables e below (T51.setTop (mkF m 162 #[.val (.int p0), .val (.int p1), .val (.int p2), .val (.int p3), .val (.int p4), .val (.long q5), .second, .val (.ref aC), .val (.int (own_k p1)), .val (.double (own_th p2)), .second, .val (.int (0 : Int32)), .val (.int (own_ba p3)), .val (.int (own_ro p3)), .val (.int (own_pr p3)), .val (.int (own_rm p3)), .unset, .unset] [(.int (own_sg p3 p4))])) _
        show Steps p.tables e below (T51.setTop (mkF m 162 #[.val (.int p0), .val (.int p1), .val (.int p2), .val (.int p3), .val (.int p4), .val (.long q5), .second, .val (.ref aC), .val (.int (own_k p1)), .val (.double (own_th p2)), .second, .val (.int (0 : Int32)), .val (.int (own_ba p3)), .val (.int (own_ro p3)), .val (.int (own_pr p3)), .val (.int (own_rm p3)), .unset, .unset] [(.int (own_sg p3 p4))])) _
        refine XS.istore X51.here hx rfl (hb hby at_162) rfl (l' := #[.val (.int p0), .val (.int p1), .val (.int p2), .val (.int p3), .val (.int p4), .val (.long q5), .second, .val (.ref aC), .val (.int (own_k p1)), .val (.double (own_th p2)), .second, .val (.int (0 : Int32)), .val (.int (own_ba p3)), .val (.int (own_ro p3)), .val (.int (own_pr p3)), .val (.int (own_rm p3)), .val (.int (own_sg p3 p4)), .unset]) rfl ?_
        exact kt
      obtain ⟨T55, h55, X55, e55, E55, A55, D55, -, st55⟩ := newO X51 hx hZ hown (hw _ (List.mem_of_getElem? (i := 9) rfl)) (hw _ (List.mem_of_getElem? (i := 10) rfl)) (hw _ (List.mem_of_getElem? (i := 11) rfl)) he51 (g := (mkF m 164 #[.val (.int p0), .val (.int p1), .val (.int p2), .val (.int p3), .val (.int p4), .val (.long q5), .second, .val (.ref aC), .val (.int (own_k p1)), .val (.double (own_th p2)), .second, .val (.int (0 : Int32)), .val (.int (own_ba p3)), .val (.int (own_ro p3)), .val (.int (own_pr p3)), .val (.int (own_rm p3)), .val (.int (own_sg p3 p4)), .unset] [])) rfl (hb hby at_164) (by decide) (by decide)
      obtain ⟨b55, gq55⟩ : ∃ z, z = h0.size := ⟨_, rfl⟩
      rw [← gq55] at A55 D55 st55
      have gg_b55 : n0 ≤ b55 := Nat.le_trans Z0 (Nat.le_of_eq gq55.symm)
      have F55_shingling : Fld Z h55 b55 "com/example/libshingle/libshingle/model/DiscoveryOptions" "shingling" "Lcom/example/libshingle/libshingle/model/Shingling;" .null := D55 (Or.inr (hw _ (List.mem_of_getElem? (i := 42) rfl))) (ty := (.object "com/example/libshingle/libshingle/model/Shingling")) (by decide)
      have F55_k : Fld Z h55 b55 "com/example/libshingle/libshingle/model/DiscoveryOptions" "k" "I" (.int (0 : Int32)) := D55 (Or.inr (hw _ (List.mem_of_getElem? (i := 44) rfl))) (ty := .int) (by decide)
      have F55_threshold : Fld Z h55 b55 "com/example/libshingle/libshingle/model/DiscoveryOptions" "threshold" "D" (.double 0) := D55 (Or.inr (hw _ (List.mem_of_getElem? (i := 46) rfl))) (ty := .double) (by decide)
      have F55_signatureLength : Fld Z h55 b55 "com/example/libshingle/libshingle/model/DiscoveryOptions" "signatureLength" "I" (.int (0 : Int32)) := D55 (Or.inr (hw _ (List.mem_of_getElem? (i := 48) rfl))) (ty := .int) (by decide)
      have F55_bands : Fld Z h55 b55 "com/example/libshingle/libshingle/model/DiscoveryOptions" "bands" "I" (.int (0 : Int32)) := D55 (Or.inr (hw _ (List.mem_of_getElem? (i := 50) rfl))) (ty := .int) (by decide)
      have F55_rows : Fld Z h55 b55 "com/example/libshingle/libshingle/model/DiscoveryOptions" "rows" "I" (.int (0 : Int32)) := D55 (Or.inr (hw _ (List.mem_of_getElem? (i := 52) rfl))) (ty := .int) (by decide)
      have F55_seed : Fld Z h55 b55 "com/example/libshingle/libshingle/model/DiscoveryOptions" "seed" "J" (.long (0 : Int64)) := D55 (Or.inr (hw _ (List.mem_of_getElem? (i := 54) rfl))) (ty := .long) (by decide)
      have pre56 : ∀ t, Steps p.tables e below (T55.setTop (mkF m 167 #[.val (.int p0), .val (.int p1), .val (.int p2), .val (.int p3), .val (.int p4), .val (.long q5), .second, .val (.ref aC), .val (.int (own_k p1)), .val (.double (own_th p2)), .second, .val (.int (0 : Int32)), .val (.int (own_ba p3)), .val (.int (own_ro p3)), .val (.int (own_pr p3)), .val (.int (own_rm p3)), .val (.int (own_sg p3 p4)), .unset] [(.ref b55)])) t → Steps p.tables e below (s₁.setTop (entryFrame m #[(.int p0), (.int p1), (.int p2), (.int p3), (.int p4), (.long q5)] maxLocals)) t := fun t kt => pre54 _ (st55 _ kt)
      have z57 : n0 ≤ h55.size := (Nat.le_trans Z0 E55.1)
      have pre58 : ∀ t, Steps p.tables e below (T55.setTop (mkF m 182 #[.val (.int p0), .val (.int p1), .val (.int p2), .val (.int p3), .val (.int p4), .val (.long q5), .second, .val (.ref aC), .val (.int (own_k p1)), .val (.double (own_th p2)), .second, .val (.int (0 : Int32)), .val (.int (own_ba p3)), .val (.int (own_ro p3)), .val (.int (own_pr p3)), .val (.int (own_rm p3)), .val (.int (own_sg p3 p4)), .unset] [(.long q5), (.int (own_ro p3)), (.int (own_ba p3)), (.int (own_sg p3 p4)), (.double (own_th p2)), (.int (own_k p1)), (.ref aC), (.ref b55), (.ref b55)])) t → Steps p.tables e below (s₁.setTop (entryFrame m #[(.int p0), (.int p1), (.int p2), (.int p3), (.int p4), (.long q5)] maxLocals)) t := fun t kt => by
        refine pre56 _ ?_
        show Steps p.tables e below (T55.setTop (mkF m 167 #[.val (.int p0), .val (.int p1), .val (.int p2), .val (.int p3), .val (.int p4), .val (.long q5), .second, .val (.ref aC), .val (.int (own_k p1)), .val (.double (own_th p2)), .second, .val (.int (0 : Int32)), .val (.int (own_ba p3)), .val (.int (own_ro p3)), .val (.int (own_pr p3)), .val (.int (own_rm p3)), .val (.int (own_sg p3 p4)), .unset] [(.ref b55)])) _
        refine XS.dup X55.here hx rfl (hb hby at_167) rfl rfl ?_
        show Steps p.tables e below (T55.setTop (mkF m 168 #[.val (.int p0), .val (.int p1), .val (.int p2), .val (.int p3), .val (.int p4), .val (.long q5), .second, .val (.ref aC), .val (.int (own_k p1)), .val (.double (own_th p2)), .second, .val (.int (0 : Int32)), .val (.int (own_ba p3)), .val (.int (own_ro p3)), .val (.int (own_pr p3)), .val (.int (own_rm p3)), .val (.int (own_sg p3 p4)), .unset] [(.ref b55), (.ref b55)])) _
        refine XS.aload X55.here hx rfl (hb hby at_168) rfl rfl ?_
        show Steps p.tables e below (T55.setTop (mkF m 170 #[.val (.int p0), .val (.int p1), .val (.int p2), .val (.int p3), .val (.int p4), .val (.long q5), .second, .val (.ref aC), .val (.int (own_k p1)), .val (.double (own_th p2)), .second, .val (.int (0 : Int32)), .val (.int (own_ba p3)), .val (.int (own_ro p3)), .val (.int (own_pr p3)), .val (.int (own_rm p3)), .val (.int (own_sg p3 p4)), .unset] [(.ref aC), (.ref b55), (.ref b55)])) _
        refine XS.iload X55.here hx rfl (hb hby at_170) rfl ?_
        show Steps p.tables e below (T55.setTop (mkF m 172 #[.val (.int p0), .val (.int p1), .val (.int p2), .val (.int p3), .val (.int p4), .val (.long q5), .second, .val (.ref aC), .val (.int (own_k p1)), .val (.double (own_th p2)), .second, .val (.int (0 : Int32)), .val (.int (own_ba p3)), .val (.int (own_ro p3)), .val (.int (own_pr p3)), .val (.int (own_rm p3)), .val (.int (own_sg p3 p4)), .unset] [(.int (own_k p1)), (.ref aC), (.ref b55), (.ref b55)])) _
        refine XS.dload X55.here hx rfl (hb hby at_172) rfl ?_
        show Steps p.tables e below (T55.setTop (mkF m 174 #[.val (.int p0), .val (.int p1), .val (.int p2), .val (.int p3), .val (.int p4), .val (.long q5), .second, .val (.ref aC), .val (.int (own_k p1)), .val (.double (own_th p2)), .second, .val (.int (0 : Int32)), .val (.int (own_ba p3)), .val (.int (own_ro p3)), .val (.int (own_pr p3)), .val (.int (own_rm p3)), .val (.int (own_sg p3 p4)), .unset] [(.double (own_th p2)), (.int (own_k p1)), (.ref aC), (.ref b55), (.ref b55)])) _
        refine XS.iload X55.here hx rfl (hb hby at_174) rfl ?_
        show Steps p.tables e below (T55.setTop (mkF m 176 #[.val (.int p0), .val (.int p1), .val (.int p2), .val (.int p3), .val (.int p4), .val (.long q5), .second, .val (.ref aC), .val (.int (own_k p1)), .val (.double (own_th p2)), .second, .val (.int (0 : Int32)), .val (.int (own_ba p3)), .val (.int (own_ro p3)), .val (.int (own_pr p3)), .val (.int (own_rm p3)), .val (.int (own_sg p3 p4)), .unset] [(.int (own_sg p3 p4)), (.double (own_th p2)), (.int (own_k p1)), (.ref aC), (.ref b55), (.ref b55)])) _
        refine XS.iload X55.here hx rfl (hb hby at_176) rfl ?_
        show Steps p.tables e below (T55.setTop (mkF m 178 #[.val (.int p0), .val (.int p1), .val (.int p2), .val (.int p3), .val (.int p4), .val (.long q5), .second, .val (.ref aC), .val (.int (own_k p1)), .val (.double (own_th p2)), .second, .val (.int (0 : Int32)), .val (.int (own_ba p3)), .val (.int (own_ro p3)), .val (.int (own_pr p3)), .val (.int (own_rm p3)), .val (.int (own_sg p3 p4)), .unset] [(.int (own_ba p3)), (.int (own_sg p3 p4)), (.double (own_th p2)), (.int (own_k p1)), (.ref aC), (.ref b55), (.ref b55)])) _
        refine XS.iload X55.here hx rfl (hb hby at_178) rfl ?_
        show Steps p.tables e below (T55.setTop (mkF m 180 #[.val (.int p0), .val (.int p1), .val (.int p2), .val (.int p3), .val (.int p4), .val (.long q5), .second, .val (.ref aC), .val (.int (own_k p1)), .val (.double (own_th p2)), .second, .val (.int (0 : Int32)), .val (.int (own_ba p3)), .val (.int (own_ro p3)), .val (.int (own_pr p3)), .val (.int (own_rm p3)), .val (.int (own_sg p3 p4)), .unset] [(.int (own_ro p3)), (.int (own_ba p3)), (.int (own_sg p3 p4)), (.double (own_th p2)), (.int (own_k p1)), (.ref aC), (.ref b55), (.ref b55)])) _
        refine XS.lload X55.here hx rfl (hb hby at_180) rfl ?_
        exact kt
      have hk59 := (Nat.le_trans hk E55.1)
      obtain ⟨_, _, ⟨T60, L60, kc60, nc60⟩, -, Xo60, hSo60, gr60, ⟨Lc60, hQ60, l60, y60, z60⟩, st60⟩ := X55.specialBackS hx (y := (⟨"com/example/libshingle/libshingle/model/DiscoveryOptions", "<init>", "(Lcom/example/libshingle/libshingle/model/Shingling;IDIIIJ)V"⟩ : MethodName)) rfl hown (mvT hZ (hw _ (List.mem_of_getElem? (i := 12) rfl))) (mvT hZ (hw _ (List.mem_of_getElem? (i := 13) rfl))) (mvT hZ (hw _ (List.mem_of_getElem? (i := 14) rfl))) (by decide) (backOfS (W := 1) (rmin l Z a0 hw [] b55 aC (own_k p1) (own_th p2) (own_sg p3 p4) (own_ba p3) (own_ro p3) q5 h55 n0 z57 A55 F55_shingling F55_k F55_threshold F55_signatureLength F55_bands F55_rows F55_seed gg_b55 (own_k1 p1) (own_th0 p2) (own_th1 p2) (own_h5 p3 p4) (own_h6 p3) (own_h7 p3) (own_hb p3 p4)) hZ (hw _ (List.mem_of_getElem? (i := 14) rfl)) (hw _ (List.mem_of_getElem? (i := 11) rfl)) (by decide) (by decide)) (g := (mkF m 182 #[.val (.int p0), .val (.int p1), .val (.int p2), .val (.int p3), .val (.int p4), .val (.long q5), .second, .val (.ref aC), .val (.int (own_k p1)), .val (.double (own_th p2)), .second, .val (.int (0 : Int32)), .val (.int (own_ba p3)), .val (.int (own_ro p3)), .val (.int (own_pr p3)), .val (.int (own_rm p3)), .val (.int (own_sg p3 p4)), .unset] [(.long q5), (.int (own_ro p3)), (.int (own_ba p3)), (.int (own_sg p3 p4)), (.double (own_th p2)), (.int (own_k p1)), (.ref aC), (.ref b55), (.ref b55)])) rfl (by rw [hml]; rfl) (Steps.refl _) (a := b55) (argsL := [(.ref aC), (.int (own_k p1)), (.double (own_th p2)), (.int (own_sg p3 p4)), (.int (own_ba p3)), (.int (own_ro p3)), (.long q5)]) (rest := [(.ref b55)]) (lenOf pd_3 rfl) rfl (by show 2 * 0 + _ ≤ _; exact Nat.le_of_eq rfl) (hb hby at_182) (fun _ _ => ⟨rfl, e55, (by decide : 1 + 8 ≤ _), (by decide : 7 + 92 ≤ _)⟩)
      dsimp only [Pt.U, Pt.locs, Pt.cells, Pt.slots] at Xo60 hSo60 gr60 l60 y60 z60 st60 hQ60
      subst l60 y60 z60
      obtain ⟨X60, hS60, hZ60, hown60⟩ := rebS hS (e55.symm ▸ hk59) Xo60 hSo60 gr60 hZ hown
      have hZ := hZ60
      have hown := hown60
      have hS := hS60
      obtain ⟨rfl, N60q, K60, Ex60, Fs60⟩ := hQ60
      have N60 := Fr.app N51 N60q
      have hk60 : T60.heap.size ≤ T60.heap.size := Nat.le_refl _
      have pre61 : ∀ t, Steps p.tables e below (T60.setTop (mkF m 185 #[.val (.int p0), .val (.int p1), .val (.int p2), .val (.int p3), .val (.int p4), .val (.long q5), .second, .val (.ref aC), .val (.int (own_k p1)), .val (.double (own_th p2)), .second, .val (.int (0 : Int32)), .val (.int (own_ba p3)), .val (.int (own_ro p3)), .val (.int (own_pr p3)), .val (.int (own_rm p3)), .val (.int (own_sg p3 p4)), .unset] [(.ref b55)])) t → Steps p.tables e below (s₁.setTop (entryFrame m #[(.int p0), (.int p1), (.int p2), (.int p3), (.int p4), (.long q5)] maxLocals)) t := fun t kt => pre58 _ (st60.trans kt)
      have z62 : n0 ≤ T60.heap.size := (Nat.le_trans z57 K60.1)
      have pre63 : ∀ t, Steps p.tables e below (T60.setTop (mkF m 189 #[.val (.int p0), .val (.int p1), .val (.int p2), .val (.int p3), .val (.int p4), .val (.long q5), .second, .val (.ref aC), .val (.int (own_k p1)), .val (.double (own_th p2)), .second, .val (.int (0 : Int32)), .val (.int (own_ba p3)), .val (.int (own_ro p3)), .val (.int (own_pr p3)), .val (.int (own_rm p3)), .val (.int (own_sg p3 p4)), .val (.ref b55)] [(.ref b55)])) t → Steps p.tables e below (s₁.setTop (entryFrame m #[(.int p0), (.int p1), (.int p2), (.int p3), (.int p4), (.long q5)] maxLocals)) t := fun t kt => by
        refine pre61 _ ?_
        show Steps p.tables e below (T60.setTop (mkF m 185 #[.val (.int p0), .val (.int p1), .val (.int p2), .val (.int p3), .val (.int p4), .val (.long q5), .second, .val (.ref aC), .val (.int (own_k p1)), .val (.double (own_th p2)), .second, .val (.int (0 : Int32)), .val (.int (own_ba p3)), .val (.int (own_ro p3)), .val (.int (own_pr p3)), .val (.int (own_rm p3)), .val (.int (own_sg p3 p4)), .unset] [(.ref b55)])) _
        refine XS.astore X60.here hx rfl (hb hby at_185) rfl rfl (l' := #[.val (.int p0), .val (.int p1), .val (.int p2), .val (.int p3), .val (.int p4), .val (.long q5), .second, .val (.ref aC), .val (.int (own_k p1)), .val (.double (own_th p2)), .second, .val (.int (0 : Int32)), .val (.int (own_ba p3)), .val (.int (own_ro p3)), .val (.int (own_pr p3)), .val (.int (own_rm p3)), .val (.int (own_sg p3 p4)), .val (.ref b55)]) rfl ?_
        show Steps p.tables e below (T60.setTop (mkF m 187 #[.val (.int p0), .val (.int p1), .val (.int p2), .val (.int p3), .val (.int p4), .val (.long q5), .second, .val (.ref aC), .val (.int (own_k p1)), .val (.double (own_th p2)), .second, .val (.int (0 : Int32)), .val (.int (own_ba p3)), .val (.int (own_ro p3)), .val (.int (own_pr p3)), .val (.int (own_rm p3)), .val (.int (own_sg p3 p4)), .val (.ref b55)] [])) _
        refine XS.aload X60.here hx rfl (hb hby at_187) rfl rfl ?_
        exact kt
      obtain ⟨cq64, kq64, q64a, q64b, q64c⟩ := isOf hZ rfl Ex60
      obtain ⟨_, _, ⟨T65, L65, kc65, nc65⟩, -, X65, ⟨Lc65, hQ65, l65, y65, z65⟩, st65⟩ := X60.virtualBack hx (y := (⟨"com/example/libshingle/libshingle/model/DiscoveryOptions", "isExact", "()Z"⟩ : MethodName)) (z := (⟨"com/example/libshingle/libshingle/model/DiscoveryOptions", "isExact", "()Z"⟩ : MethodName)) hown (mvT hZ (hw _ (List.mem_of_getElem? (i := 55) rfl))) (mvT hZ (hw _ (List.mem_of_getElem? (i := 56) rfl))) (notFace_of_selects (args := #[]) (mvT hZ (hw _ (List.mem_of_getElem? (i := 58) rfl)))) (mvT hZ (hw _ (List.mem_of_getElem? (i := 58) rfl))) (mvT hZ (hw _ (List.mem_of_getElem? (i := 57) rfl))) (by decide) (backOf (W := 0) (rmxn l Z a0 hw [] b55 (own_sg p3 p4) T60.heap n0 z62 Fs60 (own_h5 p3 p4)) hZ (hw _ (List.mem_of_getElem? (i := 59) rfl)) (hw _ (List.mem_of_getElem? (i := 11) rfl)) (by decide) (by decide)) q64a q64c (g := (mkF m 189 #[.val (.int p0), .val (.int p1), .val (.int p2), .val (.int p3), .val (.int p4), .val (.long q5), .second, .val (.ref aC), .val (.int (own_k p1)), .val (.double (own_th p2)), .second, .val (.int (0 : Int32)), .val (.int (own_ba p3)), .val (.int (own_ro p3)), .val (.int (own_pr p3)), .val (.int (own_rm p3)), .val (.int (own_sg p3 p4)), .val (.ref b55)] [(.ref b55)])) rfl (by rw [hml]; rfl) (Steps.refl _) (argsL := []) (rest := []) (lenOf pd_5 rfl) rfl (by show 2 * 0 + _ ≤ _; exact Nat.le_of_eq rfl) (hb hby at_189) (fun _ _ => ⟨rfl, rfl, (by decide : 9 + 0 ≤ _), (by decide : 99 + 0 ≤ _)⟩)
      dsimp only [Pt.U, Pt.locs, Pt.cells, Pt.slots] at X65 l65 y65 z65 st65 hQ65
      subst l65 y65 z65
      obtain ⟨rfl, N65q, he65⟩ := hQ65
      have N65 := Fr.app N60 N65q
      have pre66 : ∀ t, Steps p.tables e below (T65.setTop (mkF m 192 #[.val (.int p0), .val (.int p1), .val (.int p2), .val (.int p3), .val (.int p4), .val (.long q5), .second, .val (.ref aC), .val (.int (own_k p1)), .val (.double (own_th p2)), .second, .val (.int (0 : Int32)), .val (.int (own_ba p3)), .val (.int (own_ro p3)), .val (.int (own_pr p3)), .val (.int (own_rm p3)), .val (.int (own_sg p3 p4)), .val (.ref b55)] [(.int (0 : Int32))])) t → Steps p.tables e below (s₁.setTop (entryFrame m #[(.int p0), (.int p1), (.int p2), (.int p3), (.int p4), (.long q5)] maxLocals)) t := fun t kt => pre63 _ (st65.trans kt)
      have pre67 : ∀ t, Steps p.tables e below (T65.setTop (mkF m 200 #[.val (.int p0), .val (.int p1), .val (.int p2), .val (.int p3), .val (.int p4), .val (.long q5), .second, .val (.ref aC), .val (.int (own_k p1)), .val (.double (own_th p2)), .second, .val (.int (0 : Int32)), .val (.int (own_ba p3)), .val (.int (own_ro p3)), .val (.int (own_pr p3)), .val (.int (own_rm p3)), .val (.int (own_sg p3 p4)), .val (.ref b55)] [(.int (1 : Int32))])) t → Steps p.tables e below (s₁.setTop (entryFrame m #[(.int p0), (.int p1), (.int p2), (.int p3), (.int p4), (.long q5)] maxLocals)) t := fun t kt => by
        refine pre66 _ ?_
        show Steps p.tables e below (T65.setTop (mkF m 192 #[.val (.int p0), .val (.int p1), .val (.int p2), .val (.int p3), .val (.int p4), .val (.long q5), .second, .val (.ref aC), .val (.int (own_k p1)), .val (.double (own_th p2)), .second, .val (.int (0 : Int32)), .val (.int (own_ba p3)), .val (.int (own_ro p3)), .val (.int (own_pr p3)), .val (.int (own_rm p3)), .val (.int (own_sg p3 p4)), .val (.ref b55)] [(.int (0 : Int32))])) _
        refine XS.ifNo X65.here hx rfl (hb hby at_192) rfl ((if0 _ _).trans (teq (by decide : (0 : Int32) = (0 : Int32))).2) ?_
        show Steps p.tables e below (T65.setTop (mkF m 195 #[.val (.int p0), .val (.int p1), .val (.int p2), .val (.int p3), .val (.int p4), .val (.long q5), .second, .val (.ref aC), .val (.int (own_k p1)), .val (.double (own_th p2)), .second, .val (.int (0 : Int32)), .val (.int (own_ba p3)), .val (.int (own_ro p3)), .val (.int (own_pr p3)), .val (.int (own_rm p3)), .val (.int (own_sg p3 p4)), .val (.ref b55)] [])) _
        refine XS.iconst X65.here hx rfl (hb hby at_195) ?_
        show Steps p.tables e below (T65.setTop (mkF m 196 #[.val (.int p0), .val (.int p1), .val (.int p2), .val (.int p3), .val (.int p4), .val (.long q5), .second, .val (.ref aC), .val (.int (own_k p1)), .val (.double (own_th p2)), .second, .val (.int (0 : Int32)), .val (.int (own_ba p3)), .val (.int (own_ro p3)), .val (.int (own_pr p3)), .val (.int (own_rm p3)), .val (.int (own_sg p3 p4)), .val (.ref b55)] [(.int (1 : Int32))])) _
        refine XS.goto X65.here hx rfl (pc0 := 196) (pc' := 200) rfl (hb hby at_196) (by decide) (by decide) ?_
        exact kt
      obtain ⟨fs, hr, hrun, hended, -, hW, hI, hsame⟩ := X65.leaveW hS (he65.symm ▸ hk60) (v := (some (.int (1 : Int32)))) (fun h => by rw [Bd.returns] at h; cases h)
      refine ⟨_, _, pre67 _ ?_, hrun, hended, _, _, rfl, ?_, ⟨_, rfl⟩, hW, hI, hsame.mono (by decide) (by decide)⟩
      · show Steps p.tables e below (T65.setTop (mkF m 200 #[.val (.int p0), .val (.int p1), .val (.int p2), .val (.int p3), .val (.int p4), .val (.long q5), .second, .val (.ref aC), .val (.int (own_k p1)), .val (.double (own_th p2)), .second, .val (.int (0 : Int32)), .val (.int (own_ba p3)), .val (.int (own_ro p3)), .val (.int (own_pr p3)), .val (.int (own_rm p3)), .val (.int (own_sg p3 p4)), .val (.ref b55)] [(.int (1 : Int32))])) _
        exact retN X65 hx (t := .boolean) Bd.returns (by simp) (hb hby at_200) hr
      · show Q0 Z p0 p1 p2 p3 p4 q5 aW aC h0 n0 _ T65.heap _
        rw [he65]
        exact ⟨rfl, N65⟩
    · have pre68 : ∀ t, Steps p.tables e below (T51.setTop (mkF m 61 #[.val (.int p0), .val (.int p1), .val (.int p2), .val (.int p3), .val (.int p4), .val (.long q5), .second, .val (.ref aC), .val (.int (own_k p1)), .val (.double (own_th p2)), .second, .val (.int (1 : Int32)), .unset, .unset, .unset, .unset, .unset, .unset] [])) t → Steps p.tables e below (s₁.setTop (entryFrame m #[(.int p0), (.int p1), (.int p2), (.int p3), (.int p4), (.long q5)] maxLocals)) t := fun t kt => by
        refine pre53 _ ?_
        show Steps p.tables e below (T51.setTop (mkF m 46 #[.val (.int p0), .val (.int p1), .val (.int p2), .val (.int p3), .val (.int p4), .val (.long q5), .second, .val (.ref aC), .val (.int (own_k p1)), .val (.double (own_th p2)), .second, .unset, .unset, .unset, .unset, .unset, .unset, .unset] [(.int (p0 &&& (1 : Int32)))])) _
        refine XS.ifNo X51.here hx rfl (hb hby at_46) rfl ((if0 _ _).trans (feq (c2 : ¬ ((p0 &&& (1 : Int32)) = (0 : Int32)))).1) ?_
        show Steps p.tables e below (T51.setTop (mkF m 49 #[.val (.int p0), .val (.int p1), .val (.int p2), .val (.int p3), .val (.int p4), .val (.long q5), .second, .val (.ref aC), .val (.int (own_k p1)), .val (.double (own_th p2)), .second, .unset, .unset, .unset, .unset, .unset, .unset, .unset] [])) _
        refine XS.iconst X51.here hx rfl (hb hby at_49) ?_
        show Steps p.tables e below (T51.setTop (mkF m 50 #[.val (.int p0), .val (.int p1), .val (.int p2), .val (.int p3), .val (.int p4), .val (.long q5), .second, .val (.ref aC), .val (.int (own_k p1)), .val (.double (own_th p2)), .second, .unset, .unset, .unset, .unset, .unset, .unset, .unset] [(.int (1 : Int32))])) _
        refine XS.goto X51.here hx rfl (pc0 := 50) (pc' := 54) rfl (hb hby at_50) (by decide) (by decide) ?_
        show Steps p.tables e below (T51.setTop (mkF m 54 #[.val (.int p0), .val (.int p1), .val (.int p2), .val (.int p3), .val (.int p4), .val (.long q5), .second, .val (.ref aC), .val (.int (own_k p1)), .val (.double (own_th p2)), .second, .unset, .unset, .unset, .unset, .unset, .unset, .unset] [(.int (1 : Int32))])) _
        refine XS.istore X51.here hx rfl (hb hby at_54) rfl (l' := #[.val (.int p0), .val (.int p1), .val (.int p2), .val (.int p3), .val (.int p4), .val (.long q5), .second, .val (.ref aC), .val (.int (own_k p1)), .val (.double (own_th p2)), .second, .val (.int (1 : Int32)), .unset, .unset, .unset, .unset, .unset, .unset]) rfl ?_
        show Steps p.tables e below (T51.setTop (mkF m 56 #[.val (.int p0), .val (.int p1), .val (.int p2), .val (.int p3), .val (.int p4), .val (.long q5), .second, .val (.ref aC), .val (.int (own_k p1)), .val (.double (own_th p2)), .second, .val (.int (1 : Int32)), .unset, .unset, .unset, .unset, .unset, .unset] [])) _
        refine XS.iload X51.here hx rfl (hb hby at_56) rfl ?_
        show Steps p.tables e below (T51.setTop (mkF m 58 #[.val (.int p0), .val (.int p1), .val (.int p2), .val (.int p3), .val (.int p4), .val (.long q5), .second, .val (.ref aC), .val (.int (own_k p1)), .val (.double (own_th p2)), .second, .val (.int (1 : Int32)), .unset, .unset, .unset, .unset, .unset, .unset] [(.int (1 : Int32))])) _
        refine XS.ifNo X51.here hx rfl (hb hby at_58) rfl ((if0 _ _).trans (feq (by decide : ¬ ((1 : Int32) = (0 : Int32)))).1) ?_
        exact kt
      obtain ⟨T69, h69, X69, e69, E69, A69, D69, -, st69⟩ := newO X51 hx hZ hown (hw _ (List.mem_of_getElem? (i := 9) rfl)) (hw _ (List.mem_of_getElem? (i := 10) rfl)) (hw _ (List.mem_of_getElem? (i := 11) rfl)) he51 (g := (mkF m 61 #[.val (.int p0), .val (.int p1), .val (.int p2), .val (.int p3), .val (.int p4), .val (.long q5), .second, .val (.ref aC), .val (.int (own_k p1)), .val (.double (own_th p2)), .second, .val (.int (1 : Int32)), .unset, .unset, .unset, .unset, .unset, .unset] [])) rfl (hb hby at_61) (by decide) (by decide)
      obtain ⟨b69, gq69⟩ : ∃ z, z = h0.size := ⟨_, rfl⟩
      rw [← gq69] at A69 D69 st69
      have gg_b69 : n0 ≤ b69 := Nat.le_trans Z0 (Nat.le_of_eq gq69.symm)
      have F69_shingling : Fld Z h69 b69 "com/example/libshingle/libshingle/model/DiscoveryOptions" "shingling" "Lcom/example/libshingle/libshingle/model/Shingling;" .null := D69 (Or.inr (hw _ (List.mem_of_getElem? (i := 42) rfl))) (ty := (.object "com/example/libshingle/libshingle/model/Shingling")) (by decide)
      have F69_k : Fld Z h69 b69 "com/example/libshingle/libshingle/model/DiscoveryOptions" "k" "I" (.int (0 : Int32)) := D69 (Or.inr (hw _ (List.mem_of_getElem? (i := 44) rfl))) (ty := .int) (by decide)
      have F69_threshold : Fld Z h69 b69 "com/example/libshingle/libshingle/model/DiscoveryOptions" "threshold" "D" (.double 0) := D69 (Or.inr (hw _ (List.mem_of_getElem? (i := 46) rfl))) (ty := .double) (by decide)
      have F69_signatureLength : Fld Z h69 b69 "com/example/libshingle/libshingle/model/DiscoveryOptions" "signatureLength" "I" (.int (0 : Int32)) := D69 (Or.inr (hw _ (List.mem_of_getElem? (i := 48) rfl))) (ty := .int) (by decide)
      have F69_bands : Fld Z h69 b69 "com/example/libshingle/libshingle/model/DiscoveryOptions" "bands" "I" (.int (0 : Int32)) := D69 (Or.inr (hw _ (List.mem_of_getElem? (i := 50) rfl))) (ty := .int) (by decide)
      have F69_rows : Fld Z h69 b69 "com/example/libshingle/libshingle/model/DiscoveryOptions" "rows" "I" (.int (0 : Int32)) := D69 (Or.inr (hw _ (List.mem_of_getElem? (i := 52) rfl))) (ty := .int) (by decide)
      have F69_seed : Fld Z h69 b69 "com/example/libshingle/libshingle/model/DiscoveryOptions" "seed" "J" (.long (0 : Int64)) := D69 (Or.inr (hw _ (List.mem_of_getElem? (i := 54) rfl))) (ty := .long) (by decide)
      have pre70 : ∀ t, Steps p.tables e below (T69.setTop (mkF m 64 #[.val (.int p0), .val (.int p1), .val (.int p2), .val (.int p3), .val (.int p4), .val (.long q5), .second, .val (.ref aC), .val (.int (own_k p1)), .val (.double (own_th p2)), .second, .val (.int (1 : Int32)), .unset, .unset, .unset, .unset, .unset, .unset] [(.ref b69)])) t → Steps p.tables e below (s₁.setTop (entryFrame m #[(.int p0), (.int p1), (.int p2), (.int p3), (.int p4), (.long q5)] maxLocals)) t := fun t kt => pre68 _ (st69 _ kt)
      have z71 : n0 ≤ h69.size := (Nat.le_trans Z0 E69.1)
      have pre72 : ∀ t, Steps p.tables e below (T69.setTop (mkF m 76 #[.val (.int p0), .val (.int p1), .val (.int p2), .val (.int p3), .val (.int p4), .val (.long q5), .second, .val (.ref aC), .val (.int (own_k p1)), .val (.double (own_th p2)), .second, .val (.int (1 : Int32)), .unset, .unset, .unset, .unset, .unset, .unset] [(.long q5), (.int (0 : Int32)), (.int (0 : Int32)), (.int (0 : Int32)), (.double (own_th p2)), (.int (own_k p1)), (.ref aC), (.ref b69), (.ref b69)])) t → Steps p.tables e below (s₁.setTop (entryFrame m #[(.int p0), (.int p1), (.int p2), (.int p3), (.int p4), (.long q5)] maxLocals)) t := fun t kt => by
        refine pre70 _ ?_
        show Steps p.tables e below (T69.setTop (mkF m 64 #[.val (.int p0), .val (.int p1), .val (.int p2), .val (.int p3), .val (.int p4), .val (.long q5), .second, .val (.ref aC), .val (.int (own_k p1)), .val (.double (own_th p2)), .second, .val (.int (1 : Int32)), .unset, .unset, .unset, .unset, .unset, .unset] [(.ref b69)])) _
        refine XS.dup X69.here hx rfl (hb hby at_64) rfl rfl ?_
        show Steps p.tables e below (T69.setTop (mkF m 65 #[.val (.int p0), .val (.int p1), .val (.int p2), .val (.int p3), .val (.int p4), .val (.long q5), .second, .val (.ref aC), .val (.int (own_k p1)), .val (.double (own_th p2)), .second, .val (.int (1 : Int32)), .unset, .unset, .unset, .unset, .unset, .unset] [(.ref b69), (.ref b69)])) _
        refine XS.aload X69.here hx rfl (hb hby at_65) rfl rfl ?_
        show Steps p.tables e below (T69.setTop (mkF m 67 #[.val (.int p0), .val (.int p1), .val (.int p2), .val (.int p3), .val (.int p4), .val (.long q5), .second, .val (.ref aC), .val (.int (own_k p1)), .val (.double (own_th p2)), .second, .val (.int (1 : Int32)), .unset, .unset, .unset, .unset, .unset, .unset] [(.ref aC), (.ref b69), (.ref b69)])) _
        refine XS.iload X69.here hx rfl (hb hby at_67) rfl ?_
        show Steps p.tables e below (T69.setTop (mkF m 69 #[.val (.int p0), .val (.int p1), .val (.int p2), .val (.int p3), .val (.int p4), .val (.long q5), .second, .val (.ref aC), .val (.int (own_k p1)), .val (.double (own_th p2)), .second, .val (.int (1 : Int32)), .unset, .unset, .unset, .unset, .unset, .unset] [(.int (own_k p1)), (.ref aC), (.ref b69), (.ref b69)])) _
        refine XS.dload X69.here hx rfl (hb hby at_69) rfl ?_
        show Steps p.tables e below (T69.setTop (mkF m 71 #[.val (.int p0), .val (.int p1), .val (.int p2), .val (.int p3), .val (.int p4), .val (.long q5), .second, .val (.ref aC), .val (.int (own_k p1)), .val (.double (own_th p2)), .second, .val (.int (1 : Int32)), .unset, .unset, .unset, .unset, .unset, .unset] [(.double (own_th p2)), (.int (own_k p1)), (.ref aC), (.ref b69), (.ref b69)])) _
        refine XS.iconst X69.here hx rfl (hb hby at_71) ?_
        show Steps p.tables e below (T69.setTop (mkF m 72 #[.val (.int p0), .val (.int p1), .val (.int p2), .val (.int p3), .val (.int p4), .val (.long q5), .second, .val (.ref aC), .val (.int (own_k p1)), .val (.double (own_th p2)), .second, .val (.int (1 : Int32)), .unset, .unset, .unset, .unset, .unset, .unset] [(.int (0 : Int32)), (.double (own_th p2)), (.int (own_k p1)), (.ref aC), (.ref b69), (.ref b69)])) _
        refine XS.iconst X69.here hx rfl (hb hby at_72) ?_
        show Steps p.tables e below (T69.setTop (mkF m 73 #[.val (.int p0), .val (.int p1), .val (.int p2), .val (.int p3), .val (.int p4), .val (.long q5), .second, .val (.ref aC), .val (.int (own_k p1)), .val (.double (own_th p2)), .second, .val (.int (1 : Int32)), .unset, .unset, .unset, .unset, .unset, .unset] [(.int (0 : Int32)), (.int (0 : Int32)), (.double (own_th p2)), (.int (own_k p1)), (.ref aC), (.ref b69), (.ref b69)])) _
        refine XS.iconst X69.here hx rfl (hb hby at_73) ?_
        show Steps p.tables e below (T69.setTop (mkF m 74 #[.val (.int p0), .val (.int p1), .val (.int p2), .val (.int p3), .val (.int p4), .val (.long q5), .second, .val (.ref aC), .val (.int (own_k p1)), .val (.double (own_th p2)), .second, .val (.int (1 : Int32)), .unset, .unset, .unset, .unset, .unset, .unset] [(.int (0 : Int32)), (.int (0 : Int32)), (.int (0 : Int32)), (.double (own_th p2)), (.int (own_k p1)), (.ref aC), (.ref b69), (.ref b69)])) _
        refine XS.lload X69.here hx rfl (hb hby at_74) rfl ?_
        exact kt
      have hk73 := (Nat.le_trans hk E69.1)
      obtain ⟨_, _, ⟨T74, L74, kc74, nc74⟩, -, Xo74, hSo74, gr74, ⟨Lc74, hQ74, l74, y74, z74⟩, st74⟩ := X69.specialBackS hx (y := (⟨"com/example/libshingle/libshingle/model/DiscoveryOptions", "<init>", "(Lcom/example/libshingle/libshingle/model/Shingling;IDIIIJ)V"⟩ : MethodName)) rfl hown (mvT hZ (hw _ (List.mem_of_getElem? (i := 12) rfl))) (mvT hZ (hw _ (List.mem_of_getElem? (i := 13) rfl))) (mvT hZ (hw _ (List.mem_of_getElem? (i := 14) rfl))) (by decide) (backOfS (W := 1) (rmix l Z a0 hw [] b69 aC (own_k p1) (own_th p2) q5 h69 n0 z71 A69 F69_shingling F69_k F69_threshold F69_signatureLength F69_bands F69_rows F69_seed gg_b69 (own_k1 p1) (own_th0 p2) (own_th1 p2)) hZ (hw _ (List.mem_of_getElem? (i := 14) rfl)) (hw _ (List.mem_of_getElem? (i := 11) rfl)) (by decide) (by decide)) (g := (mkF m 76 #[.val (.int p0), .val (.int p1), .val (.int p2), .val (.int p3), .val (.int p4), .val (.long q5), .second, .val (.ref aC), .val (.int (own_k p1)), .val (.double (own_th p2)), .second, .val (.int (1 : Int32)), .unset, .unset, .unset, .unset, .unset, .unset] [(.long q5), (.int (0 : Int32)), (.int (0 : Int32)), (.int (0 : Int32)), (.double (own_th p2)), (.int (own_k p1)), (.ref aC), (.ref b69), (.ref b69)])) rfl (by rw [hml]; rfl) (Steps.refl _) (a := b69) (argsL := [(.ref aC), (.int (own_k p1)), (.double (own_th p2)), (.int (0 : Int32)), (.int (0 : Int32)), (.int (0 : Int32)), (.long q5)]) (rest := [(.ref b69)]) (lenOf pd_3 rfl) rfl (by show 2 * 0 + _ ≤ _; exact Nat.le_of_eq rfl) (hb hby at_76) (fun _ _ => ⟨rfl, e69, (by decide : 1 + 4 ≤ _), (by decide : 7 + 48 ≤ _)⟩)
      dsimp only [Pt.U, Pt.locs, Pt.cells, Pt.slots] at Xo74 hSo74 gr74 l74 y74 z74 st74 hQ74
      subst l74 y74 z74
      obtain ⟨X74, hS74, hZ74, hown74⟩ := rebS hS (e69.symm ▸ hk73) Xo74 hSo74 gr74 hZ hown
      have hZ := hZ74
      have hown := hown74
      have hS := hS74
      obtain ⟨rfl, N74q, K74, Ex74, Fs74⟩ := hQ74
      have N74 := Fr.app N51 N74q
      have hk74 : T74.heap.size ≤ T74.heap.size := Nat.le_refl _
      have pre75 : ∀ t, Steps p.tables e below (T74.setTop (mkF m 79 #[.val (.int p0), .val (.int p1), .val (.int p2), .val (.int p3), .val (.int p4), .val (.long q5), .second, .val (.ref aC), .val (.int (own_k p1)), .val (.double (own_th p2)), .second, .val (.int (1 : Int32)), .unset, .unset, .unset, .unset, .unset, .unset] [(.ref b69)])) t → Steps p.tables e below (s₁.setTop (entryFrame m #[(.int p0), (.int p1), (.int p2), (.int p3), (.int p4), (.long q5)] maxLocals)) t := fun t kt => pre72 _ (st74.trans kt)
      have z76 : n0 ≤ T74.heap.size := (Nat.le_trans z71 K74.1)
      have pre77 : ∀ t, Steps p.tables e below (T74.setTop (mkF m 87 #[.val (.int p0), .val (.int p1), .val (.int p2), .val (.int p3), .val (.int p4), .val (.long q5), .second, .val (.ref aC), .val (.int (own_k p1)), .val (.double (own_th p2)), .second, .val (.int (1 : Int32)), .val (.ref b69), .unset, .unset, .unset, .unset, .unset] [(.double (own_th p2)), (.int (own_k p1)), (.ref aC)])) t → Steps p.tables e below (s₁.setTop (entryFrame m #[(.int p0), (.int p1), (.int p2), (.int p3), (.int p4), (.long q5)] maxLocals)) t := fun t kt => by
        refine pre75 _ ?_
        show Steps p.tables e below (T74.setTop (mkF m 79 #[.val (.int p0), .val (.int p1), .val (.int p2), .val (.int p3), .val (.int p4), .val (.long q5), .second, .val (.ref aC), .val (.int (own_k p1)), .val (.double (own_th p2)), .second, .val (.int (1 : Int32)), .unset, .unset, .unset, .unset, .unset, .unset] [(.ref b69)])) _
        refine XS.astore X74.here hx rfl (hb hby at_79) rfl rfl (l' := #[.val (.int p0), .val (.int p1), .val (.int p2), .val (.int p3), .val (.int p4), .val (.long q5), .second, .val (.ref aC), .val (.int (own_k p1)), .val (.double (own_th p2)), .second, .val (.int (1 : Int32)), .val (.ref b69), .unset, .unset, .unset, .unset, .unset]) rfl ?_
        show Steps p.tables e below (T74.setTop (mkF m 81 #[.val (.int p0), .val (.int p1), .val (.int p2), .val (.int p3), .val (.int p4), .val (.long q5), .second, .val (.ref aC), .val (.int (own_k p1)), .val (.double (own_th p2)), .second, .val (.int (1 : Int32)), .val (.ref b69), .unset, .unset, .unset, .unset, .unset] [])) _
        refine XS.aload X74.here hx rfl (hb hby at_81) rfl rfl ?_
        show Steps p.tables e below (T74.setTop (mkF m 83 #[.val (.int p0), .val (.int p1), .val (.int p2), .val (.int p3), .val (.int p4), .val (.long q5), .second, .val (.ref aC), .val (.int (own_k p1)), .val (.double (own_th p2)), .second, .val (.int (1 : Int32)), .val (.ref b69), .unset, .unset, .unset, .unset, .unset] [(.ref aC)])) _
        refine XS.iload X74.here hx rfl (hb hby at_83) rfl ?_
        show Steps p.tables e below (T74.setTop (mkF m 85 #[.val (.int p0), .val (.int p1), .val (.int p2), .val (.int p3), .val (.int p4), .val (.long q5), .second, .val (.ref aC), .val (.int (own_k p1)), .val (.double (own_th p2)), .second, .val (.int (1 : Int32)), .val (.ref b69), .unset, .unset, .unset, .unset, .unset] [(.int (own_k p1)), (.ref aC)])) _
        refine XS.dload X74.here hx rfl (hb hby at_85) rfl ?_
        exact kt
      obtain ⟨_, _, ⟨T78, L78, kc78, nc78⟩, -, Xo78, hSo78, gr78, ⟨Lc78, hQ78, l78, y78, z78⟩, st78⟩ := callSS X74 hx (y := (⟨"com/example/libshingle/libshingle/model/DiscoveryOptions", "exact", "(Lcom/example/libshingle/libshingle/model/Shingling;ID)Lcom/example/libshingle/libshingle/model/DiscoveryOptions;"⟩ : MethodName)) hown (mvT hZ (hw _ (List.mem_of_getElem? (i := 62) rfl))) (mvT hZ (hw _ (List.mem_of_getElem? (i := 63) rfl))) (mvT hZ (hw _ (List.mem_of_getElem? (i := 11) rfl))) (mvT hZ (hw _ (List.mem_of_getElem? (i := 64) rfl))) (by decide) (backOfS (W := 0) (rm8 l Z a0 hw [] aC (own_k p1) (own_th p2) T74.heap n0 z76 (own_k1 p1) (own_th0 p2) (own_th1 p2)) hZ (hw _ (List.mem_of_getElem? (i := 64) rfl)) (hw _ (List.mem_of_getElem? (i := 11) rfl)) (by decide) (by decide)) (g := (mkF m 87 #[.val (.int p0), .val (.int p1), .val (.int p2), .val (.int p3), .val (.int p4), .val (.long q5), .second, .val (.ref aC), .val (.int (own_k p1)), .val (.double (own_th p2)), .second, .val (.int (1 : Int32)), .val (.ref b69), .unset, .unset, .unset, .unset, .unset] [(.double (own_th p2)), (.int (own_k p1)), (.ref aC)])) rfl (by rw [hml]; rfl) (argsL := [(.ref aC), (.int (own_k p1)), (.double (own_th p2))]) (rest := []) (lenOf pd_6 rfl) rfl (by show 2 * 0 + _ ≤ _; exact Nat.le_of_eq rfl) (hb hby at_87) (fun _ _ => ⟨rfl, rfl, (by decide : 5 + 5 ≤ _), (by decide : 55 + 55 ≤ _)⟩)
      dsimp only [Pt.U, Pt.locs, Pt.cells, Pt.slots] at Xo78 hSo78 gr78 l78 y78 z78 st78 hQ78
      subst l78 y78 z78
      obtain ⟨X78, hS78, hZ78, hown78⟩ := rebS hS (hk74) Xo78 hSo78 gr78 hZ hown
      have hZ := hZ78
      have hown := hown78
      have hS := hS78
      obtain ⟨rfl, N78q, K78, Ex78, Fs78⟩ := hQ78
      have N78 := Fr.app N74 N78q
      obtain ⟨b78, gq78⟩ : ∃ z, z = T74.heap.size := ⟨_, rfl⟩
      rw [← gq78] at Ex78 Fs78 st78
      have gg_b78 : n0 ≤ b78 := Nat.le_trans z76 (Nat.le_of_eq gq78.symm)
      have hk78 : T78.heap.size ≤ T78.heap.size := Nat.le_refl _
      have pre79 : ∀ t, Steps p.tables e below (T78.setTop (mkF m 90 #[.val (.int p0), .val (.int p1), .val (.int p2), .val (.int p3), .val (.int p4), .val (.long q5), .second, .val (.ref aC), .val (.int (own_k p1)), .val (.double (own_th p2)), .second, .val (.int (1 : Int32)), .val (.ref b69), .unset, .unset, .unset, .unset, .unset] [(.ref b78)])) t → Steps p.tables e below (s₁.setTop (entryFrame m #[(.int p0), (.int p1), (.int p2), (.int p3), (.int p4), (.long q5)] maxLocals)) t := fun t kt => pre77 _ (st78.trans kt)
      have z80 : n0 ≤ T78.heap.size := (Nat.le_trans z76 K78.1)
      have f81 := (Fs74.keep K78 nin0)
      have pre82 : ∀ t, Steps p.tables e below (T78.setTop (mkF m 94 #[.val (.int p0), .val (.int p1), .val (.int p2), .val (.int p3), .val (.int p4), .val (.long q5), .second, .val (.ref aC), .val (.int (own_k p1)), .val (.double (own_th p2)), .second, .val (.int (1 : Int32)), .val (.ref b69), .val (.ref b78), .unset, .unset, .unset, .unset] [(.ref b69)])) t → Steps p.tables e below (s₁.setTop (entryFrame m #[(.int p0), (.int p1), (.int p2), (.int p3), (.int p4), (.long q5)] maxLocals)) t := fun t kt => by
        refine pre79 _ ?_
        show Steps p.tables e below (T78.setTop (mkF m 90 #[.val (.int p0), .val (.int p1), .val (.int p2), .val (.int p3), .val (.int p4), .val (.long q5), .second, .val (.ref aC), .val (.int (own_k p1)), .val (.double (own_th p2)), .second, .val (.int (1 : Int32)), .val (.ref b69), .unset, .unset, .unset, .unset, .unset] [(.ref b78)])) _
        refine XS.astore X78.here hx rfl (hb hby at_90) rfl rfl (l' := #[.val (.int p0), .val (.int p1), .val (.int p2), .val (.int p3), .val (.int p4), .val (.long q5), .second, .val (.ref aC), .val (.int (own_k p1)), .val (.double (own_th p2)), .second, .val (.int (1 : Int32)), .val (.ref b69), .val (.ref b78), .unset, .unset, .unset, .unset]) rfl ?_
        show Steps p.tables e below (T78.setTop (mkF m 92 #[.val (.int p0), .val (.int p1), .val (.int p2), .val (.int p3), .val (.int p4), .val (.long q5), .second, .val (.ref aC), .val (.int (own_k p1)), .val (.double (own_th p2)), .second, .val (.int (1 : Int32)), .val (.ref b69), .val (.ref b78), .unset, .unset, .unset, .unset] [])) _
        refine XS.aload X78.here hx rfl (hb hby at_92) rfl rfl ?_
        exact kt
      have f84 := (Ex74.keep K78)
      obtain ⟨cq83, kq83, q83a, q83b, q83c⟩ := isOf hZ rfl f84
      obtain ⟨_, _, ⟨T85, L85, kc85, nc85⟩, -, X85, ⟨Lc85, hQ85, l85, y85, z85⟩, st85⟩ := X78.virtualBack hx (y := (⟨"com/example/libshingle/libshingle/model/DiscoveryOptions", "isExact", "()Z"⟩ : MethodName)) (z := (⟨"com/example/libshingle/libshingle/model/DiscoveryOptions", "isExact", "()Z"⟩ : MethodName)) hown (mvT hZ (hw _ (List.mem_of_getElem? (i := 55) rfl))) (mvT hZ (hw _ (List.mem_of_getElem? (i := 56) rfl))) (notFace_of_selects (args := #[]) (mvT hZ (hw _ (List.mem_of_getElem? (i := 58) rfl)))) (mvT hZ (hw _ (List.mem_of_getElem? (i := 58) rfl))) (mvT hZ (hw _ (List.mem_of_getElem? (i := 57) rfl))) (by decide) (backOf (W := 0) (rmxe l Z a0 hw [] b69 (0 : Int32) T78.heap n0 z80 f81 rfl) hZ (hw _ (List.mem_of_getElem? (i := 59) rfl)) (hw _ (List.mem_of_getElem? (i := 11) rfl)) (by decide) (by decide)) q83a q83c (g := (mkF m 94 #[.val (.int p0), .val (.int p1), .val (.int p2), .val (.int p3), .val (.int p4), .val (.long q5), .second, .val (.ref aC), .val (.int (own_k p1)), .val (.double (own_th p2)), .second, .val (.int (1 : Int32)), .val (.ref b69), .val (.ref b78), .unset, .unset, .unset, .unset] [(.ref b69)])) rfl (by rw [hml]; rfl) (Steps.refl _) (argsL := []) (rest := []) (lenOf pd_5 rfl) rfl (by show 2 * 0 + _ ≤ _; exact Nat.le_of_eq rfl) (hb hby at_94) (fun _ _ => ⟨rfl, rfl, (by decide : 10 + 0 ≤ _), (by decide : 110 + 0 ≤ _)⟩)
      dsimp only [Pt.U, Pt.locs, Pt.cells, Pt.slots] at X85 l85 y85 z85 st85 hQ85
      subst l85 y85 z85
      obtain ⟨rfl, N85q, he85⟩ := hQ85
      have N85 := Fr.app N78 N85q
      have pre86 : ∀ t, Steps p.tables e below (T85.setTop (mkF m 97 #[.val (.int p0), .val (.int p1), .val (.int p2), .val (.int p3), .val (.int p4), .val (.long q5), .second, .val (.ref aC), .val (.int (own_k p1)), .val (.double (own_th p2)), .second, .val (.int (1 : Int32)), .val (.ref b69), .val (.ref b78), .unset, .unset, .unset, .unset] [(.int (1 : Int32))])) t → Steps p.tables e below (s₁.setTop (entryFrame m #[(.int p0), (.int p1), (.int p2), (.int p3), (.int p4), (.long q5)] maxLocals)) t := fun t kt => pre82 _ (st85.trans kt)
      have pre87 : ∀ t, Steps p.tables e below (T85.setTop (mkF m 102 #[.val (.int p0), .val (.int p1), .val (.int p2), .val (.int p3), .val (.int p4), .val (.long q5), .second, .val (.ref aC), .val (.int (own_k p1)), .val (.double (own_th p2)), .second, .val (.int (1 : Int32)), .val (.ref b69), .val (.ref b78), .unset, .unset, .unset, .unset] [(.ref b78)])) t → Steps p.tables e below (s₁.setTop (entryFrame m #[(.int p0), (.int p1), (.int p2), (.int p3), (.int p4), (.long q5)] maxLocals)) t := fun t kt => by
        refine pre86 _ ?_
        show Steps p.tables e below (T85.setTop (mkF m 97 #[.val (.int p0), .val (.int p1), .val (.int p2), .val (.int p3), .val (.int p4), .val (.long q5), .second, .val (.ref aC), .val (.int (own_k p1)), .val (.double (own_th p2)), .second, .val (.int (1 : Int32)), .val (.ref b69), .val (.ref b78), .unset, .unset, .unset, .unset] [(.int (1 : Int32))])) _
        refine XS.ifNo X85.here hx rfl (hb hby at_97) rfl ((if0 _ _).trans (feq (by decide : ¬ ((1 : Int32) = (0 : Int32)))).1) ?_
        show Steps p.tables e below (T85.setTop (mkF m 100 #[.val (.int p0), .val (.int p1), .val (.int p2), .val (.int p3), .val (.int p4), .val (.long q5), .second, .val (.ref aC), .val (.int (own_k p1)), .val (.double (own_th p2)), .second, .val (.int (1 : Int32)), .val (.ref b69), .val (.ref b78), .unset, .unset, .unset, .unset] [])) _
        refine XS.aload X85.here hx rfl (hb hby at_100) rfl rfl ?_
        exact kt
      obtain ⟨cq88, kq88, q88a, q88b, q88c⟩ := isOf hZ he85 Ex78
      obtain ⟨_, _, ⟨T89, L89, kc89, nc89⟩, -, X89, ⟨Lc89, hQ89, l89, y89, z89⟩, st89⟩ := X85.virtualBack hx (y := (⟨"com/example/libshingle/libshingle/model/DiscoveryOptions", "isExact", "()Z"⟩ : MethodName)) (z := (⟨"com/example/libshingle/libshingle/model/DiscoveryOptions", "isExact", "()Z"⟩ : MethodName)) hown (mvT hZ (hw _ (List.mem_of_getElem? (i := 55) rfl))) (mvT hZ (hw _ (List.mem_of_getElem? (i := 56) rfl))) (notFace_of_selects (args := #[]) (mvT hZ (hw _ (List.mem_of_getElem? (i := 58) rfl)))) (mvT hZ (hw _ (List.mem_of_getElem? (i := 58) rfl))) (mvT hZ (hw _ (List.mem_of_getElem? (i := 57) rfl))) (by decide) (backOf (W := 0) (rmxe l Z a0 hw [] b78 (0 : Int32) T78.heap n0 z80 Fs78 rfl) hZ (hw _ (List.mem_of_getElem? (i := 59) rfl)) (hw _ (List.mem_of_getElem? (i := 11) rfl)) (by decide) (by decide)) q88a q88c (g := (mkF m 102 #[.val (.int p0), .val (.int p1), .val (.int p2), .val (.int p3), .val (.int p4), .val (.long q5), .second, .val (.ref aC), .val (.int (own_k p1)), .val (.double (own_th p2)), .second, .val (.int (1 : Int32)), .val (.ref b69), .val (.ref b78), .unset, .unset, .unset, .unset] [(.ref b78)])) rfl (by rw [hml]; rfl) (Steps.refl _) (argsL := []) (rest := []) (lenOf pd_5 rfl) rfl (by show 2 * 0 + _ ≤ _; exact Nat.le_of_eq rfl) (hb hby at_102) (fun _ _ => ⟨rfl, he85, (by decide : 10 + 0 ≤ _), (by decide : 110 + 0 ≤ _)⟩)
      dsimp only [Pt.U, Pt.locs, Pt.cells, Pt.slots] at X89 l89 y89 z89 st89 hQ89
      subst l89 y89 z89
      obtain ⟨rfl, N89q, he89⟩ := hQ89
      have N89 := Fr.app N85 N89q
      have pre90 : ∀ t, Steps p.tables e below (T89.setTop (mkF m 105 #[.val (.int p0), .val (.int p1), .val (.int p2), .val (.int p3), .val (.int p4), .val (.long q5), .second, .val (.ref aC), .val (.int (own_k p1)), .val (.double (own_th p2)), .second, .val (.int (1 : Int32)), .val (.ref b69), .val (.ref b78), .unset, .unset, .unset, .unset] [(.int (1 : Int32))])) t → Steps p.tables e below (s₁.setTop (entryFrame m #[(.int p0), (.int p1), (.int p2), (.int p3), (.int p4), (.long q5)] maxLocals)) t := fun t kt => pre87 _ (st89.trans kt)
      have pre91 : ∀ t, Steps p.tables e below (T89.setTop (mkF m 113 #[.val (.int p0), .val (.int p1), .val (.int p2), .val (.int p3), .val (.int p4), .val (.long q5), .second, .val (.ref aC), .val (.int (own_k p1)), .val (.double (own_th p2)), .second, .val (.int (1 : Int32)), .val (.ref b69), .val (.ref b78), .unset, .unset, .unset, .unset] [(.int (1 : Int32))])) t → Steps p.tables e below (s₁.setTop (entryFrame m #[(.int p0), (.int p1), (.int p2), (.int p3), (.int p4), (.long q5)] maxLocals)) t := fun t kt => by
        refine pre90 _ ?_
        show Steps p.tables e below (T89.setTop (mkF m 105 #[.val (.int p0), .val (.int p1), .val (.int p2), .val (.int p3), .val (.int p4), .val (.long q5), .second, .val (.ref aC), .val (.int (own_k p1)), .val (.double (own_th p2)), .second, .val (.int (1 : Int32)), .val (.ref b69), .val (.ref b78), .unset, .unset, .unset, .unset] [(.int (1 : Int32))])) _
        refine XS.ifNo X89.here hx rfl (hb hby at_105) rfl ((if0 _ _).trans (feq (by decide : ¬ ((1 : Int32) = (0 : Int32)))).1) ?_
        show Steps p.tables e below (T89.setTop (mkF m 108 #[.val (.int p0), .val (.int p1), .val (.int p2), .val (.int p3), .val (.int p4), .val (.long q5), .second, .val (.ref aC), .val (.int (own_k p1)), .val (.double (own_th p2)), .second, .val (.int (1 : Int32)), .val (.ref b69), .val (.ref b78), .unset, .unset, .unset, .unset] [])) _
        refine XS.iconst X89.here hx rfl (hb hby at_108) ?_
        show Steps p.tables e below (T89.setTop (mkF m 109 #[.val (.int p0), .val (.int p1), .val (.int p2), .val (.int p3), .val (.int p4), .val (.long q5), .second, .val (.ref aC), .val (.int (own_k p1)), .val (.double (own_th p2)), .second, .val (.int (1 : Int32)), .val (.ref b69), .val (.ref b78), .unset, .unset, .unset, .unset] [(.int (1 : Int32))])) _
        refine XS.goto X89.here hx rfl (pc0 := 109) (pc' := 113) rfl (hb hby at_109) (by decide) (by decide) ?_
        exact kt
      obtain ⟨fs, hr, hrun, hended, -, hW, hI, hsame⟩ := X89.leaveW hS (he89.symm ▸ hk78) (v := (some (.int (1 : Int32)))) (fun h => by rw [Bd.returns] at h; cases h)
      refine ⟨_, _, pre91 _ ?_, hrun, hended, _, _, rfl, ?_, ⟨_, rfl⟩, hW, hI, hsame.mono (by decide) (by decide)⟩
      · show Steps p.tables e below (T89.setTop (mkF m 113 #[.val (.int p0), .val (.int p1), .val (.int p2), .val (.int p3), .val (.int p4), .val (.long q5), .second, .val (.ref aC), .val (.int (own_k p1)), .val (.double (own_th p2)), .second, .val (.int (1 : Int32)), .val (.ref b69), .val (.ref b78), .unset, .unset, .unset, .unset] [(.int (1 : Int32))])) _
        exact retN X89 hx (t := .boolean) Bd.returns (by simp) (hb hby at_113) hr
      · show Q0 Z p0 p1 p2 p3 p4 q5 aW aC h0 n0 _ T89.heap _
        rw [he89]
        exact ⟨rfl, N89⟩
set_option maxRecDepth 65536 in
set_option maxHeartbeats 40000000 in
theorem comes_1 {Post : Tables → Env → Array Value → State → Outcome → State → Prop} (hpost : ∀ tb e args s v u, (limb_1_1.after args s (.returned v) u = true ∧ limb_1_2.after args s (.returned v) u = true ∧ True) → ReturnedEndW s (.returned v) u (Jvm.fieldLocs frame_1_writes args s ++ Jvm.arrayLocs frame_1_arrays args s ++ Jvm.staticLocs frame_1_statics s) 24 4224 → Post tb e args s (.returned v) u) :
    ArmFor flags0 classFile x code maxLocals ret World_1 tables_1 room_1 Calls_1 rest_1 Pre_1 Post := by
  intro l hfl _ _ p e ha hc hk s m args below hf hA hF happ hP
  obtain ⟨hcalls, hrest, hpre⟩ := hP
  obtain ⟨-, -, -, hnamed, -, -, -, hat⟩ := (Spec.applies_iff hf).mp happ
  obtain ⟨hg, hn⟩ := and_e (Cond.before_iff.mp (show (Jvm.Cond.and given_1 narrow_1).before args s = true from hpre))
  obtain ⟨gc, g0⟩ := and_e hg
  obtain ⟨gg0, g1⟩ := and_e g0
  obtain ⟨gg1, g2⟩ := and_e g1
  obtain ⟨gg2, g3⟩ := and_e g2
  obtain ⟨gg3, g4⟩ := and_e g3
  obtain ⟨gg4, g5⟩ := and_e g4
  obtain ⟨w0, w1, w2, w3, w4, w5, rfl⟩ : ∃ w0 w1 w2 w3 w4 w5 : Value, args = #[w0, w1, w2, w3, w4, w5] := by
    have hs : args.size = 6 := by simpa [Cond.value, given_1] using gc
    obtain ⟨L⟩ := args
    match L, hs with
    | [w0, w1, w2, w3, w4, w5], _ => exact ⟨w0, w1, w2, w3, w4, w5, rfl⟩
  have hw := fun d (hd : d ∈ tables_1) => atoms_spec (ws := Jvm.Cond.code x code maxLocals ret :: tables_1) hat d (List.mem_cons_of_mem _ hd)
  have hfit : Fit s := fun {y c} hc i hi => by
    obtain ⟨ha, rfl⟩ := Array.getElem?_eq_some_iff.mp hc
    have q := List.all_eq_true.mp ((Array.all_eq_true_iff_forall_mem.mp hF) _ (Array.getElem_mem ha)) i (List.mem_range.mpr hi)
    simpa [Array.getElem?_eq_getElem hi] using q
  obtain ⟨i0, ei0⟩ := is_v gg0
  obtain rfl : w0 = (.int i0) := Option.some.inj ei0
  obtain ⟨i1, ei1⟩ := is_v gg1
  obtain rfl : w1 = (.int i1) := Option.some.inj ei1
  obtain ⟨i2, ei2⟩ := is_v gg2
  obtain rfl : w2 = (.int i2) := Option.some.inj ei2
  obtain ⟨i3, ei3⟩ := is_v gg3
  obtain rfl : w3 = (.int i3) := Option.some.inj ei3
  obtain ⟨i4, ei4⟩ := is_v gg4
  obtain rfl : w4 = (.int i4) := Option.some.inj ei4
  obtain ⟨i5, ei5⟩ := isL_v g5
  obtain rfl : w5 = (.long i5) := Option.some.inj ei5
  obtain ⟨hnW, hnC⟩ := and_e hn
  obtain ⟨aW, cW, cellW, kW, eW, -⟩ := Cond.exactly_spec (Cond.before_iff.mpr hnW)
  obtain ⟨aC, cC, cellC, kC, eC, -⟩ := Cond.exactly_spec (Cond.before_iff.mpr hnC)
  have SW : Sta s s.heap "com/example/libshingle/libshingle/model/Shingling" "WORD" "Lcom/example/libshingle/libshingle/model/Shingling;" (.ref aW) := Sta.start eW (Or.inr ⟨(hw _ (List.mem_of_getElem? (i := 1) rfl)), (hw _ (List.mem_of_getElem? (i := 2) rfl))⟩)
  have SC : Sta s s.heap "com/example/libshingle/libshingle/model/Shingling" "CHARACTER" "Lcom/example/libshingle/libshingle/model/Shingling;" (.ref aC) := Sta.start eC (Or.inr ⟨(hw _ (List.mem_of_getElem? (i := 1) rfl)), (hw _ (List.mem_of_getElem? (i := 61) rfl))⟩)
  obtain ⟨n, o, h1, h2, h3, _, L, rfl, ⟨rfl, N⟩, hq⟩ := rm0 l s _ hw tables_1 i0 i1 i2 i3 i4 i5 aW aC s.heap s.heap.size (Old.start s) SW SC p e ha hc hk s m _ below hf ((Spec.applies_iff_loose hf).mp happ).1 ⟨rfl, State.Warmed39.refl s, rfl⟩ trivial
  refine ⟨n, _, h1, h2, h3, hpost _ _ _ _ _ _ ⟨Cond.after_iff.mpr rfl, Cond.after_iff.mpr (eq_i res_at (Term.int_eval (1)) rfl), trivial⟩ ⟨hq.1, hq.2.1, hq.2.2.1, (hq.2.2.2.sift fun y hy => Or.inr (N y hy)).mono (by decide) (by decide)⟩⟩
theorem main_1_1 : Claimed_1_1 := comes_1 fun _ _ _ _ _ _ h hF => ⟨h.1, hF⟩
theorem main_1_2 : Claimed_1_2 := comes_1 fun _ _ _ _ _ _ h hF => ⟨h.2.1, hF⟩
end Jvm.Pilot.@@N@@
namespace Jvm.Pilot.@@N@@
open Jvm Jvm.ClassFile Sem Op Lib Jvm.Free Jvm.Stand Jvm.Pilot.@@N@@.Jvm.D
/-! MADE BY PROGRAM (witnessworld.py) out of the Statement's table words and the real class files: 19 classes; the members and pool entries that the words name. The judged class is class 1, her method 1. -/
namespace start1
open Jvm.ClassFile
def u (s : String) : CpInfo := .utf8 (stringToUtf16 s)
/-- a pool by its gaps: so many unusable entries, then the entry; so many at the end -/
def gap : Nat → List CpInfo → List CpInfo
  | 0, r => r
  | n + 1, r => .unusable :: gap n r
def poolList (es : List (Nat × CpInfo)) (last : Nat) : List CpInfo := es.foldr (fun e r => gap e.1 (e.2 :: r)) (gap last [])
def pool (es : List (Nat × CpInfo)) (last : Nat) : Array CpInfo := ⟨poolList es last⟩
def fileOf (pool : Array CpInfo) (this : Nat) (attrs : Array Attribute := #[]) (ms : Array MethodInfo := #[]) (fl : Nat := 33) (sup : Nat := 0) (ifs : Array Nat := #[]) (fds : Array FieldInfo := #[]) : ClassFile where
  minorVersion := 0
  majorVersion := 65
  constantPool := pool
  accessFlags := fl
  thisClass := this
  superClass := sup
  interfaces := ifs
  fields := fds
  methods := ms
  attributes := attrs
def plain (name : String) (sup : Option ClassId) : Class where
  name := name
  kind := .ordinary
  loader := none
  accessFlags := 33
  super := sup
  interfaces := #[]
  cf := none
  fields := #[]
  methods := #[]
  instanceTypes := #[]
  staticTypes := #[]
  resolved := #[]
  callSites := []
  init := .initialized
  statics := none
  mirror := none

def pool0 : Array CpInfo := pool [(5, u "<init>"), (0, u "()V"), (1, .class_ 10), (1, u "java/lang/Object")] 113

def k0c0 : Code := { maxStack := 0, maxLocals := 1, code := object_method_1_code, exceptionTable := #[], attributes := #[] }
def k0m0 : Method := { name := "<init>", desc := "()V", sig := { parameters := [], returnType := none }, accessFlags := 1, code := some k0c0 }
/-- java/lang/Object -/
def k0 : Class := { plain "java/lang/Object" none with
  accessFlags := 33
  interfaces := #[]
  cf := some (fileOf pool0 8 #[] #[{ accessFlags := 1, nameIndex := 5, descriptorIndex := 6, attributes := #[] }] 33 0 #[] #[])
  fields := #[]
  methods := #[k0m0]
  instanceTypes := #[]
  staticTypes := #[]
  resolved := Array.replicate 124 none
  statics := none }

def pool1 : Array CpInfo := pool [(2, .class_ 4), (1, u "java/lang/Object"), (0, u "<init>"), (0, u "()V"), (0, .fieldref 8 9), (0, .class_ 10), (0, .nameAndType 11 12), (0, u "com/example/libshingle/libshingle/model/Shingling"), (0, u "WORD"), (0, u "Lcom/example/libshingle/libshingle/model/Shingling;"), (0, .fieldref 8 14), (0, .nameAndType 15 12), (0, u "CHARACTER"), (0, .integer 2147483647), (0, .methodref 18 19), (0, .class_ 20), (0, .nameAndType 21 22), (0, u "java/lang/Math"), (0, u "max"), (0, u "(II)I"), (0, .double 4643211215818981376), (1, .class_ 26), (0, u "com/example/libshingle/libshingle/model/DiscoveryOptions"), (0, .methodref 25 28), (0, .nameAndType 5 29), (0, u "(Lcom/example/libshingle/libshingle/model/Shingling;IDIIIJ)V"), (0, .methodref 25 31), (0, .nameAndType 32 33), (0, u "exact"), (0, u "(Lcom/example/libshingle/libshingle/model/Shingling;ID)Lcom/example/libshingle/libshingle/model/DiscoveryOptions;"), (0, .methodref 25 35), (0, .nameAndType 36 37), (0, u "isExact"), (0, u "()Z"), (2, .class_ 41), (0, u "com/example/libshingle/libshingle/model/DiscoveryOptionsIsExactPinLaw"), (2, u "law"), (0, u "(IIIIIJ)Z")] 3

def k1m0 : Method := { name := "<init>", desc := "()V", sig := { parameters := [], returnType := none }, accessFlags := 1, code := none }
def k1c1 : Code := { maxStack := 11, maxLocals := 18, code := code, exceptionTable := #[], attributes := #[] }
def k1m1 : Method := { name := "law", desc := "(IIIIIJ)Z", sig := { parameters := [.int, .int, .int, .int, .int, .long], returnType := some .boolean }, accessFlags := 9, code := some k1c1 }
/-- com/example/libshingle/libshingle/model/DiscoveryOptionsIsExactPinLaw -/
def k1 : Class := { plain "com/example/libshingle/libshingle/model/DiscoveryOptionsIsExactPinLaw" (some 0) with
  accessFlags := 49
  interfaces := #[]
  cf := some (fileOf pool1 40 #[] #[{ accessFlags := 1, nameIndex := 5, descriptorIndex := 6, attributes := #[] }, { accessFlags := 9, nameIndex := 44, descriptorIndex := 45, attributes := #[] }] 49 2 #[] #[])
  fields := #[]
  methods := #[k1m0, k1m1]
  instanceTypes := #[]
  staticTypes := #[]
  resolved := Array.replicate 49 none
  statics := none }

def pool2 : Array CpInfo := pool [(1, .class_ 2), (0, u "java/lang/constant/Constable"), (0, .class_ 4), (0, u "java/lang/Object")] 6

/-- java/lang/constant/Constable -/
def k2 : Class := { plain "java/lang/constant/Constable" (some 0) with
  accessFlags := 1537
  interfaces := #[]
  cf := some (fileOf pool2 1 #[] #[] 1537 3 #[] #[])
  fields := #[]
  methods := #[]
  instanceTypes := #[]
  staticTypes := #[]
  resolved := Array.replicate 11 none
  statics := none }

def pool3 : Array CpInfo := pool [(1, .class_ 2), (0, u "java/lang/Comparable"), (0, .class_ 4), (0, u "java/lang/Object")] 7

/-- java/lang/Comparable -/
def k3 : Class := { plain "java/lang/Comparable" (some 0) with
  accessFlags := 1537
  interfaces := #[]
  cf := some (fileOf pool3 1 #[] #[] 1537 3 #[] #[])
  fields := #[]
  methods := #[]
  instanceTypes := #[]
  staticTypes := #[]
  resolved := Array.replicate 12 none
  statics := none }

def pool4 : Array CpInfo := pool [(1, .class_ 2), (0, u "java/io/Serializable"), (0, .class_ 4), (0, u "java/lang/Object")] 2

/-- java/io/Serializable -/
def k4 : Class := { plain "java/io/Serializable" (some 0) with
  accessFlags := 1537
  interfaces := #[]
  cf := some (fileOf pool4 1 #[] #[] 1537 3 #[] #[])
  fields := #[]
  methods := #[]
  instanceTypes := #[]
  staticTypes := #[]
  resolved := Array.replicate 7 none
  statics := none }

def pool5 : Array CpInfo := pool [(2, .class_ 4), (1, u "java/lang/Enum"), (0, u "name"), (0, u "Ljava/lang/String;"), (2, u "ordinal"), (0, u "I"), (1, .class_ 14), (1, u "java/lang/Object"), (4, u "hash"), (86, .class_ 108), (1, u "java/lang/Enum$EnumDesc"), (2, .class_ 112), (0, u "java/lang/constant/Constable"), (0, .class_ 114), (0, u "java/lang/Comparable"), (0, .class_ 116), (0, u "java/io/Serializable")] 87

/-- java/lang/Enum -/
def k5 : Class := { plain "java/lang/Enum" (some 0) with
  accessFlags := 1057
  interfaces := #[2, 3, 4]
  cf := some (fileOf pool5 2 #[.nestMembers #[106]] #[] 1057 12 #[111, 113, 115] #[{ accessFlags := 18, nameIndex := 5, descriptorIndex := 6, attributes := #[] }, { accessFlags := 18, nameIndex := 9, descriptorIndex := 10, attributes := #[] }, { accessFlags := 2, nameIndex := 19, descriptorIndex := 10, attributes := #[] }])
  fields := #[{ name := "name", type := (.object "java/lang/String"), accessFlags := 18, slot := 0, constantValue := 0 }, { name := "ordinal", type := .int, accessFlags := 18, slot := 1, constantValue := 0 }, { name := "hash", type := .int, accessFlags := 2, slot := 2, constantValue := 0 }]
  methods := #[]
  instanceTypes := #[(.object "java/lang/String"), .int, .int]
  staticTypes := #[]
  resolved := Array.replicate 204 none
  statics := none }

def pool6 : Array CpInfo := pool [(1, .class_ 2), (0, u "com/example/libshingle/libshingle/model/Shingling"), (2, u "WORD"), (0, u "Lcom/example/libshingle/libshingle/model/Shingling;"), (2, u "CHARACTER"), (2, u "$VALUES"), (0, u "[Lcom/example/libshingle/libshingle/model/Shingling;"), (6, .class_ 22), (1, u "java/lang/Enum"), (8, u "label"), (0, u "Ljava/lang/String;"), (2, u "defaultK"), (0, u "I")] 36

/-- com/example/libshingle/libshingle/model/Shingling -/
def k6 : Class := { plain "com/example/libshingle/libshingle/model/Shingling" (some 5) with
  accessFlags := 16433
  interfaces := #[]
  cf := some (fileOf pool6 1 #[] #[] 16433 20 #[] #[{ accessFlags := 16409, nameIndex := 5, descriptorIndex := 6, attributes := #[] }, { accessFlags := 16409, nameIndex := 9, descriptorIndex := 6, attributes := #[] }, { accessFlags := 18, nameIndex := 31, descriptorIndex := 32, attributes := #[] }, { accessFlags := 18, nameIndex := 35, descriptorIndex := 36, attributes := #[] }, { accessFlags := 4122, nameIndex := 12, descriptorIndex := 13, attributes := #[] }])
  fields := #[{ name := "WORD", type := (.object "com/example/libshingle/libshingle/model/Shingling"), accessFlags := 16409, slot := 0, constantValue := 0 }, { name := "CHARACTER", type := (.object "com/example/libshingle/libshingle/model/Shingling"), accessFlags := 16409, slot := 1, constantValue := 0 }, { name := "label", type := (.object "java/lang/String"), accessFlags := 18, slot := 3, constantValue := 0 }, { name := "defaultK", type := .int, accessFlags := 18, slot := 4, constantValue := 0 }, { name := "$VALUES", type := (.array (.object "com/example/libshingle/libshingle/model/Shingling")), accessFlags := 4122, slot := 2, constantValue := 0 }]
  methods := #[]
  instanceTypes := #[(.object "java/lang/String"), .int, .int, (.object "java/lang/String"), .int]
  staticTypes := #[(.object "com/example/libshingle/libshingle/model/Shingling"), (.object "com/example/libshingle/libshingle/model/Shingling"), (.array (.object "com/example/libshingle/libshingle/model/Shingling"))]
  resolved := Array.replicate 73 none
  statics := some 0 }

def pool7 : Array CpInfo := pool [(1, .class_ 2), (0, u "java/lang/Math"), (1, .class_ 6), (1, u "java/lang/Object"), (0, u "<init>"), (0, u "()V"), (89, .class_ 100), (1, u "java/lang/Math$RandomNumberGeneratorHolder"), (71, u "negativeZeroFloatBits"), (0, u "J"), (2, u "negativeZeroDoubleBits"), (21, u "max"), (46, u "$assertionsDisabled"), (0, u "Z"), (88, u "(II)I"), (2, u "twoToTheDoubleScaleDown"), (0, u "D"), (4, u "twoToTheDoubleScaleUp"), (9, u "E"), (3, u "PI"), (2, u "TAU"), (2, u "DEGREES_TO_RADIANS"), (0, u "RADIANS_TO_DEGREES")] 94

def k7m0 : Method := { name := "<init>", desc := "()V", sig := { parameters := [], returnType := none }, accessFlags := 2, code := none }
def k7c1 : Code := { maxStack := 2, maxLocals := 2, code := jdk_29_method_65_code, exceptionTable := #[], attributes := #[] }
def k7m1 : Method := { name := "max", desc := "(II)I", sig := { parameters := [.int, .int], returnType := some .int }, accessFlags := 9, code := some k7c1 }
/-- java/lang/Math -/
def k7 : Class := { plain "java/lang/Math" (some 0) with
  accessFlags := 49
  interfaces := #[]
  cf := some (fileOf pool7 1 #[.nestMembers #[98]] #[{ accessFlags := 2, nameIndex := 7, descriptorIndex := 8, attributes := #[] }, { accessFlags := 9, nameIndex := 198, descriptorIndex := 335, attributes := #[] }] 49 4 #[] #[{ accessFlags := 25, nameIndex := 354, descriptorIndex := 339, attributes := #[] }, { accessFlags := 25, nameIndex := 358, descriptorIndex := 339, attributes := #[] }, { accessFlags := 25, nameIndex := 361, descriptorIndex := 339, attributes := #[] }, { accessFlags := 26, nameIndex := 364, descriptorIndex := 339, attributes := #[] }, { accessFlags := 26, nameIndex := 365, descriptorIndex := 339, attributes := #[] }, { accessFlags := 26, nameIndex := 172, descriptorIndex := 173, attributes := #[] }, { accessFlags := 26, nameIndex := 176, descriptorIndex := 173, attributes := #[] }, { accessFlags := 8, nameIndex := 344, descriptorIndex := 339, attributes := #[] }, { accessFlags := 8, nameIndex := 338, descriptorIndex := 339, attributes := #[] }, { accessFlags := 4120, nameIndex := 245, descriptorIndex := 246, attributes := #[] }])
  fields := #[{ name := "E", type := .double, accessFlags := 25, slot := 0, constantValue := 0 }, { name := "PI", type := .double, accessFlags := 25, slot := 1, constantValue := 0 }, { name := "TAU", type := .double, accessFlags := 25, slot := 2, constantValue := 0 }, { name := "DEGREES_TO_RADIANS", type := .double, accessFlags := 26, slot := 3, constantValue := 0 }, { name := "RADIANS_TO_DEGREES", type := .double, accessFlags := 26, slot := 4, constantValue := 0 }, { name := "negativeZeroFloatBits", type := .long, accessFlags := 26, slot := 5, constantValue := 0 }, { name := "negativeZeroDoubleBits", type := .long, accessFlags := 26, slot := 6, constantValue := 0 }, { name := "twoToTheDoubleScaleUp", type := .double, accessFlags := 8, slot := 7, constantValue := 0 }, { name := "twoToTheDoubleScaleDown", type := .double, accessFlags := 8, slot := 8, constantValue := 0 }, { name := "$assertionsDisabled", type := .boolean, accessFlags := 4120, slot := 9, constantValue := 0 }]
  methods := #[k7m0, k7m1]
  instanceTypes := #[]
  staticTypes := #[.double, .double, .double, .double, .double, .long, .long, .double, .double, .boolean]
  resolved := Array.replicate 460 none
  statics := none }

def pool8 : Array CpInfo := pool [(1, .methodref 2 3), (0, .class_ 4), (0, .nameAndType 5 6), (0, u "java/lang/Object"), (0, u "<init>"), (0, u "()V"), (0, .class_ 8), (0, u "java/lang/Record")] 13

def k8c0 : Code := { maxStack := 1, maxLocals := 1, code := jdk_30_method_1_code, exceptionTable := #[], attributes := #[] }
def k8m0 : Method := { name := "<init>", desc := "()V", sig := { parameters := [], returnType := none }, accessFlags := 4, code := some k8c0 }
/-- java/lang/Record -/
def k8 : Class := { plain "java/lang/Record" (some 0) with
  accessFlags := 1057
  interfaces := #[]
  cf := some (fileOf pool8 7 #[] #[{ accessFlags := 4, nameIndex := 5, descriptorIndex := 6, attributes := #[] }] 1057 2 #[] #[])
  fields := #[]
  methods := #[k8m0]
  instanceTypes := #[]
  staticTypes := #[]
  resolved := Array.replicate 22 none
  statics := none }

def pool9 : Array CpInfo := pool [(1, .methodref 2 3), (0, .class_ 4), (0, .nameAndType 5 6), (0, u "java/lang/Record"), (0, u "<init>"), (0, u "()V"), (0, .string 8), (0, u "shingling"), (0, .methodref 10 11), (0, .class_ 12), (0, .nameAndType 13 14), (0, u "java/util/Objects"), (0, u "requireNonNull"), (0, u "(Ljava/lang/Object;Ljava/lang/String;)Ljava/lang/Object;"), (0, .string 16), (0, u "k"), (0, .methodref 18 19), (0, .class_ 20), (0, .nameAndType 21 22), (0, u "com/example/libshingle/libshingle/model/DiscoveryOptions"), (0, u "atLeastOne"), (0, u "(Ljava/lang/String;I)V"), (9, .string 33), (0, u "bands"), (0, .string 35), (0, u "rows"), (3, .fieldref 18 40), (0, .nameAndType 8 41), (0, u "Lcom/example/libshingle/libshingle/model/Shingling;"), (0, .fieldref 18 43), (0, .nameAndType 16 44), (0, u "I"), (0, .fieldref 18 46), (0, .nameAndType 47 48), (0, u "threshold"), (0, u "D"), (0, .fieldref 18 50), (0, .nameAndType 51 44), (0, u "signatureLength"), (0, .fieldref 18 53), (0, .nameAndType 33 44), (0, .fieldref 18 55), (0, .nameAndType 35 44), (0, .fieldref 18 57), (0, .nameAndType 58 59), (0, u "seed"), (0, u "J"), (0, .methodref 18 61), (0, .nameAndType 5 62), (0, u "(Lcom/example/libshingle/libshingle/model/Shingling;IDIIIJ)V"), (50, u "DEFAULTS"), (0, u "Lcom/example/libshingle/libshingle/model/DiscoveryOptions;"), (0, u "DEFAULT_THRESHOLD"), (1, u "DEFAULT_SIGNATURE_LENGTH"), (1, u "DEFAULT_SEED"), (2, u "MAX_MISS_AT_THRESHOLD"), (4, u "exact"), (0, u "(Lcom/example/libshingle/libshingle/model/Shingling;ID)Lcom/example/libshingle/libshingle/model/DiscoveryOptions;"), (2, u "isExact"), (0, u "()Z")] 44

def k9c0 : Code := { maxStack := 7, maxLocals := 12, code := prog_7_method_1_code, exceptionTable := #[], attributes := #[] }
def k9m0 : Method := { name := "<init>", desc := "(Lcom/example/libshingle/libshingle/model/Shingling;IDIIIJ)V", sig := { parameters := [(.object "com/example/libshingle/libshingle/model/Shingling"), .int, .double, .int, .int, .int, .long], returnType := none }, accessFlags := 1, code := some k9c0 }
def k9c1 : Code := { maxStack := 11, maxLocals := 4, code := prog_7_method_2_code, exceptionTable := #[], attributes := #[] }
def k9m1 : Method := { name := "exact", desc := "(Lcom/example/libshingle/libshingle/model/Shingling;ID)Lcom/example/libshingle/libshingle/model/DiscoveryOptions;", sig := { parameters := [(.object "com/example/libshingle/libshingle/model/Shingling"), .int, .double], returnType := some (.object "com/example/libshingle/libshingle/model/DiscoveryOptions") }, accessFlags := 9, code := some k9c1 }
def k9c2 : Code := { maxStack := 1, maxLocals := 1, code := prog_7_method_5_code, exceptionTable := #[], attributes := #[] }
def k9m2 : Method := { name := "isExact", desc := "()Z", sig := { parameters := [], returnType := some .boolean }, accessFlags := 1, code := some k9c2 }
def k9c3 : Code := { maxStack := 4, maxLocals := 2, code := prog_7_method_8_code, exceptionTable := #[], attributes := #[] }
def k9m3 : Method := { name := "atLeastOne", desc := "(Ljava/lang/String;I)V", sig := { parameters := [(.object "java/lang/String"), .int], returnType := none }, accessFlags := 10, code := some k9c3 }
/-- com/example/libshingle/libshingle/model/DiscoveryOptions -/
def k9 : Class := { plain "com/example/libshingle/libshingle/model/DiscoveryOptions" (some 8) with
  accessFlags := 49
  interfaces := #[]
  cf := some (fileOf pool9 18 #[] #[{ accessFlags := 1, nameIndex := 5, descriptorIndex := 62, attributes := #[] }, { accessFlags := 9, nameIndex := 127, descriptorIndex := 128, attributes := #[] }, { accessFlags := 1, nameIndex := 131, descriptorIndex := 132, attributes := #[] }, { accessFlags := 10, nameIndex := 21, descriptorIndex := 22, attributes := #[] }] 49 2 #[] #[{ accessFlags := 18, nameIndex := 8, descriptorIndex := 41, attributes := #[] }, { accessFlags := 18, nameIndex := 16, descriptorIndex := 44, attributes := #[] }, { accessFlags := 18, nameIndex := 47, descriptorIndex := 48, attributes := #[] }, { accessFlags := 18, nameIndex := 51, descriptorIndex := 44, attributes := #[] }, { accessFlags := 18, nameIndex := 33, descriptorIndex := 44, attributes := #[] }, { accessFlags := 18, nameIndex := 35, descriptorIndex := 44, attributes := #[] }, { accessFlags := 18, nameIndex := 58, descriptorIndex := 59, attributes := #[] }, { accessFlags := 25, nameIndex := 115, descriptorIndex := 48, attributes := #[] }, { accessFlags := 25, nameIndex := 117, descriptorIndex := 44, attributes := #[] }, { accessFlags := 25, nameIndex := 119, descriptorIndex := 59, attributes := #[] }, { accessFlags := 25, nameIndex := 122, descriptorIndex := 48, attributes := #[] }, { accessFlags := 25, nameIndex := 113, descriptorIndex := 114, attributes := #[] }])
  fields := #[{ name := "shingling", type := (.object "com/example/libshingle/libshingle/model/Shingling"), accessFlags := 18, slot := 0, constantValue := 0 }, { name := "k", type := .int, accessFlags := 18, slot := 1, constantValue := 0 }, { name := "threshold", type := .double, accessFlags := 18, slot := 2, constantValue := 0 }, { name := "signatureLength", type := .int, accessFlags := 18, slot := 3, constantValue := 0 }, { name := "bands", type := .int, accessFlags := 18, slot := 4, constantValue := 0 }, { name := "rows", type := .int, accessFlags := 18, slot := 5, constantValue := 0 }, { name := "seed", type := .long, accessFlags := 18, slot := 6, constantValue := 0 }, { name := "DEFAULT_THRESHOLD", type := .double, accessFlags := 25, slot := 0, constantValue := 0 }, { name := "DEFAULT_SIGNATURE_LENGTH", type := .int, accessFlags := 25, slot := 1, constantValue := 0 }, { name := "DEFAULT_SEED", type := .long, accessFlags := 25, slot := 2, constantValue := 0 }, { name := "MAX_MISS_AT_THRESHOLD", type := .double, accessFlags := 25, slot := 3, constantValue := 0 }, { name := "DEFAULTS", type := (.object "com/example/libshingle/libshingle/model/DiscoveryOptions"), accessFlags := 25, slot := 4, constantValue := 0 }]
  methods := #[k9m0, k9m1, k9m2, k9m3]
  instanceTypes := #[(.object "com/example/libshingle/libshingle/model/Shingling"), .int, .double, .int, .int, .int, .long]
  staticTypes := #[.double, .int, .long, .double, (.object "com/example/libshingle/libshingle/model/DiscoveryOptions")]
  resolved := Array.replicate 177 none
  statics := none }

def pool10 : Array CpInfo := pool [(2, .class_ 4), (1, u "java/lang/CharSequence"), (42, .class_ 48), (0, u "java/lang/CharSequence$1CodePointIterator"), (10, .class_ 60), (0, u "java/lang/CharSequence$1CharIterator"), (5, .class_ 67), (0, u "java/lang/Object")] 63

/-- java/lang/CharSequence -/
def k10 : Class := { plain "java/lang/CharSequence" (some 0) with
  accessFlags := 1537
  interfaces := #[]
  cf := some (fileOf pool10 2 #[.nestMembers #[47, 59]] #[] 1537 66 #[] #[])
  fields := #[]
  methods := #[]
  instanceTypes := #[]
  staticTypes := #[]
  resolved := Array.replicate 131 none
  statics := none }

def pool11 : Array CpInfo := pool [(1, .class_ 2), (0, u "java/lang/constant/ConstantDesc"), (0, .class_ 4), (0, u "java/lang/Object")] 32

/-- java/lang/constant/ConstantDesc -/
def k11 : Class := { plain "java/lang/constant/ConstantDesc" (some 0) with
  accessFlags := 1537
  interfaces := #[]
  cf := some (fileOf pool11 1 #[] #[] 1537 3 #[] #[])
  fields := #[]
  methods := #[]
  instanceTypes := #[]
  staticTypes := #[]
  resolved := Array.replicate 37 none
  statics := none }

def pool12 : Array CpInfo := pool [(2, .class_ 4), (1, u "java/lang/Object"), (0, u "<init>"), (0, u "()V"), (3, .class_ 12), (1, u "java/lang/String"), (0, u "value"), (0, u "[B"), (2, u "coder"), (0, u "B"), (2, u "hash"), (0, u "I"), (2, u "hashIsZero"), (0, u "Z"), (13, u "COMPACT_STRINGS"), (534, .class_ 576), (0, u "java/lang/CharSequence"), (22, u "CASE_INSENSITIVE_ORDER"), (0, u "Ljava/util/Comparator;"), (500, u "serialPersistentFields"), (0, u "[Ljava/io/ObjectStreamField;"), (0, .class_ 1104), (0, u "java/lang/String$CaseInsensitiveComparator"), (1, .class_ 1107), (0, u "java/io/Serializable"), (0, .class_ 1109), (0, u "java/lang/Comparable"), (0, .class_ 1111), (0, u "java/lang/constant/Constable"), (0, .class_ 1113), (0, u "java/lang/constant/ConstantDesc"), (2, u "serialVersionUID"), (0, u "J"), (3, u "REPL"), (0, u "C"), (2, u "LATIN1"), (1, u "UTF16")] 323

def k12m0 : Method := { name := "<init>", desc := "()V", sig := { parameters := [], returnType := none }, accessFlags := 1, code := none }
/-- java/lang/String -/
def k12 : Class := { plain "java/lang/String" (some 0) with
  accessFlags := 49
  interfaces := #[4, 3, 10, 2, 11]
  cf := some (fileOf pool12 10 #[.nestMembers #[1103]] #[{ accessFlags := 1, nameIndex := 5, descriptorIndex := 6, attributes := #[] }] 49 2 #[1106, 1108, 575, 1110, 1112] #[{ accessFlags := 18, nameIndex := 13, descriptorIndex := 14, attributes := #[] }, { accessFlags := 18, nameIndex := 17, descriptorIndex := 18, attributes := #[] }, { accessFlags := 2, nameIndex := 21, descriptorIndex := 22, attributes := #[] }, { accessFlags := 2, nameIndex := 25, descriptorIndex := 26, attributes := #[] }, { accessFlags := 26, nameIndex := 1116, descriptorIndex := 1117, attributes := #[] }, { accessFlags := 24, nameIndex := 40, descriptorIndex := 26, attributes := #[] }, { accessFlags := 26, nameIndex := 1101, descriptorIndex := 1102, attributes := #[] }, { accessFlags := 26, nameIndex := 1121, descriptorIndex := 1122, attributes := #[] }, { accessFlags := 25, nameIndex := 599, descriptorIndex := 600, attributes := #[] }, { accessFlags := 24, nameIndex := 1125, descriptorIndex := 18, attributes := #[] }, { accessFlags := 24, nameIndex := 1127, descriptorIndex := 18, attributes := #[] }])
  fields := #[{ name := "value", type := (.array .byte), accessFlags := 18, slot := 0, constantValue := 0 }, { name := "coder", type := .byte, accessFlags := 18, slot := 1, constantValue := 0 }, { name := "hash", type := .int, accessFlags := 2, slot := 2, constantValue := 0 }, { name := "hashIsZero", type := .boolean, accessFlags := 2, slot := 3, constantValue := 0 }, { name := "serialVersionUID", type := .long, accessFlags := 26, slot := 0, constantValue := 0 }, { name := "COMPACT_STRINGS", type := .boolean, accessFlags := 24, slot := 1, constantValue := 0 }, { name := "serialPersistentFields", type := (.array (.object "java/io/ObjectStreamField")), accessFlags := 26, slot := 2, constantValue := 0 }, { name := "REPL", type := .char, accessFlags := 26, slot := 3, constantValue := 0 }, { name := "CASE_INSENSITIVE_ORDER", type := (.object "java/util/Comparator"), accessFlags := 25, slot := 4, constantValue := 0 }, { name := "LATIN1", type := .byte, accessFlags := 24, slot := 5, constantValue := 0 }, { name := "UTF16", type := .byte, accessFlags := 24, slot := 6, constantValue := 0 }]
  methods := #[k12m0]
  instanceTypes := #[(.array .byte), .byte, .int, .boolean]
  staticTypes := #[.long, .boolean, (.array (.object "java/io/ObjectStreamField")), .char, (.object "java/util/Comparator"), .byte, .byte]
  resolved := Array.replicate 1451 none
  statics := none }

def pool13 : Array CpInfo := pool [(2, .class_ 4), (1, u "java/lang/Object"), (0, u "<init>"), (0, u "()V"), (35, .class_ 44), (1, u "java/util/Objects"), (0, u "requireNonNull"), (48, u "(Ljava/lang/Object;Ljava/lang/String;)Ljava/lang/Object;")] 89

def k13m0 : Method := { name := "<init>", desc := "()V", sig := { parameters := [], returnType := none }, accessFlags := 2, code := none }
def k13c1 : Code := { maxStack := 3, maxLocals := 2, code := jdk_31_method_11_code, exceptionTable := #[], attributes := #[] }
def k13m1 : Method := { name := "requireNonNull", desc := "(Ljava/lang/Object;Ljava/lang/String;)Ljava/lang/Object;", sig := { parameters := [(.object "java/lang/Object"), (.object "java/lang/String")], returnType := some (.object "java/lang/Object") }, accessFlags := 9, code := some k13c1 }
/-- java/util/Objects -/
def k13 : Class := { plain "java/util/Objects" (some 0) with
  accessFlags := 49
  interfaces := #[]
  cf := some (fileOf pool13 42 #[] #[{ accessFlags := 2, nameIndex := 5, descriptorIndex := 6, attributes := #[] }, { accessFlags := 9, nameIndex := 45, descriptorIndex := 94, attributes := #[] }] 49 2 #[] #[])
  fields := #[]
  methods := #[k13m0, k13m1]
  instanceTypes := #[]
  staticTypes := #[]
  resolved := Array.replicate 184 none
  statics := none }

def pool14 : Array CpInfo := pool [(1, u "java/lang/Cloneable"), (0, .class_ 1), (0, u "java/lang/Object"), (0, .class_ 3)] 3

/-- java/lang/Cloneable -/
def k14 : Class := { plain "java/lang/Cloneable" (some 0) with
  accessFlags := 1537
  interfaces := #[]
  cf := some (fileOf pool14 2 #[] #[] 1537 4 #[] #[])
  fields := #[]
  methods := #[]
  instanceTypes := #[]
  staticTypes := #[]
  resolved := Array.replicate 8 none
  statics := none }

/-- the primitive byte -/
def k15 : Class := { plain "byte" none with kind := .primitive 'B', accessFlags := 0x411 }
/-- [B -/
def k16 : Class := { plain "[B" (some 0) with kind := .array 15 .byte, interfaces := #[14, 4], accessFlags := 1041 }

/-- the primitive int -/
def k17 : Class := { plain "int" none with kind := .primitive 'I', accessFlags := 0x411 }
/-- [I -/
def k18 : Class := { plain "[I" (some 0) with kind := .array 17 .int, interfaces := #[14, 4], accessFlags := 1041 }

def heap : Heap := #[{ cls := 6, slots := #[.ref 1, .ref 2, .null], vm := .statics 6 },
  { cls := 6, slots := #[.null, .int 0, .int 0, .null, .int 0], vm := .none },
  { cls := 6, slots := #[.null, .int 0, .int 0, .null, .int 0], vm := .none }]
def classes : Array Class := #[k0, k1, k2, k3, k4, k5, k6, k7, k8, k9, k10, k11, k12, k13, k14, k15, k16, k17, k18]
def interned : List (Array UInt16 × Addr) := []
def slotsUsed : Nat := 13
def theMethod : MethodId := ⟨1, 1⟩
def args0 : Array Value := #[.int 5, .int 5, .int 5, .int 5, .int 5, .long 5]
def aboutOver (below : List Frame) : State where
  vm := { classes := classes, interned := interned.toArray }
  heap := heap
  slotsUsed := slotsUsed
  threads := #[{ frames := .invoking theMethod args0 :: below }]
def below0 : List Frame := [.native { method := ⟨0, 0⟩, args := #[] }]
def about1 : State := aboutOver below0
def p0 : Program := .bare "" "" ""
def e0 : Env := launch0.env 0 0 0
theorem w_frames : about1.frames = Frame.invoking theMethod args0 :: below0 := rfl
set_option maxRecDepth 65536 in
theorem w_args : argsFit about1.vm theMethod args0 = true := by decide +kernel
set_option maxRecDepth 65536 in
theorem w_heap : heapFits about1 = true := by decide +kernel
set_option maxRecDepth 65536 in
theorem w_runnable : about1.curStatus? = some .runnable := by decide +kernel
set_option maxRecDepth 65536 in
theorem w_alone : about1.alone = true := by decide +kernel
set_option maxRecDepth 65536 in
theorem w_named : about1.methodNamed? x = some theMethod := by decide +kernel
set_option maxRecDepth 65536 in
theorem w_hears : about1.hears theMethod below0 = true := by decide +kernel
set_option maxRecDepth 65536 in
theorem w_ripe : about1.ripe theMethod args0 below0 = true := by decide +kernel
theorem w_running : about1.status = .running := rfl
set_option maxRecDepth 65536 in
theorem w_room : about1.hasRoom e0.platform room_1 = true :=
  launch0.hasRoom_least _ room_1 (by decide +kernel) (by decide +kernel) (by decide +kernel) (by decide +kernel) (by decide +kernel) (by decide +kernel)
theorem allAtoms_all (ts : List Jvm.Cond) (a : Array Jvm.Value) (st : Jvm.State) : (allAtoms ts).before a st = ts.all (fun c => c.before a st) := by
  induction ts with
  | nil => rfl
  | cons c t ih =>
    show (Jvm.Cond.and c (allAtoms t)).before a st = _
    rw [Jvm.Cond.before_and, ih, List.all_cons]
def words1 : List Jvm.Cond := Jvm.Cond.code x code maxLocals ret :: tables_1
/-- a 'code' word, met by the world's own term for the bytes: nothing is compared byte by byte -/
theorem code_word {y : MethodName} {bytes : ByteArray} {mx : Nat} {rt : Option FieldType} {a : Array Value} {s : State} {m : MethodId} {meth : Method} {c : Code} (h1 : s.methodNamed? y = some m) (h2 : s.vm.method? m = some meth) (h3 : meth.code = some c) (h4 : c.code = bytes)
    (h5 : (c.maxLocals == mx && c.exceptionTable.isEmpty && decide (c.maxStack ≤ mostOperands) && decide (meth.sig.returnType = rt) && !meth.locks && decide (parseMethodDescriptor y.desc = some meth.sig)) = true) : (Jvm.Cond.code y bytes mx rt).before a s = true := by
  simp only [Bool.and_eq_true, beq_iff_eq, Bool.not_eq_true', decide_eq_true_eq] at h5
  obtain ⟨⟨⟨⟨⟨g1, g2⟩, g3⟩, g4⟩, g5⟩, g6⟩ := h5
  simp [Cond.before, Cond.holds, Cond.value, h1, h2, h3, h4, g1, g2, g3, g4, g5, g6]
def isCode : Jvm.Cond → Bool
  | .code _ _ _ _ => true
  | _ => false
theorem all_split {L : List Jvm.Cond} {P : Jvm.Cond → Bool} (h1 : L.all (fun c => isCode c || P c) = true) (h2 : ∀ c ∈ L.filter isCode, P c = true) : L.all P = true := by
  refine List.all_eq_true.mpr fun c hc => ?_
  have h := List.all_eq_true.mp h1 c hc
  rcases Bool.eq_false_or_eq_true (isCode c) with hi | hi
  · exact h2 c (List.mem_filter.mpr ⟨hc, hi⟩)
  · simpa [hi] using h
set_option maxRecDepth 65536 in
theorem w_c0 : (Jvm.Cond.code x code maxLocals ret).before args0 about1 = true := code_word (m := ⟨1, 1⟩) (meth := k1m1) (c := k1c1) (by decide +kernel) rfl rfl rfl (by decide +kernel)
set_option maxRecDepth 65536 in
theorem w_c1 : (Jvm.Cond.code ({ cls := "java/lang/Math", name := "max", desc := "(II)I" } : Jvm.MethodName) jdk_29_method_65_code (2 : Nat) (Option.some Jvm.ClassFile.FieldType.int)).before args0 about1 = true := code_word (m := ⟨7, 1⟩) (meth := k7m1) (c := k7c1) (by decide +kernel) rfl rfl rfl (by decide +kernel)
set_option maxRecDepth 65536 in
theorem w_c2 : (Jvm.Cond.code ({ cls := "com/example/libshingle/libshingle/model/DiscoveryOptions", name := "<init>", desc := "(Lcom/example/libshingle/libshingle/model/Shingling;IDIIIJ)V" } : Jvm.MethodName) prog_7_method_1_code (12 : Nat) (Option.none : Option Jvm.ClassFile.FieldType)).before args0 about1 = true := code_word (m := ⟨9, 0⟩) (meth := k9m0) (c := k9c0) (by decide +kernel) rfl rfl rfl (by decide +kernel)
set_option maxRecDepth 65536 in
theorem w_c3 : (Jvm.Cond.code ({ cls := "java/lang/Record", name := "<init>", desc := "()V" } : Jvm.MethodName) jdk_30_method_1_code (1 : Nat) (Option.none : Option Jvm.ClassFile.FieldType)).before args0 about1 = true := code_word (m := ⟨8, 0⟩) (meth := k8m0) (c := k8c0) (by decide +kernel) rfl rfl rfl (by decide +kernel)
set_option maxRecDepth 65536 in
theorem w_c4 : (Jvm.Cond.code ({ cls := "java/lang/Object", name := "<init>", desc := "()V" } : Jvm.MethodName) object_method_1_code (1 : Nat) (Option.none : Option Jvm.ClassFile.FieldType)).before args0 about1 = true := code_word (m := ⟨0, 0⟩) (meth := k0m0) (c := k0c0) (by decide +kernel) rfl rfl rfl (by decide +kernel)
set_option maxRecDepth 65536 in
theorem w_c5 : (Jvm.Cond.code ({ cls := "java/util/Objects", name := "requireNonNull", desc := "(Ljava/lang/Object;Ljava/lang/String;)Ljava/lang/Object;" } : Jvm.MethodName) jdk_31_method_11_code (2 : Nat) (Option.some (Jvm.ClassFile.FieldType.object "java/lang/Object"))).before args0 about1 = true := code_word (m := ⟨13, 1⟩) (meth := k13m1) (c := k13c1) (by decide +kernel) rfl rfl rfl (by decide +kernel)
set_option maxRecDepth 65536 in
theorem w_c6 : (Jvm.Cond.code ({ cls := "com/example/libshingle/libshingle/model/DiscoveryOptions", name := "atLeastOne", desc := "(Ljava/lang/String;I)V" } : Jvm.MethodName) prog_7_method_8_code (2 : Nat) (Option.none : Option Jvm.ClassFile.FieldType)).before args0 about1 = true := code_word (m := ⟨9, 3⟩) (meth := k9m3) (c := k9c3) (by decide +kernel) rfl rfl rfl (by decide +kernel)
set_option maxRecDepth 65536 in
theorem w_c7 : (Jvm.Cond.code ({ cls := "com/example/libshingle/libshingle/model/DiscoveryOptions", name := "isExact", desc := "()Z" } : Jvm.MethodName) prog_7_method_5_code (1 : Nat) (Option.some Jvm.ClassFile.FieldType.boolean)).before args0 about1 = true := code_word (m := ⟨9, 2⟩) (meth := k9m2) (c := k9c2) (by decide +kernel) rfl rfl rfl (by decide +kernel)
set_option maxRecDepth 65536 in
theorem w_c8 : (Jvm.Cond.code ({ cls := "com/example/libshingle/libshingle/model/DiscoveryOptions", name := "exact", desc := "(Lcom/example/libshingle/libshingle/model/Shingling;ID)Lcom/example/libshingle/libshingle/model/DiscoveryOptions;" } : Jvm.MethodName) prog_7_method_2_code (4 : Nat) (Option.some (Jvm.ClassFile.FieldType.object "com/example/libshingle/libshingle/model/DiscoveryOptions"))).before args0 about1 = true := code_word (m := ⟨9, 1⟩) (meth := k9m1) (c := k9c1) (by decide +kernel) rfl rfl rfl (by decide +kernel)
def codes1 : List Jvm.Cond := [Jvm.Cond.code x code maxLocals ret, Jvm.Cond.code ({ cls := "java/lang/Math", name := "max", desc := "(II)I" } : Jvm.MethodName) jdk_29_method_65_code (2 : Nat) (Option.some Jvm.ClassFile.FieldType.int), Jvm.Cond.code ({ cls := "com/example/libshingle/libshingle/model/DiscoveryOptions", name := "<init>", desc := "(Lcom/example/libshingle/libshingle/model/Shingling;IDIIIJ)V" } : Jvm.MethodName) prog_7_method_1_code (12 : Nat) (Option.none : Option Jvm.ClassFile.FieldType), Jvm.Cond.code ({ cls := "java/lang/Record", name := "<init>", desc := "()V" } : Jvm.MethodName) jdk_30_method_1_code (1 : Nat) (Option.none : Option Jvm.ClassFile.FieldType), Jvm.Cond.code ({ cls := "java/lang/Object", name := "<init>", desc := "()V" } : Jvm.MethodName) object_method_1_code (1 : Nat) (Option.none : Option Jvm.ClassFile.FieldType), Jvm.Cond.code ({ cls := "java/util/Objects", name := "requireNonNull", desc := "(Ljava/lang/Object;Ljava/lang/String;)Ljava/lang/Object;" } : Jvm.MethodName) jdk_31_method_11_code (2 : Nat) (Option.some (Jvm.ClassFile.FieldType.object "java/lang/Object")), Jvm.Cond.code ({ cls := "com/example/libshingle/libshingle/model/DiscoveryOptions", name := "atLeastOne", desc := "(Ljava/lang/String;I)V" } : Jvm.MethodName) prog_7_method_8_code (2 : Nat) (Option.none : Option Jvm.ClassFile.FieldType), Jvm.Cond.code ({ cls := "com/example/libshingle/libshingle/model/DiscoveryOptions", name := "isExact", desc := "()Z" } : Jvm.MethodName) prog_7_method_5_code (1 : Nat) (Option.some Jvm.ClassFile.FieldType.boolean), Jvm.Cond.code ({ cls := "com/example/libshingle/libshingle/model/DiscoveryOptions", name := "exact", desc := "(Lcom/example/libshingle/libshingle/model/Shingling;ID)Lcom/example/libshingle/libshingle/model/DiscoveryOptions;" } : Jvm.MethodName) prog_7_method_2_code (4 : Nat) (Option.some (Jvm.ClassFile.FieldType.object "com/example/libshingle/libshingle/model/DiscoveryOptions"))]
set_option maxRecDepth 65536 in
theorem codes_eq : words1.filter isCode = codes1 := rfl
theorem w_codes : ∀ c ∈ words1.filter isCode, c.before args0 about1 = true := by
  rw [codes_eq]
  intro c hc
  simp only [codes1, List.mem_cons, List.not_mem_nil, or_false] at hc
  rcases hc with rfl | rfl | rfl | rfl | rfl | rfl | rfl | rfl | rfl
  · exact w_c0
  · exact w_c1
  · exact w_c2
  · exact w_c3
  · exact w_c4
  · exact w_c5
  · exact w_c6
  · exact w_c7
  · exact w_c8
set_option maxRecDepth 65536 in
theorem w_t1 : (words1.take 24).all (fun c => isCode c || c.before args0 about1) = true := by decide +kernel
set_option maxRecDepth 65536 in
theorem w_t2 : ((words1.drop 24).take 24).all (fun c => isCode c || c.before args0 about1) = true := by decide +kernel
set_option maxRecDepth 65536 in
theorem w_t3 : ((words1.drop 24).drop 24).all (fun c => isCode c || c.before args0 about1) = true := by decide +kernel
theorem w_tables : (allAtoms (Jvm.Cond.code x code maxLocals ret :: tables_1)).before args0 about1 = true := by
  rw [allAtoms_all]
  show words1.all (fun c => c.before args0 about1) = true
  refine all_split ?_ w_codes
  rw [← List.take_append_drop 24 words1, List.all_append, w_t1, ← List.take_append_drop 24 (words1.drop 24), List.all_append, w_t2, w_t3]
  rfl
set_option maxRecDepth 65536 in
theorem w_case : (Jvm.Cond.and given_1 narrow_1).before args0 about1 = true := by decide +kernel
theorem w_applies : (headSpec (Jvm.Cond.code x code maxLocals ret :: tables_1) room_1).applies x e0.platform about1 = true :=
  (Spec.applies_iff w_frames).mpr ⟨w_running, w_runnable, w_alone, w_named, w_hears, w_ripe, w_room, w_tables⟩
theorem atStart : AtStart classFile x code maxLocals ret World_1 tables_1 room_1 Calls_1 rest_1 Pre_1 launch0 p0 e0 about1 theMethod args0 below0 :=
  ⟨lists_1, trivial, launch0.admits_env _ _ _, launch0.least_env, fairChoices_fair.cas, fairChoices_fair.clock, w_frames, w_args, w_heap, w_applies, trivial, trivial, w_case⟩
end start1
theorem witness_1 : WitnessClaimed_1 := ⟨start1.p0, start1.e0, start1.about1, start1.theMethod, start1.args0, start1.below0, start1.atStart⟩
end Jvm.Pilot.@@N@@
