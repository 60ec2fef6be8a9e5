import JvmDerived
import JvmDerived.Pilot.@@N@@Statement
import JvmDerived.Pilot.@@N@@Code
set_option linter.unusedVariables false
set_option linter.unusedSimpArgs false
namespace Jvm.RoadKit
open Sem ClassFile Op Lib Jvm.Stand Jvm.Free Jvm.LawKit
section New
variable {p : Program} {l : Launch} {e : Env} {R : Room} {s : State} {m : MethodId} {args : Array Value} {below : List Frame} {meth : Method} {c : Code} {T : State} {locs : List Loc} {cells slots : Nat}
theorem retI (X : Stand p l e R s m args below meth c T locs cells slots) (hx : p.tables.exec = Jvm.exec) {pc : Nat} {Ls : Array Slot} {z : Int32} {rest : List Value} (hret : meth.sig.returnType = some .int) (hd : decode c.code pc = .ok (.ireturn, 1)) {fs : List Frame}
    (hl : ∀ (f : JFrame) (acts : List Action), f.method = m → f.locked = none → f.entered = [] → (doReturn e (T.setTop f) acts (some (.int z))).1 = T.setFrames fs) : Steps p.tables e below (T.setTop (mkF m pc Ls (.int z :: rest))) (T.setFrames fs) := by
  have hm' : T.vm.method? m = some meth := X.method'
  have hn : narrow .int (.int z) = .int z := rfl
  show Steps p.tables e below (T.setTop { method := m, pc := pc, locals := Ls, stack := _ :: rest, locked := none }) _
  jvm_step X.here [X.here.top, hx, hd, hm', hret, hn]
  first | (intro acts; rw [hl _ acts rfl rfl rfl]) | rw [hl _ _ rfl rfl rfl]
  exact Steps.refl _
end New
end Jvm.RoadKit
namespace Jvm.Pilot.@@N@@
open Jvm Jvm.ClassFile Sem Op Lib Jvm.Free Jvm.Stand Jvm.LawKit Jvm.RoadKit Bundle Jvm.Pilot.@@N@@.Jvm.D

def own_q (p : Int32) : Int32 := (p % (33554432 : Int32))
def own_n (p : Int32) : Int32 := ((p &&& (2147483647 : Int32)) % (5 : Int32))
def own_sm (x : Int32) : Prop := -33554432 < x.toInt ∧ x.toInt < 33554432
def own_le (S : Int64) (n : Nat) : Prop := 0 ≤ S.toInt ∧ S.toInt ≤ (n : Int) * 1125899906842624
theorem own_q_sm (p : Int32) : own_sm (own_q p) := by
  have e : (33554432 : Int32).toInt = 33554432 := by decide
  unfold own_sm own_q
  rw [Int32.toInt_mod, e]
  have h1 := Int.tmod_lt_of_pos p.toInt (show (0 : Int) < 33554432 by decide)
  have h2 := Int.lt_tmod_of_pos p.toInt (show (0 : Int) < 33554432 by decide)
  omega
theorem own_nf (p : Int32) : own_n p = (0 : Int32) ∨ own_n p = (1 : Int32) ∨ own_n p = (2 : Int32) ∨ own_n p = (3 : Int32) ∨ own_n p = (4 : Int32) := by
  have h : (p &&& (2147483647 : Int32)).toBitVec.toNat ≤ 2147483647 := by
    rw [Int32.toBitVec_and, BitVec.toNat_and]
    exact Nat.le_trans Nat.and_le_right (by decide)
  have e : (p &&& (2147483647 : Int32)).toInt = ((p &&& (2147483647 : Int32)).toBitVec.toNat : Int) := BitVec.toInt_eq_toNat_of_lt (by omega)
  have e5 : (5 : Int32).toInt = 5 := by decide
  have b1 : 0 ≤ (own_n p).toInt := by unfold own_n; rw [Int32.toInt_mod]; exact Int.tmod_nonneg _ (by omega)
  have b2 : (own_n p).toInt < 5 := by unfold own_n; rw [Int32.toInt_mod, e5]; exact Int.tmod_lt_of_pos _ (by decide)
  have k : ∀ n : Int32, (own_n p).toInt = n.toInt → own_n p = n := fun n q => Int32.toInt_inj.mp q
  rcases (by omega : (own_n p).toInt = 0 ∨ (own_n p).toInt = 1 ∨ (own_n p).toInt = 2 ∨ (own_n p).toInt = 3 ∨ (own_n p).toInt = 4) with q | q | q | q | q
  · exact Or.inl (k 0 q)
  · exact Or.inr (Or.inl (k 1 q))
  · exact Or.inr (Or.inr (Or.inl (k 2 q)))
  · exact Or.inr (Or.inr (Or.inr (Or.inl (k 3 q))))
  · exact Or.inr (Or.inr (Or.inr (Or.inr (k 4 q))))
theorem own_sq_le {a : Int} (h1 : -33554432 < a) (h2 : a < 33554432) : 0 ≤ a * a ∧ a * a ≤ 1125899906842624 := by
  constructor
  · rcases Int.le_total 0 a with h | h
    · exact Int.mul_nonneg h h
    · exact Int.mul_nonneg_of_nonpos_of_nonpos h h
  · have h3 : a.natAbs ≤ 33554432 := by omega
    have h4 : a.natAbs * a.natAbs ≤ 33554432 * 33554432 := Nat.mul_le_mul h3 h3
    have h5 : a * a = ((a.natAbs * a.natAbs : Nat) : Int) := (Int.natAbs_mul_self (a := a)).symm
    omega
theorem own_sq_int {x : Int32} (h : own_sm x) : (x.toInt64 * x.toInt64).toInt = x.toInt * x.toInt := by
  have e := Int32.toInt_toInt64 x
  have b := own_sq_le h.1 h.2
  rw [Int64.toInt_mul, e, Int.bmod_eq_of_le] <;> omega
theorem own_b53 {x : Int32} : B53 x.toInt64 := by
  have h1 := x.toInt_lt
  have h2 := x.le_toInt
  have e : x.toInt64.toInt = x.toInt := Int32.toInt_toInt64 x
  exact ⟨by omega, by omega⟩
theorem own_sq {x : Int32} (h : own_sm x) : FP.dmul (FP.i2d x) (FP.i2d x) = FP.l2d ((x.toInt64) * (x.toInt64)) := by
  rw [i2d_w x]
  have e := Int32.toInt_toInt64 x
  have b := own_sq_le h.1 h.2
  by_cases z : x.toInt64 = 0
  · rw [dmul_z own_b53 own_b53 (Or.inl z), if_neg (by simp), z]
    rfl
  · exact dmul_w own_b53 own_b53 z z (by rw [e]; omega) (by rw [e]; omega)
theorem own_z : FP.dconst0 = FP.l2d (0 : Int64) := l2d_zero.symm
theorem own_le0 : own_le (0 : Int64) 0 := ⟨by decide, by decide⟩
theorem own_add {S : Int64} {n : Nat} {x : Int32} (hS : own_le S n) (hn : n ≤ 3) (h : own_sm x) : own_le (S + (x.toInt64) * (x.toInt64)) (n + 1) ∧ FP.dadd (FP.l2d S) (FP.l2d ((x.toInt64) * (x.toInt64))) = FP.l2d (S + (x.toInt64) * (x.toInt64)) := by
  have e := own_sq_int h
  have b := own_sq_le h.1 h.2
  have s1 := hS.1
  have s2 := hS.2
  have s3 : S.toInt ≤ 3 * 1125899906842624 := by omega
  have bS : B53 S := ⟨by omega, by omega⟩
  have bx : B53 (x.toInt64 * x.toInt64) := ⟨by omega, by omega⟩
  have ea := add64 bS bx
  refine ⟨⟨?_, ?_⟩, dadd_w bS bx⟩
  · show 0 ≤ (S + x.toInt64 * x.toInt64).toInt
    rw [ea]; omega
  · show (S + x.toInt64 * x.toInt64).toInt ≤ _
    rw [ea]; omega
theorem pn_0 : plainName "com/example/vidura/vidura/stats/Values" = true := by first | (simp [plainName, overriddenIn]; done) | decide +kernel
theorem ef_1m0 (m : MethodId) (a1 : Addr) : entryFrame m #[(.ref a1)] 8 = (mkF m 0 #[.val (.ref a1), .unset, .unset, .unset, .unset, .unset, .unset, .unset] []) := by first | (simp [entryFrame, mkF, argsToLocals, Value.category]; done) | rfl
theorem d1_0 : decode prog_125_method_5_code 0 = .ok (.dconst 0, 1) := by decide +kernel
theorem d1_1 : decode prog_125_method_5_code 1 = .ok (.dstore_n 1, 1) := by decide +kernel
theorem d1_2 : decode prog_125_method_5_code 2 = .ok (.aload_n 0, 1) := by decide +kernel
theorem d1_3 : decode prog_125_method_5_code 3 = .ok (.astore_n 3, 1) := by decide +kernel
theorem d1_4 : decode prog_125_method_5_code 4 = .ok (.aload_n 3, 1) := by decide +kernel
theorem d1_5 : decode prog_125_method_5_code 5 = .ok (.arraylength, 1) := by decide +kernel
theorem d1_6 : decode prog_125_method_5_code 6 = .ok (.istore 4, 2) := by decide +kernel
theorem d1_8 : decode prog_125_method_5_code 8 = .ok (.iconst 0, 1) := by decide +kernel
theorem d1_9 : decode prog_125_method_5_code 9 = .ok (.istore 5, 2) := by decide +kernel
theorem d1_11 : decode prog_125_method_5_code 11 = .ok (.iload 5, 2) := by decide +kernel
theorem d1_13 : decode prog_125_method_5_code 13 = .ok (.iload 4, 2) := by decide +kernel
theorem d1_15 : decode prog_125_method_5_code 15 = .ok (.if_icmp .ge 23, 3) := by decide +kernel
theorem d1_38 : decode prog_125_method_5_code 38 = .ok (.dload_n 1, 1) := by decide +kernel
theorem d1_39 : decode prog_125_method_5_code 39 = .ok (.dreturn, 1) := by decide +kernel
def Q1m0 (Z : State) (a1 : Addr) (k1 : ClassId) (h0 : Heap) (n0 : Nat) (v : Option Value) (h : Heap) (L : List Loc) : Prop := v = some (.double (FP.l2d (0 : Int64))) ∧ Fr n0 L ∧ h = h0
set_option maxRecDepth 65536 in
set_option maxHeartbeats 40000000 in
theorem rm1m0 (l : Launch) (Z : State) (a0 : Array Value) (hw : ∀ d ∈ tables_1, d.before a0 Z = true) (ws : List Jvm.Cond) (a1 : Addr) (k1 : ClassId) (h0 : Heap) (n0 : Nat) (Z0 : n0 ≤ h0.size) (V1 : Arv Z h0 a1 k1 .double (0 : Int32) [] (.double 0)) :
    MetFree l (⟨"com/example/vidura/vidura/stats/Values", "sumOfSquares", "([D)D"⟩ : MethodName) (head1 (Jvm.Cond.code (⟨"com/example/vidura/vidura/stats/Values", "sumOfSquares", "([D)D"⟩ : MethodName) prog_125_method_5_code 8 (some .double) :: ws) ({ frames := 0, cells := 0, slots := 0, locals := 0 } : Room)) (fun a U => a = #[(.ref a1)] ∧ Z.Warmed39 U.vm ∧ U.heap = h0) (fun _ _ _ _ _ => True) (fun _ U o U' => ∃ v L, o = .returned v ∧ Q1m0 Z a1 k1 h0 n0 v U'.heap L ∧ FrameEnd U o U' L ({ frames := 0, cells := 0, slots := 0, locals := 0 } : Room).cells ({ frames := 0, cells := 0, slots := 0, locals := 0 } : Room).slots) := by
  refine MetFree.of_bodySF (plainFor_of_name pn_0) hisR ?_
  intro p e s m args below meth c s₁ Bd hml0 hP hK
  obtain ⟨rfl, hZ, hh⟩ := hP
  have hx := Bd.exec
  have hby := Bd.bytes
  have hml : c.maxLocals = 8 := hml0
  have hown : s.vm.findClass "com/example/vidura/vidura/stats/Values" = some m.cls := findClass_of_methodNamed Bd.named
  have hnm := (name_of_methodNamed Bd.named Bd.method).1
  have X0 : Stand p l e ({ frames := 0, cells := 0, slots := 0, locals := 0 } : Room) s m #[(.ref a1)] below meth c s₁ [] 0 0 := Stand.of_body Bd
  have e0 : s₁.heap = h0 := by rw [← hh, Bd.state]; rfl
  have N0 := Fr.nil n0
  have pre0 : ∀ t, Steps p.tables e below (s₁.setTop (mkF m 0 #[.val (.ref a1), .unset, .unset, .unset, .unset, .unset, .unset, .unset] [])) t → Steps p.tables e below (s₁.setTop (entryFrame m #[(.ref a1)] 8)) t := fun t k => castTop (ef_1m0 m a1) k
  have pre1 : ∀ t, Steps p.tables e below (s₁.setTop (mkF m 5 #[.val (.ref a1), .val (.double (FP.l2d (0 : Int64))), .second, .val (.ref a1), .unset, .unset, .unset, .unset] [(.ref a1)])) t → Steps p.tables e below (s₁.setTop (entryFrame m #[(.ref a1)] 8)) t := fun t kt => by
    refine pre0 _ ?_
    show Steps p.tables e below (s₁.setTop (mkF m 0 #[.val (.ref a1), .unset, .unset, .unset, .unset, .unset, .unset, .unset] [])) _
    refine XS.dconst0 X0.here hx rfl (hb hby d1_0) own_z ?_
    show Steps p.tables e below (s₁.setTop (mkF m 1 #[.val (.ref a1), .unset, .unset, .unset, .unset, .unset, .unset, .unset] [(.double (FP.l2d (0 : Int64)))])) _
    refine XS.dstoreN X0.here hx rfl (hb hby d1_1) rfl (l' := #[.val (.ref a1), .val (.double (FP.l2d (0 : Int64))), .second, .unset, .unset, .unset, .unset, .unset]) rfl ?_
    show Steps p.tables e below (s₁.setTop (mkF m 2 #[.val (.ref a1), .val (.double (FP.l2d (0 : Int64))), .second, .unset, .unset, .unset, .unset, .unset] [])) _
    refine XS.aloadN X0.here hx rfl (hb hby d1_2) rfl rfl ?_
    show Steps p.tables e below (s₁.setTop (mkF m 3 #[.val (.ref a1), .val (.double (FP.l2d (0 : Int64))), .second, .unset, .unset, .unset, .unset, .unset] [(.ref a1)])) _
    refine XS.astoreN X0.here hx rfl (hb hby d1_3) rfl rfl (l' := #[.val (.ref a1), .val (.double (FP.l2d (0 : Int64))), .second, .val (.ref a1), .unset, .unset, .unset, .unset]) rfl ?_
    show Steps p.tables e below (s₁.setTop (mkF m 4 #[.val (.ref a1), .val (.double (FP.l2d (0 : Int64))), .second, .val (.ref a1), .unset, .unset, .unset, .unset] [])) _
    refine XS.aloadN X0.here hx rfl (hb hby d1_4) rfl rfl ?_
    exact kt
  obtain ⟨cl2, Ar2, qk2, Sz2, Nn2, Hh2, Gg2⟩ := id V1
  have pre3 : ∀ t, Steps p.tables e below (s₁.setTop (mkF m 39 #[.val (.ref a1), .val (.double (FP.l2d (0 : Int64))), .second, .val (.ref a1), .val (.int (0 : Int32)), .val (.int (0 : Int32)), .unset, .unset] [(.double (FP.l2d (0 : Int64)))])) t → Steps p.tables e below (s₁.setTop (entryFrame m #[(.ref a1)] 8)) t := fun t kt => by
    refine pre1 _ ?_
    show Steps p.tables e below (s₁.setTop (mkF m 5 #[.val (.ref a1), .val (.double (FP.l2d (0 : Int64))), .second, .val (.ref a1), .unset, .unset, .unset, .unset] [(.ref a1)])) _
    refine X0.arraylength hx (by rw [e0]; exact Ar2.1) (State.isArrayOf_alike hZ.alike Ar2.2.1) (g := (mkF m 5 #[.val (.ref a1), .val (.double (FP.l2d (0 : Int64))), .second, .val (.ref a1), .unset, .unset, .unset, .unset] [(.ref a1)])) rfl rfl (hb hby d1_5) _ ?_
    rw [len_of Sz2 Nn2]
    show Steps p.tables e below (s₁.setTop (mkF m 6 #[.val (.ref a1), .val (.double (FP.l2d (0 : Int64))), .second, .val (.ref a1), .unset, .unset, .unset, .unset] [(.int (0 : Int32))])) _
    refine XS.istore X0.here hx rfl (hb hby d1_6) rfl (l' := #[.val (.ref a1), .val (.double (FP.l2d (0 : Int64))), .second, .val (.ref a1), .val (.int (0 : Int32)), .unset, .unset, .unset]) rfl ?_
    show Steps p.tables e below (s₁.setTop (mkF m 8 #[.val (.ref a1), .val (.double (FP.l2d (0 : Int64))), .second, .val (.ref a1), .val (.int (0 : Int32)), .unset, .unset, .unset] [])) _
    refine XS.iconst X0.here hx rfl (hb hby d1_8) ?_
    show Steps p.tables e below (s₁.setTop (mkF m 9 #[.val (.ref a1), .val (.double (FP.l2d (0 : Int64))), .second, .val (.ref a1), .val (.int (0 : Int32)), .unset, .unset, .unset] [(.int (0 : Int32))])) _
    refine XS.istore X0.here hx rfl (hb hby d1_9) rfl (l' := #[.val (.ref a1), .val (.double (FP.l2d (0 : Int64))), .second, .val (.ref a1), .val (.int (0 : Int32)), .val (.int (0 : Int32)), .unset, .unset]) rfl ?_
    show Steps p.tables e below (s₁.setTop (mkF m 11 #[.val (.ref a1), .val (.double (FP.l2d (0 : Int64))), .second, .val (.ref a1), .val (.int (0 : Int32)), .val (.int (0 : Int32)), .unset, .unset] [])) _
    refine XS.iload X0.here hx rfl (hb hby d1_11) rfl ?_
    show Steps p.tables e below (s₁.setTop (mkF m 13 #[.val (.ref a1), .val (.double (FP.l2d (0 : Int64))), .second, .val (.ref a1), .val (.int (0 : Int32)), .val (.int (0 : Int32)), .unset, .unset] [(.int (0 : Int32))])) _
    refine XS.iload X0.here hx rfl (hb hby d1_13) rfl ?_
    show Steps p.tables e below (s₁.setTop (mkF m 15 #[.val (.ref a1), .val (.double (FP.l2d (0 : Int64))), .second, .val (.ref a1), .val (.int (0 : Int32)), .val (.int (0 : Int32)), .unset, .unset] [(.int (0 : Int32)), (.int (0 : Int32))])) _
    refine XS.icmpYes X0.here hx rfl (pc0 := 15) (pc' := 38) rfl (hb hby d1_15) rfl (flt (by decide : ¬ ((0 : Int32) < (0 : Int32)))).2.1 (by decide) (by decide) ?_
    show Steps p.tables e below (s₁.setTop (mkF m 38 #[.val (.ref a1), .val (.double (FP.l2d (0 : Int64))), .second, .val (.ref a1), .val (.int (0 : Int32)), .val (.int (0 : Int32)), .unset, .unset] [])) _
    refine XS.dloadN X0.here hx rfl (hb hby d1_38) rfl ?_
    exact kt
  obtain ⟨fs, hr, hrun, hended, hW, hsame⟩ := X0.leave (v := (some (.double (FP.l2d (0 : Int64))))) (fun h => by rw [Bd.returns] at h; cases h)
  refine ⟨_, _, pre3 _ ?_, hrun, hended, _, _, rfl, ?_, ⟨_, rfl⟩, hW, hsame.mono (by decide) (by decide)⟩
  · show Steps p.tables e below (s₁.setTop (mkF m 39 #[.val (.ref a1), .val (.double (FP.l2d (0 : Int64))), .second, .val (.ref a1), .val (.int (0 : Int32)), .val (.int (0 : Int32)), .unset, .unset] [(.double (FP.l2d (0 : Int64)))])) _
    exact retOut X0 hx (t := .double) Bd.returns rfl (Or.inr (Or.inr (Or.inl ⟨rfl, rfl, _, rfl⟩))) (hb hby d1_39) hr
  · show Q1m0 Z a1 k1 h0 n0 _ s₁.heap _
    rw [e0]
    exact ⟨rfl, N0, rfl⟩
theorem ef_1m1 (m : MethodId) (a1 : Addr) : entryFrame m #[(.ref a1)] 8 = (mkF m 0 #[.val (.ref a1), .unset, .unset, .unset, .unset, .unset, .unset, .unset] []) := by first | (simp [entryFrame, mkF, argsToLocals, Value.category]; done) | rfl
theorem d1_18 : decode prog_125_method_5_code 18 = .ok (.aload_n 3, 1) := by decide +kernel
theorem d1_19 : decode prog_125_method_5_code 19 = .ok (.iload 5, 2) := by decide +kernel
theorem d1_21 : decode prog_125_method_5_code 21 = .ok (.daload, 1) := by decide +kernel
theorem d1_22 : decode prog_125_method_5_code 22 = .ok (.dstore 6, 2) := by decide +kernel
theorem d1_24 : decode prog_125_method_5_code 24 = .ok (.dload_n 1, 1) := by decide +kernel
theorem d1_25 : decode prog_125_method_5_code 25 = .ok (.dload 6, 2) := by decide +kernel
theorem d1_27 : decode prog_125_method_5_code 27 = .ok (.dload 6, 2) := by decide +kernel
theorem d1_29 : decode prog_125_method_5_code 29 = .ok (.dmul, 1) := by decide +kernel
theorem d1_30 : decode prog_125_method_5_code 30 = .ok (.dadd, 1) := by decide +kernel
theorem d1_31 : decode prog_125_method_5_code 31 = .ok (.dstore_n 1, 1) := by decide +kernel
theorem d1_32 : decode prog_125_method_5_code 32 = .ok (.iinc 5 1, 3) := by decide +kernel
theorem d1_35 : decode prog_125_method_5_code 35 = .ok (.goto (-24), 3) := by decide +kernel
def Q1m1 (Z : State) (a1 : Addr) (k1 : ClassId) (x0 : Int32) (h0 : Heap) (n0 : Nat) (v : Option Value) (h : Heap) (L : List Loc) : Prop := v = some (.double (FP.l2d ((0 : Int64) + ((x0.toInt64) * (x0.toInt64))))) ∧ Fr n0 L ∧ h = h0
set_option maxRecDepth 65536 in
set_option maxHeartbeats 40000000 in
theorem rm1m1 (l : Launch) (Z : State) (a0 : Array Value) (hw : ∀ d ∈ tables_1, d.before a0 Z = true) (ws : List Jvm.Cond) (a1 : Addr) (k1 : ClassId) (x0 : Int32) (h0 : Heap) (n0 : Nat) (Z0 : n0 ≤ h0.size) (V1 : Arv Z h0 a1 k1 .double (1 : Int32) [(.double (FP.i2d x0))] (.double 0)) (s0 : own_sm x0) :
    MetFree l (⟨"com/example/vidura/vidura/stats/Values", "sumOfSquares", "([D)D"⟩ : MethodName) (head1 (Jvm.Cond.code (⟨"com/example/vidura/vidura/stats/Values", "sumOfSquares", "([D)D"⟩ : MethodName) prog_125_method_5_code 8 (some .double) :: ws) ({ frames := 0, cells := 0, slots := 0, locals := 0 } : Room)) (fun a U => a = #[(.ref a1)] ∧ Z.Warmed39 U.vm ∧ U.heap = h0) (fun _ _ _ _ _ => True) (fun _ U o U' => ∃ v L, o = .returned v ∧ Q1m1 Z a1 k1 x0 h0 n0 v U'.heap L ∧ FrameEnd U o U' L ({ frames := 0, cells := 0, slots := 0, locals := 0 } : Room).cells ({ frames := 0, cells := 0, slots := 0, locals := 0 } : Room).slots) := by
  refine MetFree.of_bodySF (plainFor_of_name pn_0) hisR ?_
  intro p e s m args below meth c s₁ Bd hml0 hP hK
  obtain ⟨rfl, hZ, hh⟩ := hP
  have hx := Bd.exec
  have hby := Bd.bytes
  have hml : c.maxLocals = 8 := hml0
  have hown : s.vm.findClass "com/example/vidura/vidura/stats/Values" = some m.cls := findClass_of_methodNamed Bd.named
  have hnm := (name_of_methodNamed Bd.named Bd.method).1
  have X0 : Stand p l e ({ frames := 0, cells := 0, slots := 0, locals := 0 } : Room) s m #[(.ref a1)] below meth c s₁ [] 0 0 := Stand.of_body Bd
  have e0 : s₁.heap = h0 := by rw [← hh, Bd.state]; rfl
  have N0 := Fr.nil n0
  have pre0 : ∀ t, Steps p.tables e below (s₁.setTop (mkF m 0 #[.val (.ref a1), .unset, .unset, .unset, .unset, .unset, .unset, .unset] [])) t → Steps p.tables e below (s₁.setTop (entryFrame m #[(.ref a1)] 8)) t := fun t k => castTop (ef_1m1 m a1) k
  have u0 := own_add own_le0 (by decide) s0
  have pre1 : ∀ t, Steps p.tables e below (s₁.setTop (mkF m 5 #[.val (.ref a1), .val (.double (FP.l2d (0 : Int64))), .second, .val (.ref a1), .unset, .unset, .unset, .unset] [(.ref a1)])) t → Steps p.tables e below (s₁.setTop (entryFrame m #[(.ref a1)] 8)) t := fun t kt => by
    refine pre0 _ ?_
    show Steps p.tables e below (s₁.setTop (mkF m 0 #[.val (.ref a1), .unset, .unset, .unset, .unset, .unset, .unset, .unset] [])) _
    refine XS.dconst0 X0.here hx rfl (hb hby d1_0) own_z ?_
    show Steps p.tables e below (s₁.setTop (mkF m 1 #[.val (.ref a1), .unset, .unset, .unset, .unset, .unset, .unset, .unset] [(.double (FP.l2d (0 : Int64)))])) _
    refine XS.dstoreN X0.here hx rfl (hb hby d1_1) rfl (l' := #[.val (.ref a1), .val (.double (FP.l2d (0 : Int64))), .second, .unset, .unset, .unset, .unset, .unset]) rfl ?_
    show Steps p.tables e below (s₁.setTop (mkF m 2 #[.val (.ref a1), .val (.double (FP.l2d (0 : Int64))), .second, .unset, .unset, .unset, .unset, .unset] [])) _
    refine XS.aloadN X0.here hx rfl (hb hby d1_2) rfl rfl ?_
    show Steps p.tables e below (s₁.setTop (mkF m 3 #[.val (.ref a1), .val (.double (FP.l2d (0 : Int64))), .second, .unset, .unset, .unset, .unset, .unset] [(.ref a1)])) _
    refine XS.astoreN X0.here hx rfl (hb hby d1_3) rfl rfl (l' := #[.val (.ref a1), .val (.double (FP.l2d (0 : Int64))), .second, .val (.ref a1), .unset, .unset, .unset, .unset]) rfl ?_
    show Steps p.tables e below (s₁.setTop (mkF m 4 #[.val (.ref a1), .val (.double (FP.l2d (0 : Int64))), .second, .val (.ref a1), .unset, .unset, .unset, .unset] [])) _
    refine XS.aloadN X0.here hx rfl (hb hby d1_4) rfl rfl ?_
    exact kt
  obtain ⟨cl2, Ar2, qk2, Sz2, Nn2, Hh2, Gg2⟩ := id V1
  have pre3 : ∀ t, Steps p.tables e below (s₁.setTop (mkF m 21 #[.val (.ref a1), .val (.double (FP.l2d (0 : Int64))), .second, .val (.ref a1), .val (.int (1 : Int32)), .val (.int (0 : Int32)), .unset, .unset] [(.int (0 : Int32)), (.ref a1)])) t → Steps p.tables e below (s₁.setTop (entryFrame m #[(.ref a1)] 8)) t := fun t kt => by
    refine pre1 _ ?_
    show Steps p.tables e below (s₁.setTop (mkF m 5 #[.val (.ref a1), .val (.double (FP.l2d (0 : Int64))), .second, .val (.ref a1), .unset, .unset, .unset, .unset] [(.ref a1)])) _
    refine X0.arraylength hx (by rw [e0]; exact Ar2.1) (State.isArrayOf_alike hZ.alike Ar2.2.1) (g := (mkF m 5 #[.val (.ref a1), .val (.double (FP.l2d (0 : Int64))), .second, .val (.ref a1), .unset, .unset, .unset, .unset] [(.ref a1)])) rfl rfl (hb hby d1_5) _ ?_
    rw [len_of Sz2 Nn2]
    show Steps p.tables e below (s₁.setTop (mkF m 6 #[.val (.ref a1), .val (.double (FP.l2d (0 : Int64))), .second, .val (.ref a1), .unset, .unset, .unset, .unset] [(.int (1 : Int32))])) _
    refine XS.istore X0.here hx rfl (hb hby d1_6) rfl (l' := #[.val (.ref a1), .val (.double (FP.l2d (0 : Int64))), .second, .val (.ref a1), .val (.int (1 : Int32)), .unset, .unset, .unset]) rfl ?_
    show Steps p.tables e below (s₁.setTop (mkF m 8 #[.val (.ref a1), .val (.double (FP.l2d (0 : Int64))), .second, .val (.ref a1), .val (.int (1 : Int32)), .unset, .unset, .unset] [])) _
    refine XS.iconst X0.here hx rfl (hb hby d1_8) ?_
    show Steps p.tables e below (s₁.setTop (mkF m 9 #[.val (.ref a1), .val (.double (FP.l2d (0 : Int64))), .second, .val (.ref a1), .val (.int (1 : Int32)), .unset, .unset, .unset] [(.int (0 : Int32))])) _
    refine XS.istore X0.here hx rfl (hb hby d1_9) rfl (l' := #[.val (.ref a1), .val (.double (FP.l2d (0 : Int64))), .second, .val (.ref a1), .val (.int (1 : Int32)), .val (.int (0 : Int32)), .unset, .unset]) rfl ?_
    show Steps p.tables e below (s₁.setTop (mkF m 11 #[.val (.ref a1), .val (.double (FP.l2d (0 : Int64))), .second, .val (.ref a1), .val (.int (1 : Int32)), .val (.int (0 : Int32)), .unset, .unset] [])) _
    refine XS.iload X0.here hx rfl (hb hby d1_11) rfl ?_
    show Steps p.tables e below (s₁.setTop (mkF m 13 #[.val (.ref a1), .val (.double (FP.l2d (0 : Int64))), .second, .val (.ref a1), .val (.int (1 : Int32)), .val (.int (0 : Int32)), .unset, .unset] [(.int (0 : Int32))])) _
    refine XS.iload X0.here hx rfl (hb hby d1_13) rfl ?_
    show Steps p.tables e below (s₁.setTop (mkF m 15 #[.val (.ref a1), .val (.double (FP.l2d (0 : Int64))), .second, .val (.ref a1), .val (.int (1 : Int32)), .val (.int (0 : Int32)), .unset, .unset] [(.int (1 : Int32)), (.int (0 : Int32))])) _
    refine XS.icmpNo X0.here hx rfl (hb hby d1_15) rfl (tlt (by decide : (0 : Int32) < (1 : Int32))).2.1 ?_
    show Steps p.tables e below (s₁.setTop (mkF m 18 #[.val (.ref a1), .val (.double (FP.l2d (0 : Int64))), .second, .val (.ref a1), .val (.int (1 : Int32)), .val (.int (0 : Int32)), .unset, .unset] [])) _
    refine XS.aloadN X0.here hx rfl (hb hby d1_18) rfl rfl ?_
    show Steps p.tables e below (s₁.setTop (mkF m 19 #[.val (.ref a1), .val (.double (FP.l2d (0 : Int64))), .second, .val (.ref a1), .val (.int (1 : Int32)), .val (.int (0 : Int32)), .unset, .unset] [(.ref a1)])) _
    refine XS.iload X0.here hx rfl (hb hby d1_19) rfl ?_
    exact kt
  obtain ⟨cl4, Ar4, qk4, Sz4, Nn4, Hh4, Gg4⟩ := id V1
  have hin4 : ¬ ((0 : Int32) < 0 ∨ cl4.slots.size ≤ ((0 : Int32)).toNatClampNeg) := inb_of Sz4 ⟨by decide, by decide⟩
  have hat4 : cl4.slots[((0 : Int32)).toNatClampNeg]? = some (.double (FP.i2d x0)) := Hh4.at hin4 rfl
  have pre5 : ∀ t, Steps p.tables e below (s₁.setTop (mkF m 39 #[.val (.ref a1), .val (.double (FP.l2d ((0 : Int64) + ((x0.toInt64) * (x0.toInt64))))), .second, .val (.ref a1), .val (.int (1 : Int32)), .val (.int (1 : Int32)), .val (.double (FP.i2d x0)), .second] [(.double (FP.l2d ((0 : Int64) + ((x0.toInt64) * (x0.toInt64)))))])) t → Steps p.tables e below (s₁.setTop (entryFrame m #[(.ref a1)] 8)) t := fun t kt => by
    refine pre3 _ ?_
    show Steps p.tables e below (s₁.setTop (mkF m 21 #[.val (.ref a1), .val (.double (FP.l2d (0 : Int64))), .second, .val (.ref a1), .val (.int (1 : Int32)), .val (.int (0 : Int32)), .unset, .unset] [(.int (0 : Int32)), (.ref a1)])) _
    refine X0.daload hx (j := (0 : Int32)) (v := (.double (FP.i2d x0))) (by rw [e0]; exact Ar4.1) (State.isArrayOf_alike hZ.alike Ar4.2.1) Ar4.2.2 hin4 hat4 (g := (mkF m 21 #[.val (.ref a1), .val (.double (FP.l2d (0 : Int64))), .second, .val (.ref a1), .val (.int (1 : Int32)), .val (.int (0 : Int32)), .unset, .unset] [(.int (0 : Int32)), (.ref a1)])) rfl rfl (hb hby d1_21) _ ?_
    show Steps p.tables e below (s₁.setTop (mkF m 22 #[.val (.ref a1), .val (.double (FP.l2d (0 : Int64))), .second, .val (.ref a1), .val (.int (1 : Int32)), .val (.int (0 : Int32)), .unset, .unset] [(.double (FP.i2d x0))])) _
    refine XS.dstore X0.here hx rfl (hb hby d1_22) rfl (l' := #[.val (.ref a1), .val (.double (FP.l2d (0 : Int64))), .second, .val (.ref a1), .val (.int (1 : Int32)), .val (.int (0 : Int32)), .val (.double (FP.i2d x0)), .second]) rfl ?_
    show Steps p.tables e below (s₁.setTop (mkF m 24 #[.val (.ref a1), .val (.double (FP.l2d (0 : Int64))), .second, .val (.ref a1), .val (.int (1 : Int32)), .val (.int (0 : Int32)), .val (.double (FP.i2d x0)), .second] [])) _
    refine XS.dloadN X0.here hx rfl (hb hby d1_24) rfl ?_
    show Steps p.tables e below (s₁.setTop (mkF m 25 #[.val (.ref a1), .val (.double (FP.l2d (0 : Int64))), .second, .val (.ref a1), .val (.int (1 : Int32)), .val (.int (0 : Int32)), .val (.double (FP.i2d x0)), .second] [(.double (FP.l2d (0 : Int64)))])) _
    refine XS.dload X0.here hx rfl (hb hby d1_25) rfl ?_
    show Steps p.tables e below (s₁.setTop (mkF m 27 #[.val (.ref a1), .val (.double (FP.l2d (0 : Int64))), .second, .val (.ref a1), .val (.int (1 : Int32)), .val (.int (0 : Int32)), .val (.double (FP.i2d x0)), .second] [(.double (FP.i2d x0)), (.double (FP.l2d (0 : Int64)))])) _
    refine XS.dload X0.here hx rfl (hb hby d1_27) rfl ?_
    show Steps p.tables e below (s₁.setTop (mkF m 29 #[.val (.ref a1), .val (.double (FP.l2d (0 : Int64))), .second, .val (.ref a1), .val (.int (1 : Int32)), .val (.int (0 : Int32)), .val (.double (FP.i2d x0)), .second] [(.double (FP.i2d x0)), (.double (FP.i2d x0)), (.double (FP.l2d (0 : Int64)))])) _
    refine XS.dmulS X0.here hx rfl (hb hby d1_29) rfl (nn_w (own_sq s0)) (own_sq s0) ?_
    show Steps p.tables e below (s₁.setTop (mkF m 30 #[.val (.ref a1), .val (.double (FP.l2d (0 : Int64))), .second, .val (.ref a1), .val (.int (1 : Int32)), .val (.int (0 : Int32)), .val (.double (FP.i2d x0)), .second] [(.double (FP.l2d ((x0.toInt64) * (x0.toInt64)))), (.double (FP.l2d (0 : Int64)))])) _
    refine XS.daddS X0.here hx rfl (hb hby d1_30) rfl (nn_w u0.2) u0.2 ?_
    show Steps p.tables e below (s₁.setTop (mkF m 31 #[.val (.ref a1), .val (.double (FP.l2d (0 : Int64))), .second, .val (.ref a1), .val (.int (1 : Int32)), .val (.int (0 : Int32)), .val (.double (FP.i2d x0)), .second] [(.double (FP.l2d ((0 : Int64) + ((x0.toInt64) * (x0.toInt64)))))])) _
    refine XS.dstoreN X0.here hx rfl (hb hby d1_31) rfl (l' := #[.val (.ref a1), .val (.double (FP.l2d ((0 : Int64) + ((x0.toInt64) * (x0.toInt64))))), .second, .val (.ref a1), .val (.int (1 : Int32)), .val (.int (0 : Int32)), .val (.double (FP.i2d x0)), .second]) rfl ?_
    show Steps p.tables e below (s₁.setTop (mkF m 32 #[.val (.ref a1), .val (.double (FP.l2d ((0 : Int64) + ((x0.toInt64) * (x0.toInt64))))), .second, .val (.ref a1), .val (.int (1 : Int32)), .val (.int (0 : Int32)), .val (.double (FP.i2d x0)), .second] [])) _
    refine XS.iinc X0.here hx rfl (hb hby d1_32) rfl (l' := #[.val (.ref a1), .val (.double (FP.l2d ((0 : Int64) + ((x0.toInt64) * (x0.toInt64))))), .second, .val (.ref a1), .val (.int (1 : Int32)), .val (.int ((0 : Int32) + (1 : Int32))), .val (.double (FP.i2d x0)), .second]) rfl ?_
    show Steps p.tables e below (s₁.setTop (mkF m 35 #[.val (.ref a1), .val (.double (FP.l2d ((0 : Int64) + ((x0.toInt64) * (x0.toInt64))))), .second, .val (.ref a1), .val (.int (1 : Int32)), .val (.int ((0 : Int32) + (1 : Int32))), .val (.double (FP.i2d x0)), .second] [])) _
    show Steps p.tables e below (s₁.setTop (mkF m 35 #[.val (.ref a1), .val (.double (FP.l2d ((0 : Int64) + ((x0.toInt64) * (x0.toInt64))))), .second, .val (.ref a1), .val (.int (1 : Int32)), .val (.int (1 : Int32)), .val (.double (FP.i2d x0)), .second] [])) _
    refine XS.goto X0.here hx rfl (pc0 := 35) (pc' := 11) rfl (hb hby d1_35) (by decide) (by decide) ?_
    show Steps p.tables e below (s₁.setTop (mkF m 11 #[.val (.ref a1), .val (.double (FP.l2d ((0 : Int64) + ((x0.toInt64) * (x0.toInt64))))), .second, .val (.ref a1), .val (.int (1 : Int32)), .val (.int (1 : Int32)), .val (.double (FP.i2d x0)), .second] [])) _
    refine XS.iload X0.here hx rfl (hb hby d1_11) rfl ?_
    show Steps p.tables e below (s₁.setTop (mkF m 13 #[.val (.ref a1), .val (.double (FP.l2d ((0 : Int64) + ((x0.toInt64) * (x0.toInt64))))), .second, .val (.ref a1), .val (.int (1 : Int32)), .val (.int (1 : Int32)), .val (.double (FP.i2d x0)), .second] [(.int (1 : Int32))])) _
    refine XS.iload X0.here hx rfl (hb hby d1_13) rfl ?_
    show Steps p.tables e below (s₁.setTop (mkF m 15 #[.val (.ref a1), .val (.double (FP.l2d ((0 : Int64) + ((x0.toInt64) * (x0.toInt64))))), .second, .val (.ref a1), .val (.int (1 : Int32)), .val (.int (1 : Int32)), .val (.double (FP.i2d x0)), .second] [(.int (1 : Int32)), (.int (1 : Int32))])) _
    refine XS.icmpYes X0.here hx rfl (pc0 := 15) (pc' := 38) rfl (hb hby d1_15) rfl (flt (by decide : ¬ ((1 : Int32) < (1 : Int32)))).2.1 (by decide) (by decide) ?_
    show Steps p.tables e below (s₁.setTop (mkF m 38 #[.val (.ref a1), .val (.double (FP.l2d ((0 : Int64) + ((x0.toInt64) * (x0.toInt64))))), .second, .val (.ref a1), .val (.int (1 : Int32)), .val (.int (1 : Int32)), .val (.double (FP.i2d x0)), .second] [])) _
    refine XS.dloadN X0.here hx rfl (hb hby d1_38) rfl ?_
    exact kt
  obtain ⟨fs, hr, hrun, hended, hW, hsame⟩ := X0.leave (v := (some (.double (FP.l2d ((0 : Int64) + ((x0.toInt64) * (x0.toInt64))))))) (fun h => by rw [Bd.returns] at h; cases h)
  refine ⟨_, _, pre5 _ ?_, hrun, hended, _, _, rfl, ?_, ⟨_, rfl⟩, hW, hsame.mono (by decide) (by decide)⟩
  · show Steps p.tables e below (s₁.setTop (mkF m 39 #[.val (.ref a1), .val (.double (FP.l2d ((0 : Int64) + ((x0.toInt64) * (x0.toInt64))))), .second, .val (.ref a1), .val (.int (1 : Int32)), .val (.int (1 : Int32)), .val (.double (FP.i2d x0)), .second] [(.double (FP.l2d ((0 : Int64) + ((x0.toInt64) * (x0.toInt64)))))])) _
    exact retOut X0 hx (t := .double) Bd.returns rfl (Or.inr (Or.inr (Or.inl ⟨rfl, rfl, _, rfl⟩))) (hb hby d1_39) hr
  · show Q1m1 Z a1 k1 x0 h0 n0 _ s₁.heap _
    rw [e0]
    exact ⟨rfl, N0, rfl⟩
theorem ef_1m2 (m : MethodId) (a1 : Addr) : entryFrame m #[(.ref a1)] 8 = (mkF m 0 #[.val (.ref a1), .unset, .unset, .unset, .unset, .unset, .unset, .unset] []) := by first | (simp [entryFrame, mkF, argsToLocals, Value.category]; done) | rfl
def Q1m2 (Z : State) (a1 : Addr) (k1 : ClassId) (x0 : Int32) (x1 : Int32) (h0 : Heap) (n0 : Nat) (v : Option Value) (h : Heap) (L : List Loc) : Prop := v = some (.double (FP.l2d (((0 : Int64) + ((x0.toInt64) * (x0.toInt64))) + ((x1.toInt64) * (x1.toInt64))))) ∧ Fr n0 L ∧ h = h0
set_option maxRecDepth 65536 in
set_option maxHeartbeats 40000000 in
theorem rm1m2 (l : Launch) (Z : State) (a0 : Array Value) (hw : ∀ d ∈ tables_1, d.before a0 Z = true) (ws : List Jvm.Cond) (a1 : Addr) (k1 : ClassId) (x0 : Int32) (x1 : Int32) (h0 : Heap) (n0 : Nat) (Z0 : n0 ≤ h0.size) (V1 : Arv Z h0 a1 k1 .double (2 : Int32) [(.double (FP.i2d x0)), (.double (FP.i2d x1))] (.double 0)) (s0 : own_sm x0) (s1 : own_sm x1) :
    MetFree l (⟨"com/example/vidura/vidura/stats/Values", "sumOfSquares", "([D)D"⟩ : MethodName) (head1 (Jvm.Cond.code (⟨"com/example/vidura/vidura/stats/Values", "sumOfSquares", "([D)D"⟩ : MethodName) prog_125_method_5_code 8 (some .double) :: ws) ({ frames := 0, cells := 0, slots := 0, locals := 0 } : Room)) (fun a U => a = #[(.ref a1)] ∧ Z.Warmed39 U.vm ∧ U.heap = h0) (fun _ _ _ _ _ => True) (fun _ U o U' => ∃ v L, o = .returned v ∧ Q1m2 Z a1 k1 x0 x1 h0 n0 v U'.heap L ∧ FrameEnd U o U' L ({ frames := 0, cells := 0, slots := 0, locals := 0 } : Room).cells ({ frames := 0, cells := 0, slots := 0, locals := 0 } : Room).slots) := by
  refine MetFree.of_bodySF (plainFor_of_name pn_0) hisR ?_
  intro p e s m args below meth c s₁ Bd hml0 hP hK
  obtain ⟨rfl, hZ, hh⟩ := hP
  have hx := Bd.exec
  have hby := Bd.bytes
  have hml : c.maxLocals = 8 := hml0
  have hown : s.vm.findClass "com/example/vidura/vidura/stats/Values" = some m.cls := findClass_of_methodNamed Bd.named
  have hnm := (name_of_methodNamed Bd.named Bd.method).1
  have X0 : Stand p l e ({ frames := 0, cells := 0, slots := 0, locals := 0 } : Room) s m #[(.ref a1)] below meth c s₁ [] 0 0 := Stand.of_body Bd
  have e0 : s₁.heap = h0 := by rw [← hh, Bd.state]; rfl
  have N0 := Fr.nil n0
  have pre0 : ∀ t, Steps p.tables e below (s₁.setTop (mkF m 0 #[.val (.ref a1), .unset, .unset, .unset, .unset, .unset, .unset, .unset] [])) t → Steps p.tables e below (s₁.setTop (entryFrame m #[(.ref a1)] 8)) t := fun t k => castTop (ef_1m2 m a1) k
  have u0 := own_add own_le0 (by decide) s0
  have u1 := own_add u0.1 (by decide) s1
  have pre1 : ∀ t, Steps p.tables e below (s₁.setTop (mkF m 5 #[.val (.ref a1), .val (.double (FP.l2d (0 : Int64))), .second, .val (.ref a1), .unset, .unset, .unset, .unset] [(.ref a1)])) t → Steps p.tables e below (s₁.setTop (entryFrame m #[(.ref a1)] 8)) t := fun t kt => by
    refine pre0 _ ?_
    show Steps p.tables e below (s₁.setTop (mkF m 0 #[.val (.ref a1), .unset, .unset, .unset, .unset, .unset, .unset, .unset] [])) _
    refine XS.dconst0 X0.here hx rfl (hb hby d1_0) own_z ?_
    show Steps p.tables e below (s₁.setTop (mkF m 1 #[.val (.ref a1), .unset, .unset, .unset, .unset, .unset, .unset, .unset] [(.double (FP.l2d (0 : Int64)))])) _
    refine XS.dstoreN X0.here hx rfl (hb hby d1_1) rfl (l' := #[.val (.ref a1), .val (.double (FP.l2d (0 : Int64))), .second, .unset, .unset, .unset, .unset, .unset]) rfl ?_
    show Steps p.tables e below (s₁.setTop (mkF m 2 #[.val (.ref a1), .val (.double (FP.l2d (0 : Int64))), .second, .unset, .unset, .unset, .unset, .unset] [])) _
    refine XS.aloadN X0.here hx rfl (hb hby d1_2) rfl rfl ?_
    show Steps p.tables e below (s₁.setTop (mkF m 3 #[.val (.ref a1), .val (.double (FP.l2d (0 : Int64))), .second, .unset, .unset, .unset, .unset, .unset] [(.ref a1)])) _
    refine XS.astoreN X0.here hx rfl (hb hby d1_3) rfl rfl (l' := #[.val (.ref a1), .val (.double (FP.l2d (0 : Int64))), .second, .val (.ref a1), .unset, .unset, .unset, .unset]) rfl ?_
    show Steps p.tables e below (s₁.setTop (mkF m 4 #[.val (.ref a1), .val (.double (FP.l2d (0 : Int64))), .second, .val (.ref a1), .unset, .unset, .unset, .unset] [])) _
    refine XS.aloadN X0.here hx rfl (hb hby d1_4) rfl rfl ?_
    exact kt
  obtain ⟨cl2, Ar2, qk2, Sz2, Nn2, Hh2, Gg2⟩ := id V1
  have pre3 : ∀ t, Steps p.tables e below (s₁.setTop (mkF m 21 #[.val (.ref a1), .val (.double (FP.l2d (0 : Int64))), .second, .val (.ref a1), .val (.int (2 : Int32)), .val (.int (0 : Int32)), .unset, .unset] [(.int (0 : Int32)), (.ref a1)])) t → Steps p.tables e below (s₁.setTop (entryFrame m #[(.ref a1)] 8)) t := fun t kt => by
    refine pre1 _ ?_
    show Steps p.tables e below (s₁.setTop (mkF m 5 #[.val (.ref a1), .val (.double (FP.l2d (0 : Int64))), .second, .val (.ref a1), .unset, .unset, .unset, .unset] [(.ref a1)])) _
    refine X0.arraylength hx (by rw [e0]; exact Ar2.1) (State.isArrayOf_alike hZ.alike Ar2.2.1) (g := (mkF m 5 #[.val (.ref a1), .val (.double (FP.l2d (0 : Int64))), .second, .val (.ref a1), .unset, .unset, .unset, .unset] [(.ref a1)])) rfl rfl (hb hby d1_5) _ ?_
    rw [len_of Sz2 Nn2]
    show Steps p.tables e below (s₁.setTop (mkF m 6 #[.val (.ref a1), .val (.double (FP.l2d (0 : Int64))), .second, .val (.ref a1), .unset, .unset, .unset, .unset] [(.int (2 : Int32))])) _
    refine XS.istore X0.here hx rfl (hb hby d1_6) rfl (l' := #[.val (.ref a1), .val (.double (FP.l2d (0 : Int64))), .second, .val (.ref a1), .val (.int (2 : Int32)), .unset, .unset, .unset]) rfl ?_
    show Steps p.tables e below (s₁.setTop (mkF m 8 #[.val (.ref a1), .val (.double (FP.l2d (0 : Int64))), .second, .val (.ref a1), .val (.int (2 : Int32)), .unset, .unset, .unset] [])) _
    refine XS.iconst X0.here hx rfl (hb hby d1_8) ?_
    show Steps p.tables e below (s₁.setTop (mkF m 9 #[.val (.ref a1), .val (.double (FP.l2d (0 : Int64))), .second, .val (.ref a1), .val (.int (2 : Int32)), .unset, .unset, .unset] [(.int (0 : Int32))])) _
    refine XS.istore X0.here hx rfl (hb hby d1_9) rfl (l' := #[.val (.ref a1), .val (.double (FP.l2d (0 : Int64))), .second, .val (.ref a1), .val (.int (2 : Int32)), .val (.int (0 : Int32)), .unset, .unset]) rfl ?_
    show Steps p.tables e below (s₁.setTop (mkF m 11 #[.val (.ref a1), .val (.double (FP.l2d (0 : Int64))), .second, .val (.ref a1), .val (.int (2 : Int32)), .val (.int (0 : Int32)), .unset, .unset] [])) _
    refine XS.iload X0.here hx rfl (hb hby d1_11) rfl ?_
    show Steps p.tables e below (s₁.setTop (mkF m 13 #[.val (.ref a1), .val (.double (FP.l2d (0 : Int64))), .second, .val (.ref a1), .val (.int (2 : Int32)), .val (.int (0 : Int32)), .unset, .unset] [(.int (0 : Int32))])) _
    refine XS.iload X0.here hx rfl (hb hby d1_13) rfl ?_
    show Steps p.tables e below (s₁.setTop (mkF m 15 #[.val (.ref a1), .val (.double (FP.l2d (0 : Int64))), .second, .val (.ref a1), .val (.int (2 : Int32)), .val (.int (0 : Int32)), .unset, .unset] [(.int (2 : Int32)), (.int (0 : Int32))])) _
    refine XS.icmpNo X0.here hx rfl (hb hby d1_15) rfl (tlt (by decide : (0 : Int32) < (2 : Int32))).2.1 ?_
    show Steps p.tables e below (s₁.setTop (mkF m 18 #[.val (.ref a1), .val (.double (FP.l2d (0 : Int64))), .second, .val (.ref a1), .val (.int (2 : Int32)), .val (.int (0 : Int32)), .unset, .unset] [])) _
    refine XS.aloadN X0.here hx rfl (hb hby d1_18) rfl rfl ?_
    show Steps p.tables e below (s₁.setTop (mkF m 19 #[.val (.ref a1), .val (.double (FP.l2d (0 : Int64))), .second, .val (.ref a1), .val (.int (2 : Int32)), .val (.int (0 : Int32)), .unset, .unset] [(.ref a1)])) _
    refine XS.iload X0.here hx rfl (hb hby d1_19) rfl ?_
    exact kt
  obtain ⟨cl4, Ar4, qk4, Sz4, Nn4, Hh4, Gg4⟩ := id V1
  have hin4 : ¬ ((0 : Int32) < 0 ∨ cl4.slots.size ≤ ((0 : Int32)).toNatClampNeg) := inb_of Sz4 ⟨by decide, by decide⟩
  have hat4 : cl4.slots[((0 : Int32)).toNatClampNeg]? = some (.double (FP.i2d x0)) := Hh4.at hin4 rfl
  have pre5 : ∀ t, Steps p.tables e below (s₁.setTop (mkF m 21 #[.val (.ref a1), .val (.double (FP.l2d ((0 : Int64) + ((x0.toInt64) * (x0.toInt64))))), .second, .val (.ref a1), .val (.int (2 : Int32)), .val (.int (1 : Int32)), .val (.double (FP.i2d x0)), .second] [(.int (1 : Int32)), (.ref a1)])) t → Steps p.tables e below (s₁.setTop (entryFrame m #[(.ref a1)] 8)) t := fun t kt => by
    refine pre3 _ ?_
    show Steps p.tables e below (s₁.setTop (mkF m 21 #[.val (.ref a1), .val (.double (FP.l2d (0 : Int64))), .second, .val (.ref a1), .val (.int (2 : Int32)), .val (.int (0 : Int32)), .unset, .unset] [(.int (0 : Int32)), (.ref a1)])) _
    refine X0.daload hx (j := (0 : Int32)) (v := (.double (FP.i2d x0))) (by rw [e0]; exact Ar4.1) (State.isArrayOf_alike hZ.alike Ar4.2.1) Ar4.2.2 hin4 hat4 (g := (mkF m 21 #[.val (.ref a1), .val (.double (FP.l2d (0 : Int64))), .second, .val (.ref a1), .val (.int (2 : Int32)), .val (.int (0 : Int32)), .unset, .unset] [(.int (0 : Int32)), (.ref a1)])) rfl rfl (hb hby d1_21) _ ?_
    show Steps p.tables e below (s₁.setTop (mkF m 22 #[.val (.ref a1), .val (.double (FP.l2d (0 : Int64))), .second, .val (.ref a1), .val (.int (2 : Int32)), .val (.int (0 : Int32)), .unset, .unset] [(.double (FP.i2d x0))])) _
    refine XS.dstore X0.here hx rfl (hb hby d1_22) rfl (l' := #[.val (.ref a1), .val (.double (FP.l2d (0 : Int64))), .second, .val (.ref a1), .val (.int (2 : Int32)), .val (.int (0 : Int32)), .val (.double (FP.i2d x0)), .second]) rfl ?_
    show Steps p.tables e below (s₁.setTop (mkF m 24 #[.val (.ref a1), .val (.double (FP.l2d (0 : Int64))), .second, .val (.ref a1), .val (.int (2 : Int32)), .val (.int (0 : Int32)), .val (.double (FP.i2d x0)), .second] [])) _
    refine XS.dloadN X0.here hx rfl (hb hby d1_24) rfl ?_
    show Steps p.tables e below (s₁.setTop (mkF m 25 #[.val (.ref a1), .val (.double (FP.l2d (0 : Int64))), .second, .val (.ref a1), .val (.int (2 : Int32)), .val (.int (0 : Int32)), .val (.double (FP.i2d x0)), .second] [(.double (FP.l2d (0 : Int64)))])) _
    refine XS.dload X0.here hx rfl (hb hby d1_25) rfl ?_
    show Steps p.tables e below (s₁.setTop (mkF m 27 #[.val (.ref a1), .val (.double (FP.l2d (0 : Int64))), .second, .val (.ref a1), .val (.int (2 : Int32)), .val (.int (0 : Int32)), .val (.double (FP.i2d x0)), .second] [(.double (FP.i2d x0)), (.double (FP.l2d (0 : Int64)))])) _
    refine XS.dload X0.here hx rfl (hb hby d1_27) rfl ?_
    show Steps p.tables e below (s₁.setTop (mkF m 29 #[.val (.ref a1), .val (.double (FP.l2d (0 : Int64))), .second, .val (.ref a1), .val (.int (2 : Int32)), .val (.int (0 : Int32)), .val (.double (FP.i2d x0)), .second] [(.double (FP.i2d x0)), (.double (FP.i2d x0)), (.double (FP.l2d (0 : Int64)))])) _
    refine XS.dmulS X0.here hx rfl (hb hby d1_29) rfl (nn_w (own_sq s0)) (own_sq s0) ?_
    show Steps p.tables e below (s₁.setTop (mkF m 30 #[.val (.ref a1), .val (.double (FP.l2d (0 : Int64))), .second, .val (.ref a1), .val (.int (2 : Int32)), .val (.int (0 : Int32)), .val (.double (FP.i2d x0)), .second] [(.double (FP.l2d ((x0.toInt64) * (x0.toInt64)))), (.double (FP.l2d (0 : Int64)))])) _
    refine XS.daddS X0.here hx rfl (hb hby d1_30) rfl (nn_w u0.2) u0.2 ?_
    show Steps p.tables e below (s₁.setTop (mkF m 31 #[.val (.ref a1), .val (.double (FP.l2d (0 : Int64))), .second, .val (.ref a1), .val (.int (2 : Int32)), .val (.int (0 : Int32)), .val (.double (FP.i2d x0)), .second] [(.double (FP.l2d ((0 : Int64) + ((x0.toInt64) * (x0.toInt64)))))])) _
    refine XS.dstoreN X0.here hx rfl (hb hby d1_31) rfl (l' := #[.val (.ref a1), .val (.double (FP.l2d ((0 : Int64) + ((x0.toInt64) * (x0.toInt64))))), .second, .val (.ref a1), .val (.int (2 : Int32)), .val (.int (0 : Int32)), .val (.double (FP.i2d x0)), .second]) rfl ?_
    show Steps p.tables e below (s₁.setTop (mkF m 32 #[.val (.ref a1), .val (.double (FP.l2d ((0 : Int64) + ((x0.toInt64) * (x0.toInt64))))), .second, .val (.ref a1), .val (.int (2 : Int32)), .val (.int (0 : Int32)), .val (.double (FP.i2d x0)), .second] [])) _
    refine XS.iinc X0.here hx rfl (hb hby d1_32) rfl (l' := #[.val (.ref a1), .val (.double (FP.l2d ((0 : Int64) + ((x0.toInt64) * (x0.toInt64))))), .second, .val (.ref a1), .val (.int (2 : Int32)), .val (.int ((0 : Int32) + (1 : Int32))), .val (.double (FP.i2d x0)), .second]) rfl ?_
    show Steps p.tables e below (s₁.setTop (mkF m 35 #[.val (.ref a1), .val (.double (FP.l2d ((0 : Int64) + ((x0.toInt64) * (x0.toInt64))))), .second, .val (.ref a1), .val (.int (2 : Int32)), .val (.int ((0 : Int32) + (1 : Int32))), .val (.double (FP.i2d x0)), .second] [])) _
    show Steps p.tables e below (s₁.setTop (mkF m 35 #[.val (.ref a1), .val (.double (FP.l2d ((0 : Int64) + ((x0.toInt64) * (x0.toInt64))))), .second, .val (.ref a1), .val (.int (2 : Int32)), .val (.int (1 : Int32)), .val (.double (FP.i2d x0)), .second] [])) _
    refine XS.goto X0.here hx rfl (pc0 := 35) (pc' := 11) rfl (hb hby d1_35) (by decide) (by decide) ?_
    show Steps p.tables e below (s₁.setTop (mkF m 11 #[.val (.ref a1), .val (.double (FP.l2d ((0 : Int64) + ((x0.toInt64) * (x0.toInt64))))), .second, .val (.ref a1), .val (.int (2 : Int32)), .val (.int (1 : Int32)), .val (.double (FP.i2d x0)), .second] [])) _
    refine XS.iload X0.here hx rfl (hb hby d1_11) rfl ?_
    show Steps p.tables e below (s₁.setTop (mkF m 13 #[.val (.ref a1), .val (.double (FP.l2d ((0 : Int64) + ((x0.toInt64) * (x0.toInt64))))), .second, .val (.ref a1), .val (.int (2 : Int32)), .val (.int (1 : Int32)), .val (.double (FP.i2d x0)), .second] [(.int (1 : Int32))])) _
    refine XS.iload X0.here hx rfl (hb hby d1_13) rfl ?_
    show Steps p.tables e below (s₁.setTop (mkF m 15 #[.val (.ref a1), .val (.double (FP.l2d ((0 : Int64) + ((x0.toInt64) * (x0.toInt64))))), .second, .val (.ref a1), .val (.int (2 : Int32)), .val (.int (1 : Int32)), .val (.double (FP.i2d x0)), .second] [(.int (2 : Int32)), (.int (1 : Int32))])) _
    refine XS.icmpNo X0.here hx rfl (hb hby d1_15) rfl (tlt (by decide : (1 : Int32) < (2 : Int32))).2.1 ?_
    show Steps p.tables e below (s₁.setTop (mkF m 18 #[.val (.ref a1), .val (.double (FP.l2d ((0 : Int64) + ((x0.toInt64) * (x0.toInt64))))), .second, .val (.ref a1), .val (.int (2 : Int32)), .val (.int (1 : Int32)), .val (.double (FP.i2d x0)), .second] [])) _
    refine XS.aloadN X0.here hx rfl (hb hby d1_18) rfl rfl ?_
    show Steps p.tables e below (s₁.setTop (mkF m 19 #[.val (.ref a1), .val (.double (FP.l2d ((0 : Int64) + ((x0.toInt64) * (x0.toInt64))))), .second, .val (.ref a1), .val (.int (2 : Int32)), .val (.int (1 : Int32)), .val (.double (FP.i2d x0)), .second] [(.ref a1)])) _
    refine XS.iload X0.here hx rfl (hb hby d1_19) rfl ?_
    exact kt
  obtain ⟨cl6, Ar6, qk6, Sz6, Nn6, Hh6, Gg6⟩ := id V1
  have hin6 : ¬ ((1 : Int32) < 0 ∨ cl6.slots.size ≤ ((1 : Int32)).toNatClampNeg) := inb_of Sz6 ⟨by decide, by decide⟩
  have hat6 : cl6.slots[((1 : Int32)).toNatClampNeg]? = some (.double (FP.i2d x1)) := Hh6.at hin6 rfl
  have pre7 : ∀ t, Steps p.tables e below (s₁.setTop (mkF m 39 #[.val (.ref a1), .val (.double (FP.l2d (((0 : Int64) + ((x0.toInt64) * (x0.toInt64))) + ((x1.toInt64) * (x1.toInt64))))), .second, .val (.ref a1), .val (.int (2 : Int32)), .val (.int (2 : Int32)), .val (.double (FP.i2d x1)), .second] [(.double (FP.l2d (((0 : Int64) + ((x0.toInt64) * (x0.toInt64))) + ((x1.toInt64) * (x1.toInt64)))))])) t → Steps p.tables e below (s₁.setTop (entryFrame m #[(.ref a1)] 8)) t := fun t kt => by
    refine pre5 _ ?_
    show Steps p.tables e below (s₁.setTop (mkF m 21 #[.val (.ref a1), .val (.double (FP.l2d ((0 : Int64) + ((x0.toInt64) * (x0.toInt64))))), .second, .val (.ref a1), .val (.int (2 : Int32)), .val (.int (1 : Int32)), .val (.double (FP.i2d x0)), .second] [(.int (1 : Int32)), (.ref a1)])) _
    refine X0.daload hx (j := (1 : Int32)) (v := (.double (FP.i2d x1))) (by rw [e0]; exact Ar6.1) (State.isArrayOf_alike hZ.alike Ar6.2.1) Ar6.2.2 hin6 hat6 (g := (mkF m 21 #[.val (.ref a1), .val (.double (FP.l2d ((0 : Int64) + ((x0.toInt64) * (x0.toInt64))))), .second, .val (.ref a1), .val (.int (2 : Int32)), .val (.int (1 : Int32)), .val (.double (FP.i2d x0)), .second] [(.int (1 : Int32)), (.ref a1)])) rfl rfl (hb hby d1_21) _ ?_
    show Steps p.tables e below (s₁.setTop (mkF m 22 #[.val (.ref a1), .val (.double (FP.l2d ((0 : Int64) + ((x0.toInt64) * (x0.toInt64))))), .second, .val (.ref a1), .val (.int (2 : Int32)), .val (.int (1 : Int32)), .val (.double (FP.i2d x0)), .second] [(.double (FP.i2d x1))])) _
    refine XS.dstore X0.here hx rfl (hb hby d1_22) rfl (l' := #[.val (.ref a1), .val (.double (FP.l2d ((0 : Int64) + ((x0.toInt64) * (x0.toInt64))))), .second, .val (.ref a1), .val (.int (2 : Int32)), .val (.int (1 : Int32)), .val (.double (FP.i2d x1)), .second]) rfl ?_
    show Steps p.tables e below (s₁.setTop (mkF m 24 #[.val (.ref a1), .val (.double (FP.l2d ((0 : Int64) + ((x0.toInt64) * (x0.toInt64))))), .second, .val (.ref a1), .val (.int (2 : Int32)), .val (.int (1 : Int32)), .val (.double (FP.i2d x1)), .second] [])) _
    refine XS.dloadN X0.here hx rfl (hb hby d1_24) rfl ?_
    show Steps p.tables e below (s₁.setTop (mkF m 25 #[.val (.ref a1), .val (.double (FP.l2d ((0 : Int64) + ((x0.toInt64) * (x0.toInt64))))), .second, .val (.ref a1), .val (.int (2 : Int32)), .val (.int (1 : Int32)), .val (.double (FP.i2d x1)), .second] [(.double (FP.l2d ((0 : Int64) + ((x0.toInt64) * (x0.toInt64)))))])) _
    refine XS.dload X0.here hx rfl (hb hby d1_25) rfl ?_
    show Steps p.tables e below (s₁.setTop (mkF m 27 #[.val (.ref a1), .val (.double (FP.l2d ((0 : Int64) + ((x0.toInt64) * (x0.toInt64))))), .second, .val (.ref a1), .val (.int (2 : Int32)), .val (.int (1 : Int32)), .val (.double (FP.i2d x1)), .second] [(.double (FP.i2d x1)), (.double (FP.l2d ((0 : Int64) + ((x0.toInt64) * (x0.toInt64)))))])) _
    refine XS.dload X0.here hx rfl (hb hby d1_27) rfl ?_
    show Steps p.tables e below (s₁.setTop (mkF m 29 #[.val (.ref a1), .val (.double (FP.l2d ((0 : Int64) + ((x0.toInt64) * (x0.toInt64))))), .second, .val (.ref a1), .val (.int (2 : Int32)), .val (.int (1 : Int32)), .val (.double (FP.i2d x1)), .second] [(.double (FP.i2d x1)), (.double (FP.i2d x1)), (.double (FP.l2d ((0 : Int64) + ((x0.toInt64) * (x0.toInt64)))))])) _
    refine XS.dmulS X0.here hx rfl (hb hby d1_29) rfl (nn_w (own_sq s1)) (own_sq s1) ?_
    show Steps p.tables e below (s₁.setTop (mkF m 30 #[.val (.ref a1), .val (.double (FP.l2d ((0 : Int64) + ((x0.toInt64) * (x0.toInt64))))), .second, .val (.ref a1), .val (.int (2 : Int32)), .val (.int (1 : Int32)), .val (.double (FP.i2d x1)), .second] [(.double (FP.l2d ((x1.toInt64) * (x1.toInt64)))), (.double (FP.l2d ((0 : Int64) + ((x0.toInt64) * (x0.toInt64)))))])) _
    refine XS.daddS X0.here hx rfl (hb hby d1_30) rfl (nn_w u1.2) u1.2 ?_
    show Steps p.tables e below (s₁.setTop (mkF m 31 #[.val (.ref a1), .val (.double (FP.l2d ((0 : Int64) + ((x0.toInt64) * (x0.toInt64))))), .second, .val (.ref a1), .val (.int (2 : Int32)), .val (.int (1 : Int32)), .val (.double (FP.i2d x1)), .second] [(.double (FP.l2d (((0 : Int64) + ((x0.toInt64) * (x0.toInt64))) + ((x1.toInt64) * (x1.toInt64)))))])) _
    refine XS.dstoreN X0.here hx rfl (hb hby d1_31) rfl (l' := #[.val (.ref a1), .val (.double (FP.l2d (((0 : Int64) + ((x0.toInt64) * (x0.toInt64))) + ((x1.toInt64) * (x1.toInt64))))), .second, .val (.ref a1), .val (.int (2 : Int32)), .val (.int (1 : Int32)), .val (.double (FP.i2d x1)), .second]) rfl ?_
    show Steps p.tables e below (s₁.setTop (mkF m 32 #[.val (.ref a1), .val (.double (FP.l2d (((0 : Int64) + ((x0.toInt64) * (x0.toInt64))) + ((x1.toInt64) * (x1.toInt64))))), .second, .val (.ref a1), .val (.int (2 : Int32)), .val (.int (1 : Int32)), .val (.double (FP.i2d x1)), .second] [])) _
    refine XS.iinc X0.here hx rfl (hb hby d1_32) rfl (l' := #[.val (.ref a1), .val (.double (FP.l2d (((0 : Int64) + ((x0.toInt64) * (x0.toInt64))) + ((x1.toInt64) * (x1.toInt64))))), .second, .val (.ref a1), .val (.int (2 : Int32)), .val (.int ((1 : Int32) + (1 : Int32))), .val (.double (FP.i2d x1)), .second]) rfl ?_
    show Steps p.tables e below (s₁.setTop (mkF m 35 #[.val (.ref a1), .val (.double (FP.l2d (((0 : Int64) + ((x0.toInt64) * (x0.toInt64))) + ((x1.toInt64) * (x1.toInt64))))), .second, .val (.ref a1), .val (.int (2 : Int32)), .val (.int ((1 : Int32) + (1 : Int32))), .val (.double (FP.i2d x1)), .second] [])) _
    show Steps p.tables e below (s₁.setTop (mkF m 35 #[.val (.ref a1), .val (.double (FP.l2d (((0 : Int64) + ((x0.toInt64) * (x0.toInt64))) + ((x1.toInt64) * (x1.toInt64))))), .second, .val (.ref a1), .val (.int (2 : Int32)), .val (.int (2 : Int32)), .val (.double (FP.i2d x1)), .second] [])) _
    refine XS.goto X0.here hx rfl (pc0 := 35) (pc' := 11) rfl (hb hby d1_35) (by decide) (by decide) ?_
    show Steps p.tables e below (s₁.setTop (mkF m 11 #[.val (.ref a1), .val (.double (FP.l2d (((0 : Int64) + ((x0.toInt64) * (x0.toInt64))) + ((x1.toInt64) * (x1.toInt64))))), .second, .val (.ref a1), .val (.int (2 : Int32)), .val (.int (2 : Int32)), .val (.double (FP.i2d x1)), .second] [])) _
    refine XS.iload X0.here hx rfl (hb hby d1_11) rfl ?_
    show Steps p.tables e below (s₁.setTop (mkF m 13 #[.val (.ref a1), .val (.double (FP.l2d (((0 : Int64) + ((x0.toInt64) * (x0.toInt64))) + ((x1.toInt64) * (x1.toInt64))))), .second, .val (.ref a1), .val (.int (2 : Int32)), .val (.int (2 : Int32)), .val (.double (FP.i2d x1)), .second] [(.int (2 : Int32))])) _
    refine XS.iload X0.here hx rfl (hb hby d1_13) rfl ?_
    show Steps p.tables e below (s₁.setTop (mkF m 15 #[.val (.ref a1), .val (.double (FP.l2d (((0 : Int64) + ((x0.toInt64) * (x0.toInt64))) + ((x1.toInt64) * (x1.toInt64))))), .second, .val (.ref a1), .val (.int (2 : Int32)), .val (.int (2 : Int32)), .val (.double (FP.i2d x1)), .second] [(.int (2 : Int32)), (.int (2 : Int32))])) _
    refine XS.icmpYes X0.here hx rfl (pc0 := 15) (pc' := 38) rfl (hb hby d1_15) rfl (flt (by decide : ¬ ((2 : Int32) < (2 : Int32)))).2.1 (by decide) (by decide) ?_
    show Steps p.tables e below (s₁.setTop (mkF m 38 #[.val (.ref a1), .val (.double (FP.l2d (((0 : Int64) + ((x0.toInt64) * (x0.toInt64))) + ((x1.toInt64) * (x1.toInt64))))), .second, .val (.ref a1), .val (.int (2 : Int32)), .val (.int (2 : Int32)), .val (.double (FP.i2d x1)), .second] [])) _
    refine XS.dloadN X0.here hx rfl (hb hby d1_38) rfl ?_
    exact kt
  obtain ⟨fs, hr, hrun, hended, hW, hsame⟩ := X0.leave (v := (some (.double (FP.l2d (((0 : Int64) + ((x0.toInt64) * (x0.toInt64))) + ((x1.toInt64) * (x1.toInt64))))))) (fun h => by rw [Bd.returns] at h; cases h)
  refine ⟨_, _, pre7 _ ?_, hrun, hended, _, _, rfl, ?_, ⟨_, rfl⟩, hW, hsame.mono (by decide) (by decide)⟩
  · show Steps p.tables e below (s₁.setTop (mkF m 39 #[.val (.ref a1), .val (.double (FP.l2d (((0 : Int64) + ((x0.toInt64) * (x0.toInt64))) + ((x1.toInt64) * (x1.toInt64))))), .second, .val (.ref a1), .val (.int (2 : Int32)), .val (.int (2 : Int32)), .val (.double (FP.i2d x1)), .second] [(.double (FP.l2d (((0 : Int64) + ((x0.toInt64) * (x0.toInt64))) + ((x1.toInt64) * (x1.toInt64)))))])) _
    exact retOut X0 hx (t := .double) Bd.returns rfl (Or.inr (Or.inr (Or.inl ⟨rfl, rfl, _, rfl⟩))) (hb hby d1_39) hr
  · show Q1m2 Z a1 k1 x0 x1 h0 n0 _ s₁.heap _
    rw [e0]
    exact ⟨rfl, N0, rfl⟩
theorem ef_1m3 (m : MethodId) (a1 : Addr) : entryFrame m #[(.ref a1)] 8 = (mkF m 0 #[.val (.ref a1), .unset, .unset, .unset, .unset, .unset, .unset, .unset] []) := by first | (simp [entryFrame, mkF, argsToLocals, Value.category]; done) | rfl
def Q1m3 (Z : State) (a1 : Addr) (k1 : ClassId) (x0 : Int32) (x1 : Int32) (x2 : Int32) (h0 : Heap) (n0 : Nat) (v : Option Value) (h : Heap) (L : List Loc) : Prop := v = some (.double (FP.l2d ((((0 : Int64) + ((x0.toInt64) * (x0.toInt64))) + ((x1.toInt64) * (x1.toInt64))) + ((x2.toInt64) * (x2.toInt64))))) ∧ Fr n0 L ∧ h = h0
set_option maxRecDepth 65536 in
set_option maxHeartbeats 40000000 in
theorem rm1m3 (l : Launch) (Z : State) (a0 : Array Value) (hw : ∀ d ∈ tables_1, d.before a0 Z = true) (ws : List Jvm.Cond) (a1 : Addr) (k1 : ClassId) (x0 : Int32) (x1 : Int32) (x2 : Int32) (h0 : Heap) (n0 : Nat) (Z0 : n0 ≤ h0.size) (V1 : Arv Z h0 a1 k1 .double (3 : Int32) [(.double (FP.i2d x0)), (.double (FP.i2d x1)), (.double (FP.i2d x2))] (.double 0)) (s0 : own_sm x0) (s1 : own_sm x1) (s2 : own_sm x2) :
    MetFree l (⟨"com/example/vidura/vidura/stats/Values", "sumOfSquares", "([D)D"⟩ : MethodName) (head1 (Jvm.Cond.code (⟨"com/example/vidura/vidura/stats/Values", "sumOfSquares", "([D)D"⟩ : MethodName) prog_125_method_5_code 8 (some .double) :: ws) ({ frames := 0, cells := 0, slots := 0, locals := 0 } : Room)) (fun a U => a = #[(.ref a1)] ∧ Z.Warmed39 U.vm ∧ U.heap = h0) (fun _ _ _ _ _ => True) (fun _ U o U' => ∃ v L, o = .returned v ∧ Q1m3 Z a1 k1 x0 x1 x2 h0 n0 v U'.heap L ∧ FrameEnd U o U' L ({ frames := 0, cells := 0, slots := 0, locals := 0 } : Room).cells ({ frames := 0, cells := 0, slots := 0, locals := 0 } : Room).slots) := by
  refine MetFree.of_bodySF (plainFor_of_name pn_0) hisR ?_
  intro p e s m args below meth c s₁ Bd hml0 hP hK
  obtain ⟨rfl, hZ, hh⟩ := hP
  have hx := Bd.exec
  have hby := Bd.bytes
  have hml : c.maxLocals = 8 := hml0
  have hown : s.vm.findClass "com/example/vidura/vidura/stats/Values" = some m.cls := findClass_of_methodNamed Bd.named
  have hnm := (name_of_methodNamed Bd.named Bd.method).1
  have X0 : Stand p l e ({ frames := 0, cells := 0, slots := 0, locals := 0 } : Room) s m #[(.ref a1)] below meth c s₁ [] 0 0 := Stand.of_body Bd
  have e0 : s₁.heap = h0 := by rw [← hh, Bd.state]; rfl
  have N0 := Fr.nil n0
  have pre0 : ∀ t, Steps p.tables e below (s₁.setTop (mkF m 0 #[.val (.ref a1), .unset, .unset, .unset, .unset, .unset, .unset, .unset] [])) t → Steps p.tables e below (s₁.setTop (entryFrame m #[(.ref a1)] 8)) t := fun t k => castTop (ef_1m3 m a1) k
  have u0 := own_add own_le0 (by decide) s0
  have u1 := own_add u0.1 (by decide) s1
  have u2 := own_add u1.1 (by decide) s2
  have pre1 : ∀ t, Steps p.tables e below (s₁.setTop (mkF m 5 #[.val (.ref a1), .val (.double (FP.l2d (0 : Int64))), .second, .val (.ref a1), .unset, .unset, .unset, .unset] [(.ref a1)])) t → Steps p.tables e below (s₁.setTop (entryFrame m #[(.ref a1)] 8)) t := fun t kt => by
    refine pre0 _ ?_
    show Steps p.tables e below (s₁.setTop (mkF m 0 #[.val (.ref a1), .unset, .unset, .unset, .unset, .unset, .unset, .unset] [])) _
    refine XS.dconst0 X0.here hx rfl (hb hby d1_0) own_z ?_
    show Steps p.tables e below (s₁.setTop (mkF m 1 #[.val (.ref a1), .unset, .unset, .unset, .unset, .unset, .unset, .unset] [(.double (FP.l2d (0 : Int64)))])) _
    refine XS.dstoreN X0.here hx rfl (hb hby d1_1) rfl (l' := #[.val (.ref a1), .val (.double (FP.l2d (0 : Int64))), .second, .unset, .unset, .unset, .unset, .unset]) rfl ?_
    show Steps p.tables e below (s₁.setTop (mkF m 2 #[.val (.ref a1), .val (.double (FP.l2d (0 : Int64))), .second, .unset, .unset, .unset, .unset, .unset] [])) _
    refine XS.aloadN X0.here hx rfl (hb hby d1_2) rfl rfl ?_
    show Steps p.tables e below (s₁.setTop (mkF m 3 #[.val (.ref a1), .val (.double (FP.l2d (0 : Int64))), .second, .unset, .unset, .unset, .unset, .unset] [(.ref a1)])) _
    refine XS.astoreN X0.here hx rfl (hb hby d1_3) rfl rfl (l' := #[.val (.ref a1), .val (.double (FP.l2d (0 : Int64))), .second, .val (.ref a1), .unset, .unset, .unset, .unset]) rfl ?_
    show Steps p.tables e below (s₁.setTop (mkF m 4 #[.val (.ref a1), .val (.double (FP.l2d (0 : Int64))), .second, .val (.ref a1), .unset, .unset, .unset, .unset] [])) _
    refine XS.aloadN X0.here hx rfl (hb hby d1_4) rfl rfl ?_
    exact kt
  obtain ⟨cl2, Ar2, qk2, Sz2, Nn2, Hh2, Gg2⟩ := id V1
  have pre3 : ∀ t, Steps p.tables e below (s₁.setTop (mkF m 21 #[.val (.ref a1), .val (.double (FP.l2d (0 : Int64))), .second, .val (.ref a1), .val (.int (3 : Int32)), .val (.int (0 : Int32)), .unset, .unset] [(.int (0 : Int32)), (.ref a1)])) t → Steps p.tables e below (s₁.setTop (entryFrame m #[(.ref a1)] 8)) t := fun t kt => by
    refine pre1 _ ?_
    show Steps p.tables e below (s₁.setTop (mkF m 5 #[.val (.ref a1), .val (.double (FP.l2d (0 : Int64))), .second, .val (.ref a1), .unset, .unset, .unset, .unset] [(.ref a1)])) _
    refine X0.arraylength hx (by rw [e0]; exact Ar2.1) (State.isArrayOf_alike hZ.alike Ar2.2.1) (g := (mkF m 5 #[.val (.ref a1), .val (.double (FP.l2d (0 : Int64))), .second, .val (.ref a1), .unset, .unset, .unset, .unset] [(.ref a1)])) rfl rfl (hb hby d1_5) _ ?_
    rw [len_of Sz2 Nn2]
    show Steps p.tables e below (s₁.setTop (mkF m 6 #[.val (.ref a1), .val (.double (FP.l2d (0 : Int64))), .second, .val (.ref a1), .unset, .unset, .unset, .unset] [(.int (3 : Int32))])) _
    refine XS.istore X0.here hx rfl (hb hby d1_6) rfl (l' := #[.val (.ref a1), .val (.double (FP.l2d (0 : Int64))), .second, .val (.ref a1), .val (.int (3 : Int32)), .unset, .unset, .unset]) rfl ?_
    show Steps p.tables e below (s₁.setTop (mkF m 8 #[.val (.ref a1), .val (.double (FP.l2d (0 : Int64))), .second, .val (.ref a1), .val (.int (3 : Int32)), .unset, .unset, .unset] [])) _
    refine XS.iconst X0.here hx rfl (hb hby d1_8) ?_
    show Steps p.tables e below (s₁.setTop (mkF m 9 #[.val (.ref a1), .val (.double (FP.l2d (0 : Int64))), .second, .val (.ref a1), .val (.int (3 : Int32)), .unset, .unset, .unset] [(.int (0 : Int32))])) _
    refine XS.istore X0.here hx rfl (hb hby d1_9) rfl (l' := #[.val (.ref a1), .val (.double (FP.l2d (0 : Int64))), .second, .val (.ref a1), .val (.int (3 : Int32)), .val (.int (0 : Int32)), .unset, .unset]) rfl ?_
    show Steps p.tables e below (s₁.setTop (mkF m 11 #[.val (.ref a1), .val (.double (FP.l2d (0 : Int64))), .second, .val (.ref a1), .val (.int (3 : Int32)), .val (.int (0 : Int32)), .unset, .unset] [])) _
    refine XS.iload X0.here hx rfl (hb hby d1_11) rfl ?_
    show Steps p.tables e below (s₁.setTop (mkF m 13 #[.val (.ref a1), .val (.double (FP.l2d (0 : Int64))), .second, .val (.ref a1), .val (.int (3 : Int32)), .val (.int (0 : Int32)), .unset, .unset] [(.int (0 : Int32))])) _
    refine XS.iload X0.here hx rfl (hb hby d1_13) rfl ?_
    show Steps p.tables e below (s₁.setTop (mkF m 15 #[.val (.ref a1), .val (.double (FP.l2d (0 : Int64))), .second, .val (.ref a1), .val (.int (3 : Int32)), .val (.int (0 : Int32)), .unset, .unset] [(.int (3 : Int32)), (.int (0 : Int32))])) _
    refine XS.icmpNo X0.here hx rfl (hb hby d1_15) rfl (tlt (by decide : (0 : Int32) < (3 : Int32))).2.1 ?_
    show Steps p.tables e below (s₁.setTop (mkF m 18 #[.val (.ref a1), .val (.double (FP.l2d (0 : Int64))), .second, .val (.ref a1), .val (.int (3 : Int32)), .val (.int (0 : Int32)), .unset, .unset] [])) _
    refine XS.aloadN X0.here hx rfl (hb hby d1_18) rfl rfl ?_
    show Steps p.tables e below (s₁.setTop (mkF m 19 #[.val (.ref a1), .val (.double (FP.l2d (0 : Int64))), .second, .val (.ref a1), .val (.int (3 : Int32)), .val (.int (0 : Int32)), .unset, .unset] [(.ref a1)])) _
    refine XS.iload X0.here hx rfl (hb hby d1_19) rfl ?_
    exact kt
  obtain ⟨cl4, Ar4, qk4, Sz4, Nn4, Hh4, Gg4⟩ := id V1
  have hin4 : ¬ ((0 : Int32) < 0 ∨ cl4.slots.size ≤ ((0 : Int32)).toNatClampNeg) := inb_of Sz4 ⟨by decide, by decide⟩
  have hat4 : cl4.slots[((0 : Int32)).toNatClampNeg]? = some (.double (FP.i2d x0)) := Hh4.at hin4 rfl
  have pre5 : ∀ t, Steps p.tables e below (s₁.setTop (mkF m 21 #[.val (.ref a1), .val (.double (FP.l2d ((0 : Int64) + ((x0.toInt64) * (x0.toInt64))))), .second, .val (.ref a1), .val (.int (3 : Int32)), .val (.int (1 : Int32)), .val (.double (FP.i2d x0)), .second] [(.int (1 : Int32)), (.ref a1)])) t → Steps p.tables e below (s₁.setTop (entryFrame m #[(.ref a1)] 8)) t := fun t kt => by
    refine pre3 _ ?_
    show Steps p.tables e below (s₁.setTop (mkF m 21 #[.val (.ref a1), .val (.double (FP.l2d (0 : Int64))), .second, .val (.ref a1), .val (.int (3 : Int32)), .val (.int (0 : Int32)), .unset, .unset] [(.int (0 : Int32)), (.ref a1)])) _
    refine X0.daload hx (j := (0 : Int32)) (v := (.double (FP.i2d x0))) (by rw [e0]; exact Ar4.1) (State.isArrayOf_alike hZ.alike Ar4.2.1) Ar4.2.2 hin4 hat4 (g := (mkF m 21 #[.val (.ref a1), .val (.double (FP.l2d (0 : Int64))), .second, .val (.ref a1), .val (.int (3 : Int32)), .val (.int (0 : Int32)), .unset, .unset] [(.int (0 : Int32)), (.ref a1)])) rfl rfl (hb hby d1_21) _ ?_
    show Steps p.tables e below (s₁.setTop (mkF m 22 #[.val (.ref a1), .val (.double (FP.l2d (0 : Int64))), .second, .val (.ref a1), .val (.int (3 : Int32)), .val (.int (0 : Int32)), .unset, .unset] [(.double (FP.i2d x0))])) _
    refine XS.dstore X0.here hx rfl (hb hby d1_22) rfl (l' := #[.val (.ref a1), .val (.double (FP.l2d (0 : Int64))), .second, .val (.ref a1), .val (.int (3 : Int32)), .val (.int (0 : Int32)), .val (.double (FP.i2d x0)), .second]) rfl ?_
    show Steps p.tables e below (s₁.setTop (mkF m 24 #[.val (.ref a1), .val (.double (FP.l2d (0 : Int64))), .second, .val (.ref a1), .val (.int (3 : Int32)), .val (.int (0 : Int32)), .val (.double (FP.i2d x0)), .second] [])) _
    refine XS.dloadN X0.here hx rfl (hb hby d1_24) rfl ?_
    show Steps p.tables e below (s₁.setTop (mkF m 25 #[.val (.ref a1), .val (.double (FP.l2d (0 : Int64))), .second, .val (.ref a1), .val (.int (3 : Int32)), .val (.int (0 : Int32)), .val (.double (FP.i2d x0)), .second] [(.double (FP.l2d (0 : Int64)))])) _
    refine XS.dload X0.here hx rfl (hb hby d1_25) rfl ?_
    show Steps p.tables e below (s₁.setTop (mkF m 27 #[.val (.ref a1), .val (.double (FP.l2d (0 : Int64))), .second, .val (.ref a1), .val (.int (3 : Int32)), .val (.int (0 : Int32)), .val (.double (FP.i2d x0)), .second] [(.double (FP.i2d x0)), (.double (FP.l2d (0 : Int64)))])) _
    refine XS.dload X0.here hx rfl (hb hby d1_27) rfl ?_
    show Steps p.tables e below (s₁.setTop (mkF m 29 #[.val (.ref a1), .val (.double (FP.l2d (0 : Int64))), .second, .val (.ref a1), .val (.int (3 : Int32)), .val (.int (0 : Int32)), .val (.double (FP.i2d x0)), .second] [(.double (FP.i2d x0)), (.double (FP.i2d x0)), (.double (FP.l2d (0 : Int64)))])) _
    refine XS.dmulS X0.here hx rfl (hb hby d1_29) rfl (nn_w (own_sq s0)) (own_sq s0) ?_
    show Steps p.tables e below (s₁.setTop (mkF m 30 #[.val (.ref a1), .val (.double (FP.l2d (0 : Int64))), .second, .val (.ref a1), .val (.int (3 : Int32)), .val (.int (0 : Int32)), .val (.double (FP.i2d x0)), .second] [(.double (FP.l2d ((x0.toInt64) * (x0.toInt64)))), (.double (FP.l2d (0 : Int64)))])) _
    refine XS.daddS X0.here hx rfl (hb hby d1_30) rfl (nn_w u0.2) u0.2 ?_
    show Steps p.tables e below (s₁.setTop (mkF m 31 #[.val (.ref a1), .val (.double (FP.l2d (0 : Int64))), .second, .val (.ref a1), .val (.int (3 : Int32)), .val (.int (0 : Int32)), .val (.double (FP.i2d x0)), .second] [(.double (FP.l2d ((0 : Int64) + ((x0.toInt64) * (x0.toInt64)))))])) _
    refine XS.dstoreN X0.here hx rfl (hb hby d1_31) rfl (l' := #[.val (.ref a1), .val (.double (FP.l2d ((0 : Int64) + ((x0.toInt64) * (x0.toInt64))))), .second, .val (.ref a1), .val (.int (3 : Int32)), .val (.int (0 : Int32)), .val (.double (FP.i2d x0)), .second]) rfl ?_
    show Steps p.tables e below (s₁.setTop (mkF m 32 #[.val (.ref a1), .val (.double (FP.l2d ((0 : Int64) + ((x0.toInt64) * (x0.toInt64))))), .second, .val (.ref a1), .val (.int (3 : Int32)), .val (.int (0 : Int32)), .val (.double (FP.i2d x0)), .second] [])) _
    refine XS.iinc X0.here hx rfl (hb hby d1_32) rfl (l' := #[.val (.ref a1), .val (.double (FP.l2d ((0 : Int64) + ((x0.toInt64) * (x0.toInt64))))), .second, .val (.ref a1), .val (.int (3 : Int32)), .val (.int ((0 : Int32) + (1 : Int32))), .val (.double (FP.i2d x0)), .second]) rfl ?_
    show Steps p.tables e below (s₁.setTop (mkF m 35 #[.val (.ref a1), .val (.double (FP.l2d ((0 : Int64) + ((x0.toInt64) * (x0.toInt64))))), .second, .val (.ref a1), .val (.int (3 : Int32)), .val (.int ((0 : Int32) + (1 : Int32))), .val (.double (FP.i2d x0)), .second] [])) _
    show Steps p.tables e below (s₁.setTop (mkF m 35 #[.val (.ref a1), .val (.double (FP.l2d ((0 : Int64) + ((x0.toInt64) * (x0.toInt64))))), .second, .val (.ref a1), .val (.int (3 : Int32)), .val (.int (1 : Int32)), .val (.double (FP.i2d x0)), .second] [])) _
    refine XS.goto X0.here hx rfl (pc0 := 35) (pc' := 11) rfl (hb hby d1_35) (by decide) (by decide) ?_
    show Steps p.tables e below (s₁.setTop (mkF m 11 #[.val (.ref a1), .val (.double (FP.l2d ((0 : Int64) + ((x0.toInt64) * (x0.toInt64))))), .second, .val (.ref a1), .val (.int (3 : Int32)), .val (.int (1 : Int32)), .val (.double (FP.i2d x0)), .second] [])) _
    refine XS.iload X0.here hx rfl (hb hby d1_11) rfl ?_
    show Steps p.tables e below (s₁.setTop (mkF m 13 #[.val (.ref a1), .val (.double (FP.l2d ((0 : Int64) + ((x0.toInt64) * (x0.toInt64))))), .second, .val (.ref a1), .val (.int (3 : Int32)), .val (.int (1 : Int32)), .val (.double (FP.i2d x0)), .second] [(.int (1 : Int32))])) _
    refine XS.iload X0.here hx rfl (hb hby d1_13) rfl ?_
    show Steps p.tables e below (s₁.setTop (mkF m 15 #[.val (.ref a1), .val (.double (FP.l2d ((0 : Int64) + ((x0.toInt64) * (x0.toInt64))))), .second, .val (.ref a1), .val (.int (3 : Int32)), .val (.int (1 : Int32)), .val (.double (FP.i2d x0)), .second] [(.int (3 : Int32)), (.int (1 : Int32))])) _
    refine XS.icmpNo X0.here hx rfl (hb hby d1_15) rfl (tlt (by decide : (1 : Int32) < (3 : Int32))).2.1 ?_
    show Steps p.tables e below (s₁.setTop (mkF m 18 #[.val (.ref a1), .val (.double (FP.l2d ((0 : Int64) + ((x0.toInt64) * (x0.toInt64))))), .second, .val (.ref a1), .val (.int (3 : Int32)), .val (.int (1 : Int32)), .val (.double (FP.i2d x0)), .second] [])) _
    refine XS.aloadN X0.here hx rfl (hb hby d1_18) rfl rfl ?_
    show Steps p.tables e below (s₁.setTop (mkF m 19 #[.val (.ref a1), .val (.double (FP.l2d ((0 : Int64) + ((x0.toInt64) * (x0.toInt64))))), .second, .val (.ref a1), .val (.int (3 : Int32)), .val (.int (1 : Int32)), .val (.double (FP.i2d x0)), .second] [(.ref a1)])) _
    refine XS.iload X0.here hx rfl (hb hby d1_19) rfl ?_
    exact kt
  obtain ⟨cl6, Ar6, qk6, Sz6, Nn6, Hh6, Gg6⟩ := id V1
  have hin6 : ¬ ((1 : Int32) < 0 ∨ cl6.slots.size ≤ ((1 : Int32)).toNatClampNeg) := inb_of Sz6 ⟨by decide, by decide⟩
  have hat6 : cl6.slots[((1 : Int32)).toNatClampNeg]? = some (.double (FP.i2d x1)) := Hh6.at hin6 rfl
  have pre7 : ∀ t, Steps p.tables e below (s₁.setTop (mkF m 21 #[.val (.ref a1), .val (.double (FP.l2d (((0 : Int64) + ((x0.toInt64) * (x0.toInt64))) + ((x1.toInt64) * (x1.toInt64))))), .second, .val (.ref a1), .val (.int (3 : Int32)), .val (.int (2 : Int32)), .val (.double (FP.i2d x1)), .second] [(.int (2 : Int32)), (.ref a1)])) t → Steps p.tables e below (s₁.setTop (entryFrame m #[(.ref a1)] 8)) t := fun t kt => by
    refine pre5 _ ?_
    show Steps p.tables e below (s₁.setTop (mkF m 21 #[.val (.ref a1), .val (.double (FP.l2d ((0 : Int64) + ((x0.toInt64) * (x0.toInt64))))), .second, .val (.ref a1), .val (.int (3 : Int32)), .val (.int (1 : Int32)), .val (.double (FP.i2d x0)), .second] [(.int (1 : Int32)), (.ref a1)])) _
    refine X0.daload hx (j := (1 : Int32)) (v := (.double (FP.i2d x1))) (by rw [e0]; exact Ar6.1) (State.isArrayOf_alike hZ.alike Ar6.2.1) Ar6.2.2 hin6 hat6 (g := (mkF m 21 #[.val (.ref a1), .val (.double (FP.l2d ((0 : Int64) + ((x0.toInt64) * (x0.toInt64))))), .second, .val (.ref a1), .val (.int (3 : Int32)), .val (.int (1 : Int32)), .val (.double (FP.i2d x0)), .second] [(.int (1 : Int32)), (.ref a1)])) rfl rfl (hb hby d1_21) _ ?_
    show Steps p.tables e below (s₁.setTop (mkF m 22 #[.val (.ref a1), .val (.double (FP.l2d ((0 : Int64) + ((x0.toInt64) * (x0.toInt64))))), .second, .val (.ref a1), .val (.int (3 : Int32)), .val (.int (1 : Int32)), .val (.double (FP.i2d x0)), .second] [(.double (FP.i2d x1))])) _
    refine XS.dstore X0.here hx rfl (hb hby d1_22) rfl (l' := #[.val (.ref a1), .val (.double (FP.l2d ((0 : Int64) + ((x0.toInt64) * (x0.toInt64))))), .second, .val (.ref a1), .val (.int (3 : Int32)), .val (.int (1 : Int32)), .val (.double (FP.i2d x1)), .second]) rfl ?_
    show Steps p.tables e below (s₁.setTop (mkF m 24 #[.val (.ref a1), .val (.double (FP.l2d ((0 : Int64) + ((x0.toInt64) * (x0.toInt64))))), .second, .val (.ref a1), .val (.int (3 : Int32)), .val (.int (1 : Int32)), .val (.double (FP.i2d x1)), .second] [])) _
    refine XS.dloadN X0.here hx rfl (hb hby d1_24) rfl ?_
    show Steps p.tables e below (s₁.setTop (mkF m 25 #[.val (.ref a1), .val (.double (FP.l2d ((0 : Int64) + ((x0.toInt64) * (x0.toInt64))))), .second, .val (.ref a1), .val (.int (3 : Int32)), .val (.int (1 : Int32)), .val (.double (FP.i2d x1)), .second] [(.double (FP.l2d ((0 : Int64) + ((x0.toInt64) * (x0.toInt64)))))])) _
    refine XS.dload X0.here hx rfl (hb hby d1_25) rfl ?_
    show Steps p.tables e below (s₁.setTop (mkF m 27 #[.val (.ref a1), .val (.double (FP.l2d ((0 : Int64) + ((x0.toInt64) * (x0.toInt64))))), .second, .val (.ref a1), .val (.int (3 : Int32)), .val (.int (1 : Int32)), .val (.double (FP.i2d x1)), .second] [(.double (FP.i2d x1)), (.double (FP.l2d ((0 : Int64) + ((x0.toInt64) * (x0.toInt64)))))])) _
    refine XS.dload X0.here hx rfl (hb hby d1_27) rfl ?_
    show Steps p.tables e below (s₁.setTop (mkF m 29 #[.val (.ref a1), .val (.double (FP.l2d ((0 : Int64) + ((x0.toInt64) * (x0.toInt64))))), .second, .val (.ref a1), .val (.int (3 : Int32)), .val (.int (1 : Int32)), .val (.double (FP.i2d x1)), .second] [(.double (FP.i2d x1)), (.double (FP.i2d x1)), (.double (FP.l2d ((0 : Int64) + ((x0.toInt64) * (x0.toInt64)))))])) _
    refine XS.dmulS X0.here hx rfl (hb hby d1_29) rfl (nn_w (own_sq s1)) (own_sq s1) ?_
    show Steps p.tables e below (s₁.setTop (mkF m 30 #[.val (.ref a1), .val (.double (FP.l2d ((0 : Int64) + ((x0.toInt64) * (x0.toInt64))))), .second, .val (.ref a1), .val (.int (3 : Int32)), .val (.int (1 : Int32)), .val (.double (FP.i2d x1)), .second] [(.double (FP.l2d ((x1.toInt64) * (x1.toInt64)))), (.double (FP.l2d ((0 : Int64) + ((x0.toInt64) * (x0.toInt64)))))])) _
    refine XS.daddS X0.here hx rfl (hb hby d1_30) rfl (nn_w u1.2) u1.2 ?_
    show Steps p.tables e below (s₁.setTop (mkF m 31 #[.val (.ref a1), .val (.double (FP.l2d ((0 : Int64) + ((x0.toInt64) * (x0.toInt64))))), .second, .val (.ref a1), .val (.int (3 : Int32)), .val (.int (1 : Int32)), .val (.double (FP.i2d x1)), .second] [(.double (FP.l2d (((0 : Int64) + ((x0.toInt64) * (x0.toInt64))) + ((x1.toInt64) * (x1.toInt64)))))])) _
    refine XS.dstoreN X0.here hx rfl (hb hby d1_31) rfl (l' := #[.val (.ref a1), .val (.double (FP.l2d (((0 : Int64) + ((x0.toInt64) * (x0.toInt64))) + ((x1.toInt64) * (x1.toInt64))))), .second, .val (.ref a1), .val (.int (3 : Int32)), .val (.int (1 : Int32)), .val (.double (FP.i2d x1)), .second]) rfl ?_
    show Steps p.tables e below (s₁.setTop (mkF m 32 #[.val (.ref a1), .val (.double (FP.l2d (((0 : Int64) + ((x0.toInt64) * (x0.toInt64))) + ((x1.toInt64) * (x1.toInt64))))), .second, .val (.ref a1), .val (.int (3 : Int32)), .val (.int (1 : Int32)), .val (.double (FP.i2d x1)), .second] [])) _
    refine XS.iinc X0.here hx rfl (hb hby d1_32) rfl (l' := #[.val (.ref a1), .val (.double (FP.l2d (((0 : Int64) + ((x0.toInt64) * (x0.toInt64))) + ((x1.toInt64) * (x1.toInt64))))), .second, .val (.ref a1), .val (.int (3 : Int32)), .val (.int ((1 : Int32) + (1 : Int32))), .val (.double (FP.i2d x1)), .second]) rfl ?_
    show Steps p.tables e below (s₁.setTop (mkF m 35 #[.val (.ref a1), .val (.double (FP.l2d (((0 : Int64) + ((x0.toInt64) * (x0.toInt64))) + ((x1.toInt64) * (x1.toInt64))))), .second, .val (.ref a1), .val (.int (3 : Int32)), .val (.int ((1 : Int32) + (1 : Int32))), .val (.double (FP.i2d x1)), .second] [])) _
    show Steps p.tables e below (s₁.setTop (mkF m 35 #[.val (.ref a1), .val (.double (FP.l2d (((0 : Int64) + ((x0.toInt64) * (x0.toInt64))) + ((x1.toInt64) * (x1.toInt64))))), .second, .val (.ref a1), .val (.int (3 : Int32)), .val (.int (2 : Int32)), .val (.double (FP.i2d x1)), .second] [])) _
    refine XS.goto X0.here hx rfl (pc0 := 35) (pc' := 11) rfl (hb hby d1_35) (by decide) (by decide) ?_
    show Steps p.tables e below (s₁.setTop (mkF m 11 #[.val (.ref a1), .val (.double (FP.l2d (((0 : Int64) + ((x0.toInt64) * (x0.toInt64))) + ((x1.toInt64) * (x1.toInt64))))), .second, .val (.ref a1), .val (.int (3 : Int32)), .val (.int (2 : Int32)), .val (.double (FP.i2d x1)), .second] [])) _
    refine XS.iload X0.here hx rfl (hb hby d1_11) rfl ?_
    show Steps p.tables e below (s₁.setTop (mkF m 13 #[.val (.ref a1), .val (.double (FP.l2d (((0 : Int64) + ((x0.toInt64) * (x0.toInt64))) + ((x1.toInt64) * (x1.toInt64))))), .second, .val (.ref a1), .val (.int (3 : Int32)), .val (.int (2 : Int32)), .val (.double (FP.i2d x1)), .second] [(.int (2 : Int32))])) _
    refine XS.iload X0.here hx rfl (hb hby d1_13) rfl ?_
    show Steps p.tables e below (s₁.setTop (mkF m 15 #[.val (.ref a1), .val (.double (FP.l2d (((0 : Int64) + ((x0.toInt64) * (x0.toInt64))) + ((x1.toInt64) * (x1.toInt64))))), .second, .val (.ref a1), .val (.int (3 : Int32)), .val (.int (2 : Int32)), .val (.double (FP.i2d x1)), .second] [(.int (3 : Int32)), (.int (2 : Int32))])) _
    refine XS.icmpNo X0.here hx rfl (hb hby d1_15) rfl (tlt (by decide : (2 : Int32) < (3 : Int32))).2.1 ?_
    show Steps p.tables e below (s₁.setTop (mkF m 18 #[.val (.ref a1), .val (.double (FP.l2d (((0 : Int64) + ((x0.toInt64) * (x0.toInt64))) + ((x1.toInt64) * (x1.toInt64))))), .second, .val (.ref a1), .val (.int (3 : Int32)), .val (.int (2 : Int32)), .val (.double (FP.i2d x1)), .second] [])) _
    refine XS.aloadN X0.here hx rfl (hb hby d1_18) rfl rfl ?_
    show Steps p.tables e below (s₁.setTop (mkF m 19 #[.val (.ref a1), .val (.double (FP.l2d (((0 : Int64) + ((x0.toInt64) * (x0.toInt64))) + ((x1.toInt64) * (x1.toInt64))))), .second, .val (.ref a1), .val (.int (3 : Int32)), .val (.int (2 : Int32)), .val (.double (FP.i2d x1)), .second] [(.ref a1)])) _
    refine XS.iload X0.here hx rfl (hb hby d1_19) rfl ?_
    exact kt
  obtain ⟨cl8, Ar8, qk8, Sz8, Nn8, Hh8, Gg8⟩ := id V1
  have hin8 : ¬ ((2 : Int32) < 0 ∨ cl8.slots.size ≤ ((2 : Int32)).toNatClampNeg) := inb_of Sz8 ⟨by decide, by decide⟩
  have hat8 : cl8.slots[((2 : Int32)).toNatClampNeg]? = some (.double (FP.i2d x2)) := Hh8.at hin8 rfl
  have pre9 : ∀ t, Steps p.tables e below (s₁.setTop (mkF m 39 #[.val (.ref a1), .val (.double (FP.l2d ((((0 : Int64) + ((x0.toInt64) * (x0.toInt64))) + ((x1.toInt64) * (x1.toInt64))) + ((x2.toInt64) * (x2.toInt64))))), .second, .val (.ref a1), .val (.int (3 : Int32)), .val (.int (3 : Int32)), .val (.double (FP.i2d x2)), .second] [(.double (FP.l2d ((((0 : Int64) + ((x0.toInt64) * (x0.toInt64))) + ((x1.toInt64) * (x1.toInt64))) + ((x2.toInt64) * (x2.toInt64)))))])) t → Steps p.tables e below (s₁.setTop (entryFrame m #[(.ref a1)] 8)) t := fun t kt => by
    refine pre7 _ ?_
    show Steps p.tables e below (s₁.setTop (mkF m 21 #[.val (.ref a1), .val (.double (FP.l2d (((0 : Int64) + ((x0.toInt64) * (x0.toInt64))) + ((x1.toInt64) * (x1.toInt64))))), .second, .val (.ref a1), .val (.int (3 : Int32)), .val (.int (2 : Int32)), .val (.double (FP.i2d x1)), .second] [(.int (2 : Int32)), (.ref a1)])) _
    refine X0.daload hx (j := (2 : Int32)) (v := (.double (FP.i2d x2))) (by rw [e0]; exact Ar8.1) (State.isArrayOf_alike hZ.alike Ar8.2.1) Ar8.2.2 hin8 hat8 (g := (mkF m 21 #[.val (.ref a1), .val (.double (FP.l2d (((0 : Int64) + ((x0.toInt64) * (x0.toInt64))) + ((x1.toInt64) * (x1.toInt64))))), .second, .val (.ref a1), .val (.int (3 : Int32)), .val (.int (2 : Int32)), .val (.double (FP.i2d x1)), .second] [(.int (2 : Int32)), (.ref a1)])) rfl rfl (hb hby d1_21) _ ?_
    show Steps p.tables e below (s₁.setTop (mkF m 22 #[.val (.ref a1), .val (.double (FP.l2d (((0 : Int64) + ((x0.toInt64) * (x0.toInt64))) + ((x1.toInt64) * (x1.toInt64))))), .second, .val (.ref a1), .val (.int (3 : Int32)), .val (.int (2 : Int32)), .val (.double (FP.i2d x1)), .second] [(.double (FP.i2d x2))])) _
    refine XS.dstore X0.here hx rfl (hb hby d1_22) rfl (l' := #[.val (.ref a1), .val (.double (FP.l2d (((0 : Int64) + ((x0.toInt64) * (x0.toInt64))) + ((x1.toInt64) * (x1.toInt64))))), .second, .val (.ref a1), .val (.int (3 : Int32)), .val (.int (2 : Int32)), .val (.double (FP.i2d x2)), .second]) rfl ?_
    show Steps p.tables e below (s₁.setTop (mkF m 24 #[.val (.ref a1), .val (.double (FP.l2d (((0 : Int64) + ((x0.toInt64) * (x0.toInt64))) + ((x1.toInt64) * (x1.toInt64))))), .second, .val (.ref a1), .val (.int (3 : Int32)), .val (.int (2 : Int32)), .val (.double (FP.i2d x2)), .second] [])) _
    refine XS.dloadN X0.here hx rfl (hb hby d1_24) rfl ?_
    show Steps p.tables e below (s₁.setTop (mkF m 25 #[.val (.ref a1), .val (.double (FP.l2d (((0 : Int64) + ((x0.toInt64) * (x0.toInt64))) + ((x1.toInt64) * (x1.toInt64))))), .second, .val (.ref a1), .val (.int (3 : Int32)), .val (.int (2 : Int32)), .val (.double (FP.i2d x2)), .second] [(.double (FP.l2d (((0 : Int64) + ((x0.toInt64) * (x0.toInt64))) + ((x1.toInt64) * (x1.toInt64)))))])) _
    refine XS.dload X0.here hx rfl (hb hby d1_25) rfl ?_
    show Steps p.tables e below (s₁.setTop (mkF m 27 #[.val (.ref a1), .val (.double (FP.l2d (((0 : Int64) + ((x0.toInt64) * (x0.toInt64))) + ((x1.toInt64) * (x1.toInt64))))), .second, .val (.ref a1), .val (.int (3 : Int32)), .val (.int (2 : Int32)), .val (.double (FP.i2d x2)), .second] [(.double (FP.i2d x2)), (.double (FP.l2d (((0 : Int64) + ((x0.toInt64) * (x0.toInt64))) + ((x1.toInt64) * (x1.toInt64)))))])) _
    refine XS.dload X0.here hx rfl (hb hby d1_27) rfl ?_
    show Steps p.tables e below (s₁.setTop (mkF m 29 #[.val (.ref a1), .val (.double (FP.l2d (((0 : Int64) + ((x0.toInt64) * (x0.toInt64))) + ((x1.toInt64) * (x1.toInt64))))), .second, .val (.ref a1), .val (.int (3 : Int32)), .val (.int (2 : Int32)), .val (.double (FP.i2d x2)), .second] [(.double (FP.i2d x2)), (.double (FP.i2d x2)), (.double (FP.l2d (((0 : Int64) + ((x0.toInt64) * (x0.toInt64))) + ((x1.toInt64) * (x1.toInt64)))))])) _
    refine XS.dmulS X0.here hx rfl (hb hby d1_29) rfl (nn_w (own_sq s2)) (own_sq s2) ?_
    show Steps p.tables e below (s₁.setTop (mkF m 30 #[.val (.ref a1), .val (.double (FP.l2d (((0 : Int64) + ((x0.toInt64) * (x0.toInt64))) + ((x1.toInt64) * (x1.toInt64))))), .second, .val (.ref a1), .val (.int (3 : Int32)), .val (.int (2 : Int32)), .val (.double (FP.i2d x2)), .second] [(.double (FP.l2d ((x2.toInt64) * (x2.toInt64)))), (.double (FP.l2d (((0 : Int64) + ((x0.toInt64) * (x0.toInt64))) + ((x1.toInt64) * (x1.toInt64)))))])) _
    refine XS.daddS X0.here hx rfl (hb hby d1_30) rfl (nn_w u2.2) u2.2 ?_
    show Steps p.tables e below (s₁.setTop (mkF m 31 #[.val (.ref a1), .val (.double (FP.l2d (((0 : Int64) + ((x0.toInt64) * (x0.toInt64))) + ((x1.toInt64) * (x1.toInt64))))), .second, .val (.ref a1), .val (.int (3 : Int32)), .val (.int (2 : Int32)), .val (.double (FP.i2d x2)), .second] [(.double (FP.l2d ((((0 : Int64) + ((x0.toInt64) * (x0.toInt64))) + ((x1.toInt64) * (x1.toInt64))) + ((x2.toInt64) * (x2.toInt64)))))])) _
    refine XS.dstoreN X0.here hx rfl (hb hby d1_31) rfl (l' := #[.val (.ref a1), .val (.double (FP.l2d ((((0 : Int64) + ((x0.toInt64) * (x0.toInt64))) + ((x1.toInt64) * (x1.toInt64))) + ((x2.toInt64) * (x2.toInt64))))), .second, .val (.ref a1), .val (.int (3 : Int32)), .val (.int (2 : Int32)), .val (.double (FP.i2d x2)), .second]) rfl ?_
    show Steps p.tables e below (s₁.setTop (mkF m 32 #[.val (.ref a1), .val (.double (FP.l2d ((((0 : Int64) + ((x0.toInt64) * (x0.toInt64))) + ((x1.toInt64) * (x1.toInt64))) + ((x2.toInt64) * (x2.toInt64))))), .second, .val (.ref a1), .val (.int (3 : Int32)), .val (.int (2 : Int32)), .val (.double (FP.i2d x2)), .second] [])) _
    refine XS.iinc X0.here hx rfl (hb hby d1_32) rfl (l' := #[.val (.ref a1), .val (.double (FP.l2d ((((0 : Int64) + ((x0.toInt64) * (x0.toInt64))) + ((x1.toInt64) * (x1.toInt64))) + ((x2.toInt64) * (x2.toInt64))))), .second, .val (.ref a1), .val (.int (3 : Int32)), .val (.int ((2 : Int32) + (1 : Int32))), .val (.double (FP.i2d x2)), .second]) rfl ?_
    show Steps p.tables e below (s₁.setTop (mkF m 35 #[.val (.ref a1), .val (.double (FP.l2d ((((0 : Int64) + ((x0.toInt64) * (x0.toInt64))) + ((x1.toInt64) * (x1.toInt64))) + ((x2.toInt64) * (x2.toInt64))))), .second, .val (.ref a1), .val (.int (3 : Int32)), .val (.int ((2 : Int32) + (1 : Int32))), .val (.double (FP.i2d x2)), .second] [])) _
    show Steps p.tables e below (s₁.setTop (mkF m 35 #[.val (.ref a1), .val (.double (FP.l2d ((((0 : Int64) + ((x0.toInt64) * (x0.toInt64))) + ((x1.toInt64) * (x1.toInt64))) + ((x2.toInt64) * (x2.toInt64))))), .second, .val (.ref a1), .val (.int (3 : Int32)), .val (.int (3 : Int32)), .val (.double (FP.i2d x2)), .second] [])) _
    refine XS.goto X0.here hx rfl (pc0 := 35) (pc' := 11) rfl (hb hby d1_35) (by decide) (by decide) ?_
    show Steps p.tables e below (s₁.setTop (mkF m 11 #[.val (.ref a1), .val (.double (FP.l2d ((((0 : Int64) + ((x0.toInt64) * (x0.toInt64))) + ((x1.toInt64) * (x1.toInt64))) + ((x2.toInt64) * (x2.toInt64))))), .second, .val (.ref a1), .val (.int (3 : Int32)), .val (.int (3 : Int32)), .val (.double (FP.i2d x2)), .second] [])) _
    refine XS.iload X0.here hx rfl (hb hby d1_11) rfl ?_
    show Steps p.tables e below (s₁.setTop (mkF m 13 #[.val (.ref a1), .val (.double (FP.l2d ((((0 : Int64) + ((x0.toInt64) * (x0.toInt64))) + ((x1.toInt64) * (x1.toInt64))) + ((x2.toInt64) * (x2.toInt64))))), .second, .val (.ref a1), .val (.int (3 : Int32)), .val (.int (3 : Int32)), .val (.double (FP.i2d x2)), .second] [(.int (3 : Int32))])) _
    refine XS.iload X0.here hx rfl (hb hby d1_13) rfl ?_
    show Steps p.tables e below (s₁.setTop (mkF m 15 #[.val (.ref a1), .val (.double (FP.l2d ((((0 : Int64) + ((x0.toInt64) * (x0.toInt64))) + ((x1.toInt64) * (x1.toInt64))) + ((x2.toInt64) * (x2.toInt64))))), .second, .val (.ref a1), .val (.int (3 : Int32)), .val (.int (3 : Int32)), .val (.double (FP.i2d x2)), .second] [(.int (3 : Int32)), (.int (3 : Int32))])) _
    refine XS.icmpYes X0.here hx rfl (pc0 := 15) (pc' := 38) rfl (hb hby d1_15) rfl (flt (by decide : ¬ ((3 : Int32) < (3 : Int32)))).2.1 (by decide) (by decide) ?_
    show Steps p.tables e below (s₁.setTop (mkF m 38 #[.val (.ref a1), .val (.double (FP.l2d ((((0 : Int64) + ((x0.toInt64) * (x0.toInt64))) + ((x1.toInt64) * (x1.toInt64))) + ((x2.toInt64) * (x2.toInt64))))), .second, .val (.ref a1), .val (.int (3 : Int32)), .val (.int (3 : Int32)), .val (.double (FP.i2d x2)), .second] [])) _
    refine XS.dloadN X0.here hx rfl (hb hby d1_38) rfl ?_
    exact kt
  obtain ⟨fs, hr, hrun, hended, hW, hsame⟩ := X0.leave (v := (some (.double (FP.l2d ((((0 : Int64) + ((x0.toInt64) * (x0.toInt64))) + ((x1.toInt64) * (x1.toInt64))) + ((x2.toInt64) * (x2.toInt64))))))) (fun h => by rw [Bd.returns] at h; cases h)
  refine ⟨_, _, pre9 _ ?_, hrun, hended, _, _, rfl, ?_, ⟨_, rfl⟩, hW, hsame.mono (by decide) (by decide)⟩
  · show Steps p.tables e below (s₁.setTop (mkF m 39 #[.val (.ref a1), .val (.double (FP.l2d ((((0 : Int64) + ((x0.toInt64) * (x0.toInt64))) + ((x1.toInt64) * (x1.toInt64))) + ((x2.toInt64) * (x2.toInt64))))), .second, .val (.ref a1), .val (.int (3 : Int32)), .val (.int (3 : Int32)), .val (.double (FP.i2d x2)), .second] [(.double (FP.l2d ((((0 : Int64) + ((x0.toInt64) * (x0.toInt64))) + ((x1.toInt64) * (x1.toInt64))) + ((x2.toInt64) * (x2.toInt64)))))])) _
    exact retOut X0 hx (t := .double) Bd.returns rfl (Or.inr (Or.inr (Or.inl ⟨rfl, rfl, _, rfl⟩))) (hb hby d1_39) hr
  · show Q1m3 Z a1 k1 x0 x1 x2 h0 n0 _ s₁.heap _
    rw [e0]
    exact ⟨rfl, N0, rfl⟩
theorem ef_1m4 (m : MethodId) (a1 : Addr) : entryFrame m #[(.ref a1)] 8 = (mkF m 0 #[.val (.ref a1), .unset, .unset, .unset, .unset, .unset, .unset, .unset] []) := by first | (simp [entryFrame, mkF, argsToLocals, Value.category]; done) | rfl
def Q1m4 (Z : State) (a1 : Addr) (k1 : ClassId) (x0 : Int32) (x1 : Int32) (x2 : Int32) (x3 : Int32) (h0 : Heap) (n0 : Nat) (v : Option Value) (h : Heap) (L : List Loc) : Prop := v = some (.double (FP.l2d (((((0 : Int64) + ((x0.toInt64) * (x0.toInt64))) + ((x1.toInt64) * (x1.toInt64))) + ((x2.toInt64) * (x2.toInt64))) + ((x3.toInt64) * (x3.toInt64))))) ∧ Fr n0 L ∧ h = h0
set_option maxRecDepth 65536 in
set_option maxHeartbeats 40000000 in
theorem rm1m4 (l : Launch) (Z : State) (a0 : Array Value) (hw : ∀ d ∈ tables_1, d.before a0 Z = true) (ws : List Jvm.Cond) (a1 : Addr) (k1 : ClassId) (x0 : Int32) (x1 : Int32) (x2 : Int32) (x3 : Int32) (h0 : Heap) (n0 : Nat) (Z0 : n0 ≤ h0.size) (V1 : Arv Z h0 a1 k1 .double (4 : Int32) [(.double (FP.i2d x0)), (.double (FP.i2d x1)), (.double (FP.i2d x2)), (.double (FP.i2d x3))] (.double 0)) (s0 : own_sm x0) (s1 : own_sm x1) (s2 : own_sm x2) (s3 : own_sm x3) :
    MetFree l (⟨"com/example/vidura/vidura/stats/Values", "sumOfSquares", "([D)D"⟩ : MethodName) (head1 (Jvm.Cond.code (⟨"com/example/vidura/vidura/stats/Values", "sumOfSquares", "([D)D"⟩ : MethodName) prog_125_method_5_code 8 (some .double) :: ws) ({ frames := 0, cells := 0, slots := 0, locals := 0 } : Room)) (fun a U => a = #[(.ref a1)] ∧ Z.Warmed39 U.vm ∧ U.heap = h0) (fun _ _ _ _ _ => True) (fun _ U o U' => ∃ v L, o = .returned v ∧ Q1m4 Z a1 k1 x0 x1 x2 x3 h0 n0 v U'.heap L ∧ FrameEnd U o U' L ({ frames := 0, cells := 0, slots := 0, locals := 0 } : Room).cells ({ frames := 0, cells := 0, slots := 0, locals := 0 } : Room).slots) := by
  refine MetFree.of_bodySF (plainFor_of_name pn_0) hisR ?_
  intro p e s m args below meth c s₁ Bd hml0 hP hK
  obtain ⟨rfl, hZ, hh⟩ := hP
  have hx := Bd.exec
  have hby := Bd.bytes
  have hml : c.maxLocals = 8 := hml0
  have hown : s.vm.findClass "com/example/vidura/vidura/stats/Values" = some m.cls := findClass_of_methodNamed Bd.named
  have hnm := (name_of_methodNamed Bd.named Bd.method).1
  have X0 : Stand p l e ({ frames := 0, cells := 0, slots := 0, locals := 0 } : Room) s m #[(.ref a1)] below meth c s₁ [] 0 0 := Stand.of_body Bd
  have e0 : s₁.heap = h0 := by rw [← hh, Bd.state]; rfl
  have N0 := Fr.nil n0
  have pre0 : ∀ t, Steps p.tables e below (s₁.setTop (mkF m 0 #[.val (.ref a1), .unset, .unset, .unset, .unset, .unset, .unset, .unset] [])) t → Steps p.tables e below (s₁.setTop (entryFrame m #[(.ref a1)] 8)) t := fun t k => castTop (ef_1m4 m a1) k
  have u0 := own_add own_le0 (by decide) s0
  have u1 := own_add u0.1 (by decide) s1
  have u2 := own_add u1.1 (by decide) s2
  have u3 := own_add u2.1 (by decide) s3
  have pre1 : ∀ t, Steps p.tables e below (s₁.setTop (mkF m 5 #[.val (.ref a1), .val (.double (FP.l2d (0 : Int64))), .second, .val (.ref a1), .unset, .unset, .unset, .unset] [(.ref a1)])) t → Steps p.tables e below (s₁.setTop (entryFrame m #[(.ref a1)] 8)) t := fun t kt => by
    refine pre0 _ ?_
    show Steps p.tables e below (s₁.setTop (mkF m 0 #[.val (.ref a1), .unset, .unset, .unset, .unset, .unset, .unset, .unset] [])) _
    refine XS.dconst0 X0.here hx rfl (hb hby d1_0) own_z ?_
    show Steps p.tables e below (s₁.setTop (mkF m 1 #[.val (.ref a1), .unset, .unset, .unset, .unset, .unset, .unset, .unset] [(.double (FP.l2d (0 : Int64)))])) _
    refine XS.dstoreN X0.here hx rfl (hb hby d1_1) rfl (l' := #[.val (.ref a1), .val (.double (FP.l2d (0 : Int64))), .second, .unset, .unset, .unset, .unset, .unset]) rfl ?_
    show Steps p.tables e below (s₁.setTop (mkF m 2 #[.val (.ref a1), .val (.double (FP.l2d (0 : Int64))), .second, .unset, .unset, .unset, .unset, .unset] [])) _
    refine XS.aloadN X0.here hx rfl (hb hby d1_2) rfl rfl ?_
    show Steps p.tables e below (s₁.setTop (mkF m 3 #[.val (.ref a1), .val (.double (FP.l2d (0 : Int64))), .second, .unset, .unset, .unset, .unset, .unset] [(.ref a1)])) _
    refine XS.astoreN X0.here hx rfl (hb hby d1_3) rfl rfl (l' := #[.val (.ref a1), .val (.double (FP.l2d (0 : Int64))), .second, .val (.ref a1), .unset, .unset, .unset, .unset]) rfl ?_
    show Steps p.tables e below (s₁.setTop (mkF m 4 #[.val (.ref a1), .val (.double (FP.l2d (0 : Int64))), .second, .val (.ref a1), .unset, .unset, .unset, .unset] [])) _
    refine XS.aloadN X0.here hx rfl (hb hby d1_4) rfl rfl ?_
    exact kt
  obtain ⟨cl2, Ar2, qk2, Sz2, Nn2, Hh2, Gg2⟩ := id V1
  have pre3 : ∀ t, Steps p.tables e below (s₁.setTop (mkF m 21 #[.val (.ref a1), .val (.double (FP.l2d (0 : Int64))), .second, .val (.ref a1), .val (.int (4 : Int32)), .val (.int (0 : Int32)), .unset, .unset] [(.int (0 : Int32)), (.ref a1)])) t → Steps p.tables e below (s₁.setTop (entryFrame m #[(.ref a1)] 8)) t := fun t kt => by
    refine pre1 _ ?_
    show Steps p.tables e below (s₁.setTop (mkF m 5 #[.val (.ref a1), .val (.double (FP.l2d (0 : Int64))), .second, .val (.ref a1), .unset, .unset, .unset, .unset] [(.ref a1)])) _
    refine X0.arraylength hx (by rw [e0]; exact Ar2.1) (State.isArrayOf_alike hZ.alike Ar2.2.1) (g := (mkF m 5 #[.val (.ref a1), .val (.double (FP.l2d (0 : Int64))), .second, .val (.ref a1), .unset, .unset, .unset, .unset] [(.ref a1)])) rfl rfl (hb hby d1_5) _ ?_
    rw [len_of Sz2 Nn2]
    show Steps p.tables e below (s₁.setTop (mkF m 6 #[.val (.ref a1), .val (.double (FP.l2d (0 : Int64))), .second, .val (.ref a1), .unset, .unset, .unset, .unset] [(.int (4 : Int32))])) _
    refine XS.istore X0.here hx rfl (hb hby d1_6) rfl (l' := #[.val (.ref a1), .val (.double (FP.l2d (0 : Int64))), .second, .val (.ref a1), .val (.int (4 : Int32)), .unset, .unset, .unset]) rfl ?_
    show Steps p.tables e below (s₁.setTop (mkF m 8 #[.val (.ref a1), .val (.double (FP.l2d (0 : Int64))), .second, .val (.ref a1), .val (.int (4 : Int32)), .unset, .unset, .unset] [])) _
    refine XS.iconst X0.here hx rfl (hb hby d1_8) ?_
    show Steps p.tables e below (s₁.setTop (mkF m 9 #[.val (.ref a1), .val (.double (FP.l2d (0 : Int64))), .second, .val (.ref a1), .val (.int (4 : Int32)), .unset, .unset, .unset] [(.int (0 : Int32))])) _
    refine XS.istore X0.here hx rfl (hb hby d1_9) rfl (l' := #[.val (.ref a1), .val (.double (FP.l2d (0 : Int64))), .second, .val (.ref a1), .val (.int (4 : Int32)), .val (.int (0 : Int32)), .unset, .unset]) rfl ?_
    show Steps p.tables e below (s₁.setTop (mkF m 11 #[.val (.ref a1), .val (.double (FP.l2d (0 : Int64))), .second, .val (.ref a1), .val (.int (4 : Int32)), .val (.int (0 : Int32)), .unset, .unset] [])) _
    refine XS.iload X0.here hx rfl (hb hby d1_11) rfl ?_
    show Steps p.tables e below (s₁.setTop (mkF m 13 #[.val (.ref a1), .val (.double (FP.l2d (0 : Int64))), .second, .val (.ref a1), .val (.int (4 : Int32)), .val (.int (0 : Int32)), .unset, .unset] [(.int (0 : Int32))])) _
    refine XS.iload X0.here hx rfl (hb hby d1_13) rfl ?_
    show Steps p.tables e below (s₁.setTop (mkF m 15 #[.val (.ref a1), .val (.double (FP.l2d (0 : Int64))), .second, .val (.ref a1), .val (.int (4 : Int32)), .val (.int (0 : Int32)), .unset, .unset] [(.int (4 : Int32)), (.int (0 : Int32))])) _
    refine XS.icmpNo X0.here hx rfl (hb hby d1_15) rfl (tlt (by decide : (0 : Int32) < (4 : Int32))).2.1 ?_
    show Steps p.tables e below (s₁.setTop (mkF m 18 #[.val (.ref a1), .val (.double (FP.l2d (0 : Int64))), .second, .val (.ref a1), .val (.int (4 : Int32)), .val (.int (0 : Int32)), .unset, .unset] [])) _
    refine XS.aloadN X0.here hx rfl (hb hby d1_18) rfl rfl ?_
    show Steps p.tables e below (s₁.setTop (mkF m 19 #[.val (.ref a1), .val (.double (FP.l2d (0 : Int64))), .second, .val (.ref a1), .val (.int (4 : Int32)), .val (.int (0 : Int32)), .unset, .unset] [(.ref a1)])) _
    refine XS.iload X0.here hx rfl (hb hby d1_19) rfl ?_
    exact kt
  obtain ⟨cl4, Ar4, qk4, Sz4, Nn4, Hh4, Gg4⟩ := id V1
  have hin4 : ¬ ((0 : Int32) < 0 ∨ cl4.slots.size ≤ ((0 : Int32)).toNatClampNeg) := inb_of Sz4 ⟨by decide, by decide⟩
  have hat4 : cl4.slots[((0 : Int32)).toNatClampNeg]? = some (.double (FP.i2d x0)) := Hh4.at hin4 rfl
  have pre5 : ∀ t, Steps p.tables e below (s₁.setTop (mkF m 21 #[.val (.ref a1), .val (.double (FP.l2d ((0 : Int64) + ((x0.toInt64) * (x0.toInt64))))), .second, .val (.ref a1), .val (.int (4 : Int32)), .val (.int (1 : Int32)), .val (.double (FP.i2d x0)), .second] [(.int (1 : Int32)), (.ref a1)])) t → Steps p.tables e below (s₁.setTop (entryFrame m #[(.ref a1)] 8)) t := fun t kt => by
    refine pre3 _ ?_
    show Steps p.tables e below (s₁.setTop (mkF m 21 #[.val (.ref a1), .val (.double (FP.l2d (0 : Int64))), .second, .val (.ref a1), .val (.int (4 : Int32)), .val (.int (0 : Int32)), .unset, .unset] [(.int (0 : Int32)), (.ref a1)])) _
    refine X0.daload hx (j := (0 : Int32)) (v := (.double (FP.i2d x0))) (by rw [e0]; exact Ar4.1) (State.isArrayOf_alike hZ.alike Ar4.2.1) Ar4.2.2 hin4 hat4 (g := (mkF m 21 #[.val (.ref a1), .val (.double (FP.l2d (0 : Int64))), .second, .val (.ref a1), .val (.int (4 : Int32)), .val (.int (0 : Int32)), .unset, .unset] [(.int (0 : Int32)), (.ref a1)])) rfl rfl (hb hby d1_21) _ ?_
    show Steps p.tables e below (s₁.setTop (mkF m 22 #[.val (.ref a1), .val (.double (FP.l2d (0 : Int64))), .second, .val (.ref a1), .val (.int (4 : Int32)), .val (.int (0 : Int32)), .unset, .unset] [(.double (FP.i2d x0))])) _
    refine XS.dstore X0.here hx rfl (hb hby d1_22) rfl (l' := #[.val (.ref a1), .val (.double (FP.l2d (0 : Int64))), .second, .val (.ref a1), .val (.int (4 : Int32)), .val (.int (0 : Int32)), .val (.double (FP.i2d x0)), .second]) rfl ?_
    show Steps p.tables e below (s₁.setTop (mkF m 24 #[.val (.ref a1), .val (.double (FP.l2d (0 : Int64))), .second, .val (.ref a1), .val (.int (4 : Int32)), .val (.int (0 : Int32)), .val (.double (FP.i2d x0)), .second] [])) _
    refine XS.dloadN X0.here hx rfl (hb hby d1_24) rfl ?_
    show Steps p.tables e below (s₁.setTop (mkF m 25 #[.val (.ref a1), .val (.double (FP.l2d (0 : Int64))), .second, .val (.ref a1), .val (.int (4 : Int32)), .val (.int (0 : Int32)), .val (.double (FP.i2d x0)), .second] [(.double (FP.l2d (0 : Int64)))])) _
    refine XS.dload X0.here hx rfl (hb hby d1_25) rfl ?_
    show Steps p.tables e below (s₁.setTop (mkF m 27 #[.val (.ref a1), .val (.double (FP.l2d (0 : Int64))), .second, .val (.ref a1), .val (.int (4 : Int32)), .val (.int (0 : Int32)), .val (.double (FP.i2d x0)), .second] [(.double (FP.i2d x0)), (.double (FP.l2d (0 : Int64)))])) _
    refine XS.dload X0.here hx rfl (hb hby d1_27) rfl ?_
    show Steps p.tables e below (s₁.setTop (mkF m 29 #[.val (.ref a1), .val (.double (FP.l2d (0 : Int64))), .second, .val (.ref a1), .val (.int (4 : Int32)), .val (.int (0 : Int32)), .val (.double (FP.i2d x0)), .second] [(.double (FP.i2d x0)), (.double (FP.i2d x0)), (.double (FP.l2d (0 : Int64)))])) _
    refine XS.dmulS X0.here hx rfl (hb hby d1_29) rfl (nn_w (own_sq s0)) (own_sq s0) ?_
    show Steps p.tables e below (s₁.setTop (mkF m 30 #[.val (.ref a1), .val (.double (FP.l2d (0 : Int64))), .second, .val (.ref a1), .val (.int (4 : Int32)), .val (.int (0 : Int32)), .val (.double (FP.i2d x0)), .second] [(.double (FP.l2d ((x0.toInt64) * (x0.toInt64)))), (.double (FP.l2d (0 : Int64)))])) _
    refine XS.daddS X0.here hx rfl (hb hby d1_30) rfl (nn_w u0.2) u0.2 ?_
    show Steps p.tables e below (s₁.setTop (mkF m 31 #[.val (.ref a1), .val (.double (FP.l2d (0 : Int64))), .second, .val (.ref a1), .val (.int (4 : Int32)), .val (.int (0 : Int32)), .val (.double (FP.i2d x0)), .second] [(.double (FP.l2d ((0 : Int64) + ((x0.toInt64) * (x0.toInt64)))))])) _
    refine XS.dstoreN X0.here hx rfl (hb hby d1_31) rfl (l' := #[.val (.ref a1), .val (.double (FP.l2d ((0 : Int64) + ((x0.toInt64) * (x0.toInt64))))), .second, .val (.ref a1), .val (.int (4 : Int32)), .val (.int (0 : Int32)), .val (.double (FP.i2d x0)), .second]) rfl ?_
    show Steps p.tables e below (s₁.setTop (mkF m 32 #[.val (.ref a1), .val (.double (FP.l2d ((0 : Int64) + ((x0.toInt64) * (x0.toInt64))))), .second, .val (.ref a1), .val (.int (4 : Int32)), .val (.int (0 : Int32)), .val (.double (FP.i2d x0)), .second] [])) _
    refine XS.iinc X0.here hx rfl (hb hby d1_32) rfl (l' := #[.val (.ref a1), .val (.double (FP.l2d ((0 : Int64) + ((x0.toInt64) * (x0.toInt64))))), .second, .val (.ref a1), .val (.int (4 : Int32)), .val (.int ((0 : Int32) + (1 : Int32))), .val (.double (FP.i2d x0)), .second]) rfl ?_
    show Steps p.tables e below (s₁.setTop (mkF m 35 #[.val (.ref a1), .val (.double (FP.l2d ((0 : Int64) + ((x0.toInt64) * (x0.toInt64))))), .second, .val (.ref a1), .val (.int (4 : Int32)), .val (.int ((0 : Int32) + (1 : Int32))), .val (.double (FP.i2d x0)), .second] [])) _
    show Steps p.tables e below (s₁.setTop (mkF m 35 #[.val (.ref a1), .val (.double (FP.l2d ((0 : Int64) + ((x0.toInt64) * (x0.toInt64))))), .second, .val (.ref a1), .val (.int (4 : Int32)), .val (.int (1 : Int32)), .val (.double (FP.i2d x0)), .second] [])) _
    refine XS.goto X0.here hx rfl (pc0 := 35) (pc' := 11) rfl (hb hby d1_35) (by decide) (by decide) ?_
    show Steps p.tables e below (s₁.setTop (mkF m 11 #[.val (.ref a1), .val (.double (FP.l2d ((0 : Int64) + ((x0.toInt64) * (x0.toInt64))))), .second, .val (.ref a1), .val (.int (4 : Int32)), .val (.int (1 : Int32)), .val (.double (FP.i2d x0)), .second] [])) _
    refine XS.iload X0.here hx rfl (hb hby d1_11) rfl ?_
    show Steps p.tables e below (s₁.setTop (mkF m 13 #[.val (.ref a1), .val (.double (FP.l2d ((0 : Int64) + ((x0.toInt64) * (x0.toInt64))))), .second, .val (.ref a1), .val (.int (4 : Int32)), .val (.int (1 : Int32)), .val (.double (FP.i2d x0)), .second] [(.int (1 : Int32))])) _
    refine XS.iload X0.here hx rfl (hb hby d1_13) rfl ?_
    show Steps p.tables e below (s₁.setTop (mkF m 15 #[.val (.ref a1), .val (.double (FP.l2d ((0 : Int64) + ((x0.toInt64) * (x0.toInt64))))), .second, .val (.ref a1), .val (.int (4 : Int32)), .val (.int (1 : Int32)), .val (.double (FP.i2d x0)), .second] [(.int (4 : Int32)), (.int (1 : Int32))])) _
    refine XS.icmpNo X0.here hx rfl (hb hby d1_15) rfl (tlt (by decide : (1 : Int32) < (4 : Int32))).2.1 ?_
    show Steps p.tables e below (s₁.setTop (mkF m 18 #[.val (.ref a1), .val (.double (FP.l2d ((0 : Int64) + ((x0.toInt64) * (x0.toInt64))))), .second, .val (.ref a1), .val (.int (4 : Int32)), .val (.int (1 : Int32)), .val (.double (FP.i2d x0)), .second] [])) _
    refine XS.aloadN X0.here hx rfl (hb hby d1_18) rfl rfl ?_
    show Steps p.tables e below (s₁.setTop (mkF m 19 #[.val (.ref a1), .val (.double (FP.l2d ((0 : Int64) + ((x0.toInt64) * (x0.toInt64))))), .second, .val (.ref a1), .val (.int (4 : Int32)), .val (.int (1 : Int32)), .val (.double (FP.i2d x0)), .second] [(.ref a1)])) _
    refine XS.iload X0.here hx rfl (hb hby d1_19) rfl ?_
    exact kt
  obtain ⟨cl6, Ar6, qk6, Sz6, Nn6, Hh6, Gg6⟩ := id V1
  have hin6 : ¬ ((1 : Int32) < 0 ∨ cl6.slots.size ≤ ((1 : Int32)).toNatClampNeg) := inb_of Sz6 ⟨by decide, by decide⟩
  have hat6 : cl6.slots[((1 : Int32)).toNatClampNeg]? = some (.double (FP.i2d x1)) := Hh6.at hin6 rfl
  have pre7 : ∀ t, Steps p.tables e below (s₁.setTop (mkF m 21 #[.val (.ref a1), .val (.double (FP.l2d (((0 : Int64) + ((x0.toInt64) * (x0.toInt64))) + ((x1.toInt64) * (x1.toInt64))))), .second, .val (.ref a1), .val (.int (4 : Int32)), .val (.int (2 : Int32)), .val (.double (FP.i2d x1)), .second] [(.int (2 : Int32)), (.ref a1)])) t → Steps p.tables e below (s₁.setTop (entryFrame m #[(.ref a1)] 8)) t := fun t kt => by
    refine pre5 _ ?_
    show Steps p.tables e below (s₁.setTop (mkF m 21 #[.val (.ref a1), .val (.double (FP.l2d ((0 : Int64) + ((x0.toInt64) * (x0.toInt64))))), .second, .val (.ref a1), .val (.int (4 : Int32)), .val (.int (1 : Int32)), .val (.double (FP.i2d x0)), .second] [(.int (1 : Int32)), (.ref a1)])) _
    refine X0.daload hx (j := (1 : Int32)) (v := (.double (FP.i2d x1))) (by rw [e0]; exact Ar6.1) (State.isArrayOf_alike hZ.alike Ar6.2.1) Ar6.2.2 hin6 hat6 (g := (mkF m 21 #[.val (.ref a1), .val (.double (FP.l2d ((0 : Int64) + ((x0.toInt64) * (x0.toInt64))))), .second, .val (.ref a1), .val (.int (4 : Int32)), .val (.int (1 : Int32)), .val (.double (FP.i2d x0)), .second] [(.int (1 : Int32)), (.ref a1)])) rfl rfl (hb hby d1_21) _ ?_
    show Steps p.tables e below (s₁.setTop (mkF m 22 #[.val (.ref a1), .val (.double (FP.l2d ((0 : Int64) + ((x0.toInt64) * (x0.toInt64))))), .second, .val (.ref a1), .val (.int (4 : Int32)), .val (.int (1 : Int32)), .val (.double (FP.i2d x0)), .second] [(.double (FP.i2d x1))])) _
    refine XS.dstore X0.here hx rfl (hb hby d1_22) rfl (l' := #[.val (.ref a1), .val (.double (FP.l2d ((0 : Int64) + ((x0.toInt64) * (x0.toInt64))))), .second, .val (.ref a1), .val (.int (4 : Int32)), .val (.int (1 : Int32)), .val (.double (FP.i2d x1)), .second]) rfl ?_
    show Steps p.tables e below (s₁.setTop (mkF m 24 #[.val (.ref a1), .val (.double (FP.l2d ((0 : Int64) + ((x0.toInt64) * (x0.toInt64))))), .second, .val (.ref a1), .val (.int (4 : Int32)), .val (.int (1 : Int32)), .val (.double (FP.i2d x1)), .second] [])) _
    refine XS.dloadN X0.here hx rfl (hb hby d1_24) rfl ?_
    show Steps p.tables e below (s₁.setTop (mkF m 25 #[.val (.ref a1), .val (.double (FP.l2d ((0 : Int64) + ((x0.toInt64) * (x0.toInt64))))), .second, .val (.ref a1), .val (.int (4 : Int32)), .val (.int (1 : Int32)), .val (.double (FP.i2d x1)), .second] [(.double (FP.l2d ((0 : Int64) + ((x0.toInt64) * (x0.toInt64)))))])) _
    refine XS.dload X0.here hx rfl (hb hby d1_25) rfl ?_
    show Steps p.tables e below (s₁.setTop (mkF m 27 #[.val (.ref a1), .val (.double (FP.l2d ((0 : Int64) + ((x0.toInt64) * (x0.toInt64))))), .second, .val (.ref a1), .val (.int (4 : Int32)), .val (.int (1 : Int32)), .val (.double (FP.i2d x1)), .second] [(.double (FP.i2d x1)), (.double (FP.l2d ((0 : Int64) + ((x0.toInt64) * (x0.toInt64)))))])) _
    refine XS.dload X0.here hx rfl (hb hby d1_27) rfl ?_
    show Steps p.tables e below (s₁.setTop (mkF m 29 #[.val (.ref a1), .val (.double (FP.l2d ((0 : Int64) + ((x0.toInt64) * (x0.toInt64))))), .second, .val (.ref a1), .val (.int (4 : Int32)), .val (.int (1 : Int32)), .val (.double (FP.i2d x1)), .second] [(.double (FP.i2d x1)), (.double (FP.i2d x1)), (.double (FP.l2d ((0 : Int64) + ((x0.toInt64) * (x0.toInt64)))))])) _
    refine XS.dmulS X0.here hx rfl (hb hby d1_29) rfl (nn_w (own_sq s1)) (own_sq s1) ?_
    show Steps p.tables e below (s₁.setTop (mkF m 30 #[.val (.ref a1), .val (.double (FP.l2d ((0 : Int64) + ((x0.toInt64) * (x0.toInt64))))), .second, .val (.ref a1), .val (.int (4 : Int32)), .val (.int (1 : Int32)), .val (.double (FP.i2d x1)), .second] [(.double (FP.l2d ((x1.toInt64) * (x1.toInt64)))), (.double (FP.l2d ((0 : Int64) + ((x0.toInt64) * (x0.toInt64)))))])) _
    refine XS.daddS X0.here hx rfl (hb hby d1_30) rfl (nn_w u1.2) u1.2 ?_
    show Steps p.tables e below (s₁.setTop (mkF m 31 #[.val (.ref a1), .val (.double (FP.l2d ((0 : Int64) + ((x0.toInt64) * (x0.toInt64))))), .second, .val (.ref a1), .val (.int (4 : Int32)), .val (.int (1 : Int32)), .val (.double (FP.i2d x1)), .second] [(.double (FP.l2d (((0 : Int64) + ((x0.toInt64) * (x0.toInt64))) + ((x1.toInt64) * (x1.toInt64)))))])) _
    refine XS.dstoreN X0.here hx rfl (hb hby d1_31) rfl (l' := #[.val (.ref a1), .val (.double (FP.l2d (((0 : Int64) + ((x0.toInt64) * (x0.toInt64))) + ((x1.toInt64) * (x1.toInt64))))), .second, .val (.ref a1), .val (.int (4 : Int32)), .val (.int (1 : Int32)), .val (.double (FP.i2d x1)), .second]) rfl ?_
    show Steps p.tables e below (s₁.setTop (mkF m 32 #[.val (.ref a1), .val (.double (FP.l2d (((0 : Int64) + ((x0.toInt64) * (x0.toInt64))) + ((x1.toInt64) * (x1.toInt64))))), .second, .val (.ref a1), .val (.int (4 : Int32)), .val (.int (1 : Int32)), .val (.double (FP.i2d x1)), .second] [])) _
    refine XS.iinc X0.here hx rfl (hb hby d1_32) rfl (l' := #[.val (.ref a1), .val (.double (FP.l2d (((0 : Int64) + ((x0.toInt64) * (x0.toInt64))) + ((x1.toInt64) * (x1.toInt64))))), .second, .val (.ref a1), .val (.int (4 : Int32)), .val (.int ((1 : Int32) + (1 : Int32))), .val (.double (FP.i2d x1)), .second]) rfl ?_
    show Steps p.tables e below (s₁.setTop (mkF m 35 #[.val (.ref a1), .val (.double (FP.l2d (((0 : Int64) + ((x0.toInt64) * (x0.toInt64))) + ((x1.toInt64) * (x1.toInt64))))), .second, .val (.ref a1), .val (.int (4 : Int32)), .val (.int ((1 : Int32) + (1 : Int32))), .val (.double (FP.i2d x1)), .second] [])) _
    show Steps p.tables e below (s₁.setTop (mkF m 35 #[.val (.ref a1), .val (.double (FP.l2d (((0 : Int64) + ((x0.toInt64) * (x0.toInt64))) + ((x1.toInt64) * (x1.toInt64))))), .second, .val (.ref a1), .val (.int (4 : Int32)), .val (.int (2 : Int32)), .val (.double (FP.i2d x1)), .second] [])) _
    refine XS.goto X0.here hx rfl (pc0 := 35) (pc' := 11) rfl (hb hby d1_35) (by decide) (by decide) ?_
    show Steps p.tables e below (s₁.setTop (mkF m 11 #[.val (.ref a1), .val (.double (FP.l2d (((0 : Int64) + ((x0.toInt64) * (x0.toInt64))) + ((x1.toInt64) * (x1.toInt64))))), .second, .val (.ref a1), .val (.int (4 : Int32)), .val (.int (2 : Int32)), .val (.double (FP.i2d x1)), .second] [])) _
    refine XS.iload X0.here hx rfl (hb hby d1_11) rfl ?_
    show Steps p.tables e below (s₁.setTop (mkF m 13 #[.val (.ref a1), .val (.double (FP.l2d (((0 : Int64) + ((x0.toInt64) * (x0.toInt64))) + ((x1.toInt64) * (x1.toInt64))))), .second, .val (.ref a1), .val (.int (4 : Int32)), .val (.int (2 : Int32)), .val (.double (FP.i2d x1)), .second] [(.int (2 : Int32))])) _
    refine XS.iload X0.here hx rfl (hb hby d1_13) rfl ?_
    show Steps p.tables e below (s₁.setTop (mkF m 15 #[.val (.ref a1), .val (.double (FP.l2d (((0 : Int64) + ((x0.toInt64) * (x0.toInt64))) + ((x1.toInt64) * (x1.toInt64))))), .second, .val (.ref a1), .val (.int (4 : Int32)), .val (.int (2 : Int32)), .val (.double (FP.i2d x1)), .second] [(.int (4 : Int32)), (.int (2 : Int32))])) _
    refine XS.icmpNo X0.here hx rfl (hb hby d1_15) rfl (tlt (by decide : (2 : Int32) < (4 : Int32))).2.1 ?_
    show Steps p.tables e below (s₁.setTop (mkF m 18 #[.val (.ref a1), .val (.double (FP.l2d (((0 : Int64) + ((x0.toInt64) * (x0.toInt64))) + ((x1.toInt64) * (x1.toInt64))))), .second, .val (.ref a1), .val (.int (4 : Int32)), .val (.int (2 : Int32)), .val (.double (FP.i2d x1)), .second] [])) _
    refine XS.aloadN X0.here hx rfl (hb hby d1_18) rfl rfl ?_
    show Steps p.tables e below (s₁.setTop (mkF m 19 #[.val (.ref a1), .val (.double (FP.l2d (((0 : Int64) + ((x0.toInt64) * (x0.toInt64))) + ((x1.toInt64) * (x1.toInt64))))), .second, .val (.ref a1), .val (.int (4 : Int32)), .val (.int (2 : Int32)), .val (.double (FP.i2d x1)), .second] [(.ref a1)])) _
    refine XS.iload X0.here hx rfl (hb hby d1_19) rfl ?_
    exact kt
  obtain ⟨cl8, Ar8, qk8, Sz8, Nn8, Hh8, Gg8⟩ := id V1
  have hin8 : ¬ ((2 : Int32) < 0 ∨ cl8.slots.size ≤ ((2 : Int32)).toNatClampNeg) := inb_of Sz8 ⟨by decide, by decide⟩
  have hat8 : cl8.slots[((2 : Int32)).toNatClampNeg]? = some (.double (FP.i2d x2)) := Hh8.at hin8 rfl
  have pre9 : ∀ t, Steps p.tables e below (s₁.setTop (mkF m 21 #[.val (.ref a1), .val (.double (FP.l2d ((((0 : Int64) + ((x0.toInt64) * (x0.toInt64))) + ((x1.toInt64) * (x1.toInt64))) + ((x2.toInt64) * (x2.toInt64))))), .second, .val (.ref a1), .val (.int (4 : Int32)), .val (.int (3 : Int32)), .val (.double (FP.i2d x2)), .second] [(.int (3 : Int32)), (.ref a1)])) t → Steps p.tables e below (s₁.setTop (entryFrame m #[(.ref a1)] 8)) t := fun t kt => by
    refine pre7 _ ?_
    show Steps p.tables e below (s₁.setTop (mkF m 21 #[.val (.ref a1), .val (.double (FP.l2d (((0 : Int64) + ((x0.toInt64) * (x0.toInt64))) + ((x1.toInt64) * (x1.toInt64))))), .second, .val (.ref a1), .val (.int (4 : Int32)), .val (.int (2 : Int32)), .val (.double (FP.i2d x1)), .second] [(.int (2 : Int32)), (.ref a1)])) _
    refine X0.daload hx (j := (2 : Int32)) (v := (.double (FP.i2d x2))) (by rw [e0]; exact Ar8.1) (State.isArrayOf_alike hZ.alike Ar8.2.1) Ar8.2.2 hin8 hat8 (g := (mkF m 21 #[.val (.ref a1), .val (.double (FP.l2d (((0 : Int64) + ((x0.toInt64) * (x0.toInt64))) + ((x1.toInt64) * (x1.toInt64))))), .second, .val (.ref a1), .val (.int (4 : Int32)), .val (.int (2 : Int32)), .val (.double (FP.i2d x1)), .second] [(.int (2 : Int32)), (.ref a1)])) rfl rfl (hb hby d1_21) _ ?_
    show Steps p.tables e below (s₁.setTop (mkF m 22 #[.val (.ref a1), .val (.double (FP.l2d (((0 : Int64) + ((x0.toInt64) * (x0.toInt64))) + ((x1.toInt64) * (x1.toInt64))))), .second, .val (.ref a1), .val (.int (4 : Int32)), .val (.int (2 : Int32)), .val (.double (FP.i2d x1)), .second] [(.double (FP.i2d x2))])) _
    refine XS.dstore X0.here hx rfl (hb hby d1_22) rfl (l' := #[.val (.ref a1), .val (.double (FP.l2d (((0 : Int64) + ((x0.toInt64) * (x0.toInt64))) + ((x1.toInt64) * (x1.toInt64))))), .second, .val (.ref a1), .val (.int (4 : Int32)), .val (.int (2 : Int32)), .val (.double (FP.i2d x2)), .second]) rfl ?_
    show Steps p.tables e below (s₁.setTop (mkF m 24 #[.val (.ref a1), .val (.double (FP.l2d (((0 : Int64) + ((x0.toInt64) * (x0.toInt64))) + ((x1.toInt64) * (x1.toInt64))))), .second, .val (.ref a1), .val (.int (4 : Int32)), .val (.int (2 : Int32)), .val (.double (FP.i2d x2)), .second] [])) _
    refine XS.dloadN X0.here hx rfl (hb hby d1_24) rfl ?_
    show Steps p.tables e below (s₁.setTop (mkF m 25 #[.val (.ref a1), .val (.double (FP.l2d (((0 : Int64) + ((x0.toInt64) * (x0.toInt64))) + ((x1.toInt64) * (x1.toInt64))))), .second, .val (.ref a1), .val (.int (4 : Int32)), .val (.int (2 : Int32)), .val (.double (FP.i2d x2)), .second] [(.double (FP.l2d (((0 : Int64) + ((x0.toInt64) * (x0.toInt64))) + ((x1.toInt64) * (x1.toInt64)))))])) _
    refine XS.dload X0.here hx rfl (hb hby d1_25) rfl ?_
    show Steps p.tables e below (s₁.setTop (mkF m 27 #[.val (.ref a1), .val (.double (FP.l2d (((0 : Int64) + ((x0.toInt64) * (x0.toInt64))) + ((x1.toInt64) * (x1.toInt64))))), .second, .val (.ref a1), .val (.int (4 : Int32)), .val (.int (2 : Int32)), .val (.double (FP.i2d x2)), .second] [(.double (FP.i2d x2)), (.double (FP.l2d (((0 : Int64) + ((x0.toInt64) * (x0.toInt64))) + ((x1.toInt64) * (x1.toInt64)))))])) _
    refine XS.dload X0.here hx rfl (hb hby d1_27) rfl ?_
    show Steps p.tables e below (s₁.setTop (mkF m 29 #[.val (.ref a1), .val (.double (FP.l2d (((0 : Int64) + ((x0.toInt64) * (x0.toInt64))) + ((x1.toInt64) * (x1.toInt64))))), .second, .val (.ref a1), .val (.int (4 : Int32)), .val (.int (2 : Int32)), .val (.double (FP.i2d x2)), .second] [(.double (FP.i2d x2)), (.double (FP.i2d x2)), (.double (FP.l2d (((0 : Int64) + ((x0.toInt64) * (x0.toInt64))) + ((x1.toInt64) * (x1.toInt64)))))])) _
    refine XS.dmulS X0.here hx rfl (hb hby d1_29) rfl (nn_w (own_sq s2)) (own_sq s2) ?_
    show Steps p.tables e below (s₁.setTop (mkF m 30 #[.val (.ref a1), .val (.double (FP.l2d (((0 : Int64) + ((x0.toInt64) * (x0.toInt64))) + ((x1.toInt64) * (x1.toInt64))))), .second, .val (.ref a1), .val (.int (4 : Int32)), .val (.int (2 : Int32)), .val (.double (FP.i2d x2)), .second] [(.double (FP.l2d ((x2.toInt64) * (x2.toInt64)))), (.double (FP.l2d (((0 : Int64) + ((x0.toInt64) * (x0.toInt64))) + ((x1.toInt64) * (x1.toInt64)))))])) _
    refine XS.daddS X0.here hx rfl (hb hby d1_30) rfl (nn_w u2.2) u2.2 ?_
    show Steps p.tables e below (s₁.setTop (mkF m 31 #[.val (.ref a1), .val (.double (FP.l2d (((0 : Int64) + ((x0.toInt64) * (x0.toInt64))) + ((x1.toInt64) * (x1.toInt64))))), .second, .val (.ref a1), .val (.int (4 : Int32)), .val (.int (2 : Int32)), .val (.double (FP.i2d x2)), .second] [(.double (FP.l2d ((((0 : Int64) + ((x0.toInt64) * (x0.toInt64))) + ((x1.toInt64) * (x1.toInt64))) + ((x2.toInt64) * (x2.toInt64)))))])) _
    refine XS.dstoreN X0.here hx rfl (hb hby d1_31) rfl (l' := #[.val (.ref a1), .val (.double (FP.l2d ((((0 : Int64) + ((x0.toInt64) * (x0.toInt64))) + ((x1.toInt64) * (x1.toInt64))) + ((x2.toInt64) * (x2.toInt64))))), .second, .val (.ref a1), .val (.int (4 : Int32)), .val (.int (2 : Int32)), .val (.double (FP.i2d x2)), .second]) rfl ?_
    show Steps p.tables e below (s₁.setTop (mkF m 32 #[.val (.ref a1), .val (.double (FP.l2d ((((0 : Int64) + ((x0.toInt64) * (x0.toInt64))) + ((x1.toInt64) * (x1.toInt64))) + ((x2.toInt64) * (x2.toInt64))))), .second, .val (.ref a1), .val (.int (4 : Int32)), .val (.int (2 : Int32)), .val (.double (FP.i2d x2)), .second] [])) _
    refine XS.iinc X0.here hx rfl (hb hby d1_32) rfl (l' := #[.val (.ref a1), .val (.double (FP.l2d ((((0 : Int64) + ((x0.toInt64) * (x0.toInt64))) + ((x1.toInt64) * (x1.toInt64))) + ((x2.toInt64) * (x2.toInt64))))), .second, .val (.ref a1), .val (.int (4 : Int32)), .val (.int ((2 : Int32) + (1 : Int32))), .val (.double (FP.i2d x2)), .second]) rfl ?_
    show Steps p.tables e below (s₁.setTop (mkF m 35 #[.val (.ref a1), .val (.double (FP.l2d ((((0 : Int64) + ((x0.toInt64) * (x0.toInt64))) + ((x1.toInt64) * (x1.toInt64))) + ((x2.toInt64) * (x2.toInt64))))), .second, .val (.ref a1), .val (.int (4 : Int32)), .val (.int ((2 : Int32) + (1 : Int32))), .val (.double (FP.i2d x2)), .second] [])) _
    show Steps p.tables e below (s₁.setTop (mkF m 35 #[.val (.ref a1), .val (.double (FP.l2d ((((0 : Int64) + ((x0.toInt64) * (x0.toInt64))) + ((x1.toInt64) * (x1.toInt64))) + ((x2.toInt64) * (x2.toInt64))))), .second, .val (.ref a1), .val (.int (4 : Int32)), .val (.int (3 : Int32)), .val (.double (FP.i2d x2)), .second] [])) _
    refine XS.goto X0.here hx rfl (pc0 := 35) (pc' := 11) rfl (hb hby d1_35) (by decide) (by decide) ?_
    show Steps p.tables e below (s₁.setTop (mkF m 11 #[.val (.ref a1), .val (.double (FP.l2d ((((0 : Int64) + ((x0.toInt64) * (x0.toInt64))) + ((x1.toInt64) * (x1.toInt64))) + ((x2.toInt64) * (x2.toInt64))))), .second, .val (.ref a1), .val (.int (4 : Int32)), .val (.int (3 : Int32)), .val (.double (FP.i2d x2)), .second] [])) _
    refine XS.iload X0.here hx rfl (hb hby d1_11) rfl ?_
    show Steps p.tables e below (s₁.setTop (mkF m 13 #[.val (.ref a1), .val (.double (FP.l2d ((((0 : Int64) + ((x0.toInt64) * (x0.toInt64))) + ((x1.toInt64) * (x1.toInt64))) + ((x2.toInt64) * (x2.toInt64))))), .second, .val (.ref a1), .val (.int (4 : Int32)), .val (.int (3 : Int32)), .val (.double (FP.i2d x2)), .second] [(.int (3 : Int32))])) _
    refine XS.iload X0.here hx rfl (hb hby d1_13) rfl ?_
    show Steps p.tables e below (s₁.setTop (mkF m 15 #[.val (.ref a1), .val (.double (FP.l2d ((((0 : Int64) + ((x0.toInt64) * (x0.toInt64))) + ((x1.toInt64) * (x1.toInt64))) + ((x2.toInt64) * (x2.toInt64))))), .second, .val (.ref a1), .val (.int (4 : Int32)), .val (.int (3 : Int32)), .val (.double (FP.i2d x2)), .second] [(.int (4 : Int32)), (.int (3 : Int32))])) _
    refine XS.icmpNo X0.here hx rfl (hb hby d1_15) rfl (tlt (by decide : (3 : Int32) < (4 : Int32))).2.1 ?_
    show Steps p.tables e below (s₁.setTop (mkF m 18 #[.val (.ref a1), .val (.double (FP.l2d ((((0 : Int64) + ((x0.toInt64) * (x0.toInt64))) + ((x1.toInt64) * (x1.toInt64))) + ((x2.toInt64) * (x2.toInt64))))), .second, .val (.ref a1), .val (.int (4 : Int32)), .val (.int (3 : Int32)), .val (.double (FP.i2d x2)), .second] [])) _
    refine XS.aloadN X0.here hx rfl (hb hby d1_18) rfl rfl ?_
    show Steps p.tables e below (s₁.setTop (mkF m 19 #[.val (.ref a1), .val (.double (FP.l2d ((((0 : Int64) + ((x0.toInt64) * (x0.toInt64))) + ((x1.toInt64) * (x1.toInt64))) + ((x2.toInt64) * (x2.toInt64))))), .second, .val (.ref a1), .val (.int (4 : Int32)), .val (.int (3 : Int32)), .val (.double (FP.i2d x2)), .second] [(.ref a1)])) _
    refine XS.iload X0.here hx rfl (hb hby d1_19) rfl ?_
    exact kt
  obtain ⟨cl10, Ar10, qk10, Sz10, Nn10, Hh10, Gg10⟩ := id V1
  have hin10 : ¬ ((3 : Int32) < 0 ∨ cl10.slots.size ≤ ((3 : Int32)).toNatClampNeg) := inb_of Sz10 ⟨by decide, by decide⟩
  have hat10 : cl10.slots[((3 : Int32)).toNatClampNeg]? = some (.double (FP.i2d x3)) := Hh10.at hin10 rfl
  have pre11 : ∀ t, Steps p.tables e below (s₁.setTop (mkF m 39 #[.val (.ref a1), .val (.double (FP.l2d (((((0 : Int64) + ((x0.toInt64) * (x0.toInt64))) + ((x1.toInt64) * (x1.toInt64))) + ((x2.toInt64) * (x2.toInt64))) + ((x3.toInt64) * (x3.toInt64))))), .second, .val (.ref a1), .val (.int (4 : Int32)), .val (.int (4 : Int32)), .val (.double (FP.i2d x3)), .second] [(.double (FP.l2d (((((0 : Int64) + ((x0.toInt64) * (x0.toInt64))) + ((x1.toInt64) * (x1.toInt64))) + ((x2.toInt64) * (x2.toInt64))) + ((x3.toInt64) * (x3.toInt64)))))])) t → Steps p.tables e below (s₁.setTop (entryFrame m #[(.ref a1)] 8)) t := fun t kt => by
    refine pre9 _ ?_
    show Steps p.tables e below (s₁.setTop (mkF m 21 #[.val (.ref a1), .val (.double (FP.l2d ((((0 : Int64) + ((x0.toInt64) * (x0.toInt64))) + ((x1.toInt64) * (x1.toInt64))) + ((x2.toInt64) * (x2.toInt64))))), .second, .val (.ref a1), .val (.int (4 : Int32)), .val (.int (3 : Int32)), .val (.double (FP.i2d x2)), .second] [(.int (3 : Int32)), (.ref a1)])) _
    refine X0.daload hx (j := (3 : Int32)) (v := (.double (FP.i2d x3))) (by rw [e0]; exact Ar10.1) (State.isArrayOf_alike hZ.alike Ar10.2.1) Ar10.2.2 hin10 hat10 (g := (mkF m 21 #[.val (.ref a1), .val (.double (FP.l2d ((((0 : Int64) + ((x0.toInt64) * (x0.toInt64))) + ((x1.toInt64) * (x1.toInt64))) + ((x2.toInt64) * (x2.toInt64))))), .second, .val (.ref a1), .val (.int (4 : Int32)), .val (.int (3 : Int32)), .val (.double (FP.i2d x2)), .second] [(.int (3 : Int32)), (.ref a1)])) rfl rfl (hb hby d1_21) _ ?_
    show Steps p.tables e below (s₁.setTop (mkF m 22 #[.val (.ref a1), .val (.double (FP.l2d ((((0 : Int64) + ((x0.toInt64) * (x0.toInt64))) + ((x1.toInt64) * (x1.toInt64))) + ((x2.toInt64) * (x2.toInt64))))), .second, .val (.ref a1), .val (.int (4 : Int32)), .val (.int (3 : Int32)), .val (.double (FP.i2d x2)), .second] [(.double (FP.i2d x3))])) _
    refine XS.dstore X0.here hx rfl (hb hby d1_22) rfl (l' := #[.val (.ref a1), .val (.double (FP.l2d ((((0 : Int64) + ((x0.toInt64) * (x0.toInt64))) + ((x1.toInt64) * (x1.toInt64))) + ((x2.toInt64) * (x2.toInt64))))), .second, .val (.ref a1), .val (.int (4 : Int32)), .val (.int (3 : Int32)), .val (.double (FP.i2d x3)), .second]) rfl ?_
    show Steps p.tables e below (s₁.setTop (mkF m 24 #[.val (.ref a1), .val (.double (FP.l2d ((((0 : Int64) + ((x0.toInt64) * (x0.toInt64))) + ((x1.toInt64) * (x1.toInt64))) + ((x2.toInt64) * (x2.toInt64))))), .second, .val (.ref a1), .val (.int (4 : Int32)), .val (.int (3 : Int32)), .val (.double (FP.i2d x3)), .second] [])) _
    refine XS.dloadN X0.here hx rfl (hb hby d1_24) rfl ?_
    show Steps p.tables e below (s₁.setTop (mkF m 25 #[.val (.ref a1), .val (.double (FP.l2d ((((0 : Int64) + ((x0.toInt64) * (x0.toInt64))) + ((x1.toInt64) * (x1.toInt64))) + ((x2.toInt64) * (x2.toInt64))))), .second, .val (.ref a1), .val (.int (4 : Int32)), .val (.int (3 : Int32)), .val (.double (FP.i2d x3)), .second] [(.double (FP.l2d ((((0 : Int64) + ((x0.toInt64) * (x0.toInt64))) + ((x1.toInt64) * (x1.toInt64))) + ((x2.toInt64) * (x2.toInt64)))))])) _
    refine XS.dload X0.here hx rfl (hb hby d1_25) rfl ?_
    show Steps p.tables e below (s₁.setTop (mkF m 27 #[.val (.ref a1), .val (.double (FP.l2d ((((0 : Int64) + ((x0.toInt64) * (x0.toInt64))) + ((x1.toInt64) * (x1.toInt64))) + ((x2.toInt64) * (x2.toInt64))))), .second, .val (.ref a1), .val (.int (4 : Int32)), .val (.int (3 : Int32)), .val (.double (FP.i2d x3)), .second] [(.double (FP.i2d x3)), (.double (FP.l2d ((((0 : Int64) + ((x0.toInt64) * (x0.toInt64))) + ((x1.toInt64) * (x1.toInt64))) + ((x2.toInt64) * (x2.toInt64)))))])) _
    refine XS.dload X0.here hx rfl (hb hby d1_27) rfl ?_
    show Steps p.tables e below (s₁.setTop (mkF m 29 #[.val (.ref a1), .val (.double (FP.l2d ((((0 : Int64) + ((x0.toInt64) * (x0.toInt64))) + ((x1.toInt64) * (x1.toInt64))) + ((x2.toInt64) * (x2.toInt64))))), .second, .val (.ref a1), .val (.int (4 : Int32)), .val (.int (3 : Int32)), .val (.double (FP.i2d x3)), .second] [(.double (FP.i2d x3)), (.double (FP.i2d x3)), (.double (FP.l2d ((((0 : Int64) + ((x0.toInt64) * (x0.toInt64))) + ((x1.toInt64) * (x1.toInt64))) + ((x2.toInt64) * (x2.toInt64)))))])) _
    refine XS.dmulS X0.here hx rfl (hb hby d1_29) rfl (nn_w (own_sq s3)) (own_sq s3) ?_
    show Steps p.tables e below (s₁.setTop (mkF m 30 #[.val (.ref a1), .val (.double (FP.l2d ((((0 : Int64) + ((x0.toInt64) * (x0.toInt64))) + ((x1.toInt64) * (x1.toInt64))) + ((x2.toInt64) * (x2.toInt64))))), .second, .val (.ref a1), .val (.int (4 : Int32)), .val (.int (3 : Int32)), .val (.double (FP.i2d x3)), .second] [(.double (FP.l2d ((x3.toInt64) * (x3.toInt64)))), (.double (FP.l2d ((((0 : Int64) + ((x0.toInt64) * (x0.toInt64))) + ((x1.toInt64) * (x1.toInt64))) + ((x2.toInt64) * (x2.toInt64)))))])) _
    refine XS.daddS X0.here hx rfl (hb hby d1_30) rfl (nn_w u3.2) u3.2 ?_
    show Steps p.tables e below (s₁.setTop (mkF m 31 #[.val (.ref a1), .val (.double (FP.l2d ((((0 : Int64) + ((x0.toInt64) * (x0.toInt64))) + ((x1.toInt64) * (x1.toInt64))) + ((x2.toInt64) * (x2.toInt64))))), .second, .val (.ref a1), .val (.int (4 : Int32)), .val (.int (3 : Int32)), .val (.double (FP.i2d x3)), .second] [(.double (FP.l2d (((((0 : Int64) + ((x0.toInt64) * (x0.toInt64))) + ((x1.toInt64) * (x1.toInt64))) + ((x2.toInt64) * (x2.toInt64))) + ((x3.toInt64) * (x3.toInt64)))))])) _
    refine XS.dstoreN X0.here hx rfl (hb hby d1_31) rfl (l' := #[.val (.ref a1), .val (.double (FP.l2d (((((0 : Int64) + ((x0.toInt64) * (x0.toInt64))) + ((x1.toInt64) * (x1.toInt64))) + ((x2.toInt64) * (x2.toInt64))) + ((x3.toInt64) * (x3.toInt64))))), .second, .val (.ref a1), .val (.int (4 : Int32)), .val (.int (3 : Int32)), .val (.double (FP.i2d x3)), .second]) rfl ?_
    show Steps p.tables e below (s₁.setTop (mkF m 32 #[.val (.ref a1), .val (.double (FP.l2d (((((0 : Int64) + ((x0.toInt64) * (x0.toInt64))) + ((x1.toInt64) * (x1.toInt64))) + ((x2.toInt64) * (x2.toInt64))) + ((x3.toInt64) * (x3.toInt64))))), .second, .val (.ref a1), .val (.int (4 : Int32)), .val (.int (3 : Int32)), .val (.double (FP.i2d x3)), .second] [])) _
    refine XS.iinc X0.here hx rfl (hb hby d1_32) rfl (l' := #[.val (.ref a1), .val (.double (FP.l2d (((((0 : Int64) + ((x0.toInt64) * (x0.toInt64))) + ((x1.toInt64) * (x1.toInt64))) + ((x2.toInt64) * (x2.toInt64))) + ((x3.toInt64) * (x3.toInt64))))), .second, .val (.ref a1), .val (.int (4 : Int32)), .val (.int ((3 : Int32) + (1 : Int32))), .val (.double (FP.i2d x3)), .second]) rfl ?_
    show Steps p.tables e below (s₁.setTop (mkF m 35 #[.val (.ref a1), .val (.double (FP.l2d (((((0 : Int64) + ((x0.toInt64) * (x0.toInt64))) + ((x1.toInt64) * (x1.toInt64))) + ((x2.toInt64) * (x2.toInt64))) + ((x3.toInt64) * (x3.toInt64))))), .second, .val (.ref a1), .val (.int (4 : Int32)), .val (.int ((3 : Int32) + (1 : Int32))), .val (.double (FP.i2d x3)), .second] [])) _
    show Steps p.tables e below (s₁.setTop (mkF m 35 #[.val (.ref a1), .val (.double (FP.l2d (((((0 : Int64) + ((x0.toInt64) * (x0.toInt64))) + ((x1.toInt64) * (x1.toInt64))) + ((x2.toInt64) * (x2.toInt64))) + ((x3.toInt64) * (x3.toInt64))))), .second, .val (.ref a1), .val (.int (4 : Int32)), .val (.int (4 : Int32)), .val (.double (FP.i2d x3)), .second] [])) _
    refine XS.goto X0.here hx rfl (pc0 := 35) (pc' := 11) rfl (hb hby d1_35) (by decide) (by decide) ?_
    show Steps p.tables e below (s₁.setTop (mkF m 11 #[.val (.ref a1), .val (.double (FP.l2d (((((0 : Int64) + ((x0.toInt64) * (x0.toInt64))) + ((x1.toInt64) * (x1.toInt64))) + ((x2.toInt64) * (x2.toInt64))) + ((x3.toInt64) * (x3.toInt64))))), .second, .val (.ref a1), .val (.int (4 : Int32)), .val (.int (4 : Int32)), .val (.double (FP.i2d x3)), .second] [])) _
    refine XS.iload X0.here hx rfl (hb hby d1_11) rfl ?_
    show Steps p.tables e below (s₁.setTop (mkF m 13 #[.val (.ref a1), .val (.double (FP.l2d (((((0 : Int64) + ((x0.toInt64) * (x0.toInt64))) + ((x1.toInt64) * (x1.toInt64))) + ((x2.toInt64) * (x2.toInt64))) + ((x3.toInt64) * (x3.toInt64))))), .second, .val (.ref a1), .val (.int (4 : Int32)), .val (.int (4 : Int32)), .val (.double (FP.i2d x3)), .second] [(.int (4 : Int32))])) _
    refine XS.iload X0.here hx rfl (hb hby d1_13) rfl ?_
    show Steps p.tables e below (s₁.setTop (mkF m 15 #[.val (.ref a1), .val (.double (FP.l2d (((((0 : Int64) + ((x0.toInt64) * (x0.toInt64))) + ((x1.toInt64) * (x1.toInt64))) + ((x2.toInt64) * (x2.toInt64))) + ((x3.toInt64) * (x3.toInt64))))), .second, .val (.ref a1), .val (.int (4 : Int32)), .val (.int (4 : Int32)), .val (.double (FP.i2d x3)), .second] [(.int (4 : Int32)), (.int (4 : Int32))])) _
    refine XS.icmpYes X0.here hx rfl (pc0 := 15) (pc' := 38) rfl (hb hby d1_15) rfl (flt (by decide : ¬ ((4 : Int32) < (4 : Int32)))).2.1 (by decide) (by decide) ?_
    show Steps p.tables e below (s₁.setTop (mkF m 38 #[.val (.ref a1), .val (.double (FP.l2d (((((0 : Int64) + ((x0.toInt64) * (x0.toInt64))) + ((x1.toInt64) * (x1.toInt64))) + ((x2.toInt64) * (x2.toInt64))) + ((x3.toInt64) * (x3.toInt64))))), .second, .val (.ref a1), .val (.int (4 : Int32)), .val (.int (4 : Int32)), .val (.double (FP.i2d x3)), .second] [])) _
    refine XS.dloadN X0.here hx rfl (hb hby d1_38) rfl ?_
    exact kt
  obtain ⟨fs, hr, hrun, hended, hW, hsame⟩ := X0.leave (v := (some (.double (FP.l2d (((((0 : Int64) + ((x0.toInt64) * (x0.toInt64))) + ((x1.toInt64) * (x1.toInt64))) + ((x2.toInt64) * (x2.toInt64))) + ((x3.toInt64) * (x3.toInt64))))))) (fun h => by rw [Bd.returns] at h; cases h)
  refine ⟨_, _, pre11 _ ?_, hrun, hended, _, _, rfl, ?_, ⟨_, rfl⟩, hW, hsame.mono (by decide) (by decide)⟩
  · show Steps p.tables e below (s₁.setTop (mkF m 39 #[.val (.ref a1), .val (.double (FP.l2d (((((0 : Int64) + ((x0.toInt64) * (x0.toInt64))) + ((x1.toInt64) * (x1.toInt64))) + ((x2.toInt64) * (x2.toInt64))) + ((x3.toInt64) * (x3.toInt64))))), .second, .val (.ref a1), .val (.int (4 : Int32)), .val (.int (4 : Int32)), .val (.double (FP.i2d x3)), .second] [(.double (FP.l2d (((((0 : Int64) + ((x0.toInt64) * (x0.toInt64))) + ((x1.toInt64) * (x1.toInt64))) + ((x2.toInt64) * (x2.toInt64))) + ((x3.toInt64) * (x3.toInt64)))))])) _
    exact retOut X0 hx (t := .double) Bd.returns rfl (Or.inr (Or.inr (Or.inl ⟨rfl, rfl, _, rfl⟩))) (hb hby d1_39) hr
  · show Q1m4 Z a1 k1 x0 x1 x2 x3 h0 n0 _ s₁.heap _
    rw [e0]
    exact ⟨rfl, N0, rfl⟩
theorem pn_1 : plainName "com/example/vidura/vidura/stats/ValuesSumOfSquaresPinLaw" = true := by first | (simp [plainName, overriddenIn]; done) | decide +kernel
theorem ef_0 (m : MethodId) (p0 : Int32) (p1 : Int32) (p2 : Int32) (p3 : Int32) (p4 : Int32) : entryFrame m #[(.int p0), (.int p1), (.int p2), (.int p3), (.int p4)] maxLocals = (mkF m 0 #[.val (.int p0), .val (.int p1), .val (.int p2), .val (.int p3), .val (.int p4), .unset, .unset, .unset, .unset, .unset, .unset, .unset, .unset, .unset, .unset] []) := by first | (simp [entryFrame, mkF, argsToLocals, Value.category, maxLocals]; done) | rfl
theorem pd_0 : parseMethodDescriptor "([D)D" = some ⟨[(.array .double)], some .double⟩ := by decide +kernel
def Q0 (Z : State) (p0 : Int32) (p1 : Int32) (p2 : Int32) (p3 : Int32) (p4 : Int32) (h0 : Heap) (n0 : Nat) (v : Option Value) (h : Heap) (L : List Loc) : Prop := v = some (.int (1 : Int32)) ∧ Fr n0 L
set_option maxRecDepth 65536 in
set_option maxHeartbeats 40000000 in
theorem rm0 (l : Launch) (Z : State) (a0 : Array Value) (hw : ∀ d ∈ tables_1, d.before a0 Z = true) (ws : List Jvm.Cond) (p0 : Int32) (p1 : Int32) (p2 : Int32) (p3 : Int32) (p4 : Int32) (h0 : Heap) (n0 : Nat) (Z0 : n0 ≤ h0.size) :
    MetFree l x (head1 (Jvm.Cond.code x code maxLocals ret :: ws) room_1) (fun a U => a = #[(.int p0), (.int p1), (.int p2), (.int p3), (.int p4)] ∧ Z.Warmed39 U.vm ∧ U.heap = h0) (fun _ _ _ _ _ => True) (fun _ U o U' => ∃ v L, o = .returned v ∧ Q0 Z p0 p1 p2 p3 p4 h0 n0 v U'.heap L ∧ FrameEnd U o U' L room_1.cells room_1.slots) := by
  refine MetFree.of_bodySF (plainFor_of_name pn_1) hisR ?_
  intro p e s m args below meth c s₁ Bd hml0 hP hK
  obtain ⟨rfl, hZ, hh⟩ := hP
  have hx := Bd.exec
  have hby := Bd.bytes
  have hml : c.maxLocals = 15 := hml0
  have hown : s.vm.findClass "com/example/vidura/vidura/stats/ValuesSumOfSquaresPinLaw" = some m.cls := findClass_of_methodNamed Bd.named
  have hnm := (name_of_methodNamed Bd.named Bd.method).1
  have X0 : Stand p l e room_1 s m #[(.int p0), (.int p1), (.int p2), (.int p3), (.int p4)] below meth c s₁ [] 0 0 := Stand.of_body Bd
  have e0 : s₁.heap = h0 := by rw [← hh, Bd.state]; rfl
  have N0 := Fr.nil n0
  have pre0 : ∀ t, Steps p.tables e below (s₁.setTop (mkF m 0 #[.val (.int p0), .val (.int p1), .val (.int p2), .val (.int p3), .val (.int p4), .unset, .unset, .unset, .unset, .unset, .unset, .unset, .unset, .unset, .unset] [])) t → Steps p.tables e below (s₁.setTop (entryFrame m #[(.int p0), (.int p1), (.int p2), (.int p3), (.int p4)] maxLocals)) t := fun t k => castTop (ef_0 m p0 p1 p2 p3 p4) k
  have pre1 : ∀ t, Steps p.tables e below (s₁.setTop (mkF m 31 #[.val (.int p0), .val (.int p1), .val (.int p2), .val (.int p3), .val (.int p4), .val (.int (own_n p0)), .val (.int (own_q p1)), .val (.int (own_q p2)), .val (.int (own_q p3)), .unset, .unset, .unset, .unset, .unset, .unset] [(.int (own_q p4))])) t → Steps p.tables e below (s₁.setTop (entryFrame m #[(.int p0), (.int p1), (.int p2), (.int p3), (.int p4)] maxLocals)) t := fun t kt => by
    refine pre0 _ ?_
    show Steps p.tables e below (s₁.setTop (mkF m 0 #[.val (.int p0), .val (.int p1), .val (.int p2), .val (.int p3), .val (.int p4), .unset, .unset, .unset, .unset, .unset, .unset, .unset, .unset, .unset, .unset] [])) _
    refine XS.iloadN X0.here hx rfl (hb hby at_0) rfl ?_
    show Steps p.tables e below (s₁.setTop (mkF m 1 #[.val (.int p0), .val (.int p1), .val (.int p2), .val (.int p3), .val (.int p4), .unset, .unset, .unset, .unset, .unset, .unset, .unset, .unset, .unset, .unset] [(.int p0)])) _
    refine X0.ldcInt hx hown (mvT hZ (hw _ (List.mem_of_getElem? (i := 0) rfl))) (g := (mkF m 1 #[.val (.int p0), .val (.int p1), .val (.int p2), .val (.int p3), .val (.int p4), .unset, .unset, .unset, .unset, .unset, .unset, .unset, .unset, .unset, .unset] [(.int p0)])) rfl (hb hby at_1) _ ?_
    show Steps p.tables e below (s₁.setTop (mkF m 3 #[.val (.int p0), .val (.int p1), .val (.int p2), .val (.int p3), .val (.int p4), .unset, .unset, .unset, .unset, .unset, .unset, .unset, .unset, .unset, .unset] [(.int (2147483647 : Int32)), (.int p0)])) _
    refine XS.iand X0.here hx rfl (hb hby at_3) rfl ?_
    show Steps p.tables e below (s₁.setTop (mkF m 4 #[.val (.int p0), .val (.int p1), .val (.int p2), .val (.int p3), .val (.int p4), .unset, .unset, .unset, .unset, .unset, .unset, .unset, .unset, .unset, .unset] [(.int (p0 &&& (2147483647 : Int32)))])) _
    refine XS.iconst X0.here hx rfl (hb hby at_4) ?_
    show Steps p.tables e below (s₁.setTop (mkF m 5 #[.val (.int p0), .val (.int p1), .val (.int p2), .val (.int p3), .val (.int p4), .unset, .unset, .unset, .unset, .unset, .unset, .unset, .unset, .unset, .unset] [(.int (5 : Int32)), (.int (p0 &&& (2147483647 : Int32)))])) _
    refine Jvm.RoadKit.iremM X0 hx rfl (hb hby at_5) rfl (by decide) ?_
    show Steps p.tables e below (s₁.setTop (mkF m 6 #[.val (.int p0), .val (.int p1), .val (.int p2), .val (.int p3), .val (.int p4), .unset, .unset, .unset, .unset, .unset, .unset, .unset, .unset, .unset, .unset] [(.int (own_n p0))])) _
    show Steps p.tables e below (s₁.setTop (mkF m 6 #[.val (.int p0), .val (.int p1), .val (.int p2), .val (.int p3), .val (.int p4), .unset, .unset, .unset, .unset, .unset, .unset, .unset, .unset, .unset, .unset] [(.int (own_n p0))])) _
    refine XS.istore X0.here hx rfl (hb hby at_6) rfl (l' := #[.val (.int p0), .val (.int p1), .val (.int p2), .val (.int p3), .val (.int p4), .val (.int (own_n p0)), .unset, .unset, .unset, .unset, .unset, .unset, .unset, .unset, .unset]) rfl ?_
    show Steps p.tables e below (s₁.setTop (mkF m 8 #[.val (.int p0), .val (.int p1), .val (.int p2), .val (.int p3), .val (.int p4), .val (.int (own_n p0)), .unset, .unset, .unset, .unset, .unset, .unset, .unset, .unset, .unset] [])) _
    refine XS.iloadN X0.here hx rfl (hb hby at_8) rfl ?_
    show Steps p.tables e below (s₁.setTop (mkF m 9 #[.val (.int p0), .val (.int p1), .val (.int p2), .val (.int p3), .val (.int p4), .val (.int (own_n p0)), .unset, .unset, .unset, .unset, .unset, .unset, .unset, .unset, .unset] [(.int p1)])) _
    refine X0.ldcInt hx hown (mvT hZ (hw _ (List.mem_of_getElem? (i := 1) rfl))) (g := (mkF m 9 #[.val (.int p0), .val (.int p1), .val (.int p2), .val (.int p3), .val (.int p4), .val (.int (own_n p0)), .unset, .unset, .unset, .unset, .unset, .unset, .unset, .unset, .unset] [(.int p1)])) rfl (hb hby at_9) _ ?_
    show Steps p.tables e below (s₁.setTop (mkF m 11 #[.val (.int p0), .val (.int p1), .val (.int p2), .val (.int p3), .val (.int p4), .val (.int (own_n p0)), .unset, .unset, .unset, .unset, .unset, .unset, .unset, .unset, .unset] [(.int (33554432 : Int32)), (.int p1)])) _
    refine Jvm.RoadKit.iremM X0 hx rfl (hb hby at_11) rfl (by decide) ?_
    show Steps p.tables e below (s₁.setTop (mkF m 12 #[.val (.int p0), .val (.int p1), .val (.int p2), .val (.int p3), .val (.int p4), .val (.int (own_n p0)), .unset, .unset, .unset, .unset, .unset, .unset, .unset, .unset, .unset] [(.int (own_q p1))])) _
    show Steps p.tables e below (s₁.setTop (mkF m 12 #[.val (.int p0), .val (.int p1), .val (.int p2), .val (.int p3), .val (.int p4), .val (.int (own_n p0)), .unset, .unset, .unset, .unset, .unset, .unset, .unset, .unset, .unset] [(.int (own_q p1))])) _
    refine XS.istore X0.here hx rfl (hb hby at_12) rfl (l' := #[.val (.int p0), .val (.int p1), .val (.int p2), .val (.int p3), .val (.int p4), .val (.int (own_n p0)), .val (.int (own_q p1)), .unset, .unset, .unset, .unset, .unset, .unset, .unset, .unset]) rfl ?_
    show Steps p.tables e below (s₁.setTop (mkF m 14 #[.val (.int p0), .val (.int p1), .val (.int p2), .val (.int p3), .val (.int p4), .val (.int (own_n p0)), .val (.int (own_q p1)), .unset, .unset, .unset, .unset, .unset, .unset, .unset, .unset] [])) _
    refine XS.iloadN X0.here hx rfl (hb hby at_14) rfl ?_
    show Steps p.tables e below (s₁.setTop (mkF m 15 #[.val (.int p0), .val (.int p1), .val (.int p2), .val (.int p3), .val (.int p4), .val (.int (own_n p0)), .val (.int (own_q p1)), .unset, .unset, .unset, .unset, .unset, .unset, .unset, .unset] [(.int p2)])) _
    refine X0.ldcInt hx hown (mvT hZ (hw _ (List.mem_of_getElem? (i := 1) rfl))) (g := (mkF m 15 #[.val (.int p0), .val (.int p1), .val (.int p2), .val (.int p3), .val (.int p4), .val (.int (own_n p0)), .val (.int (own_q p1)), .unset, .unset, .unset, .unset, .unset, .unset, .unset, .unset] [(.int p2)])) rfl (hb hby at_15) _ ?_
    show Steps p.tables e below (s₁.setTop (mkF m 17 #[.val (.int p0), .val (.int p1), .val (.int p2), .val (.int p3), .val (.int p4), .val (.int (own_n p0)), .val (.int (own_q p1)), .unset, .unset, .unset, .unset, .unset, .unset, .unset, .unset] [(.int (33554432 : Int32)), (.int p2)])) _
    refine Jvm.RoadKit.iremM X0 hx rfl (hb hby at_17) rfl (by decide) ?_
    show Steps p.tables e below (s₁.setTop (mkF m 18 #[.val (.int p0), .val (.int p1), .val (.int p2), .val (.int p3), .val (.int p4), .val (.int (own_n p0)), .val (.int (own_q p1)), .unset, .unset, .unset, .unset, .unset, .unset, .unset, .unset] [(.int (own_q p2))])) _
    show Steps p.tables e below (s₁.setTop (mkF m 18 #[.val (.int p0), .val (.int p1), .val (.int p2), .val (.int p3), .val (.int p4), .val (.int (own_n p0)), .val (.int (own_q p1)), .unset, .unset, .unset, .unset, .unset, .unset, .unset, .unset] [(.int (own_q p2))])) _
    refine XS.istore X0.here hx rfl (hb hby at_18) rfl (l' := #[.val (.int p0), .val (.int p1), .val (.int p2), .val (.int p3), .val (.int p4), .val (.int (own_n p0)), .val (.int (own_q p1)), .val (.int (own_q p2)), .unset, .unset, .unset, .unset, .unset, .unset, .unset]) rfl ?_
    show Steps p.tables e below (s₁.setTop (mkF m 20 #[.val (.int p0), .val (.int p1), .val (.int p2), .val (.int p3), .val (.int p4), .val (.int (own_n p0)), .val (.int (own_q p1)), .val (.int (own_q p2)), .unset, .unset, .unset, .unset, .unset, .unset, .unset] [])) _
    refine XS.iloadN X0.here hx rfl (hb hby at_20) rfl ?_
    show Steps p.tables e below (s₁.setTop (mkF m 21 #[.val (.int p0), .val (.int p1), .val (.int p2), .val (.int p3), .val (.int p4), .val (.int (own_n p0)), .val (.int (own_q p1)), .val (.int (own_q p2)), .unset, .unset, .unset, .unset, .unset, .unset, .unset] [(.int p3)])) _
    refine X0.ldcInt hx hown (mvT hZ (hw _ (List.mem_of_getElem? (i := 1) rfl))) (g := (mkF m 21 #[.val (.int p0), .val (.int p1), .val (.int p2), .val (.int p3), .val (.int p4), .val (.int (own_n p0)), .val (.int (own_q p1)), .val (.int (own_q p2)), .unset, .unset, .unset, .unset, .unset, .unset, .unset] [(.int p3)])) rfl (hb hby at_21) _ ?_
    show Steps p.tables e below (s₁.setTop (mkF m 23 #[.val (.int p0), .val (.int p1), .val (.int p2), .val (.int p3), .val (.int p4), .val (.int (own_n p0)), .val (.int (own_q p1)), .val (.int (own_q p2)), .unset, .unset, .unset, .unset, .unset, .unset, .unset] [(.int (33554432 : Int32)), (.int p3)])) _
    refine Jvm.RoadKit.iremM X0 hx rfl (hb hby at_23) rfl (by decide) ?_
    show Steps p.tables e below (s₁.setTop (mkF m 24 #[.val (.int p0), .val (.int p1), .val (.int p2), .val (.int p3), .val (.int p4), .val (.int (own_n p0)), .val (.int (own_q p1)), .val (.int (own_q p2)), .unset, .unset, .unset, .unset, .unset, .unset, .unset] [(.int (own_q p3))])) _
    show Steps p.tables e below (s₁.setTop (mkF m 24 #[.val (.int p0), .val (.int p1), .val (.int p2), .val (.int p3), .val (.int p4), .val (.int (own_n p0)), .val (.int (own_q p1)), .val (.int (own_q p2)), .unset, .unset, .unset, .unset, .unset, .unset, .unset] [(.int (own_q p3))])) _
    refine XS.istore X0.here hx rfl (hb hby at_24) rfl (l' := #[.val (.int p0), .val (.int p1), .val (.int p2), .val (.int p3), .val (.int p4), .val (.int (own_n p0)), .val (.int (own_q p1)), .val (.int (own_q p2)), .val (.int (own_q p3)), .unset, .unset, .unset, .unset, .unset, .unset]) rfl ?_
    show Steps p.tables e below (s₁.setTop (mkF m 26 #[.val (.int p0), .val (.int p1), .val (.int p2), .val (.int p3), .val (.int p4), .val (.int (own_n p0)), .val (.int (own_q p1)), .val (.int (own_q p2)), .val (.int (own_q p3)), .unset, .unset, .unset, .unset, .unset, .unset] [])) _
    refine XS.iload X0.here hx rfl (hb hby at_26) rfl ?_
    show Steps p.tables e below (s₁.setTop (mkF m 28 #[.val (.int p0), .val (.int p1), .val (.int p2), .val (.int p3), .val (.int p4), .val (.int (own_n p0)), .val (.int (own_q p1)), .val (.int (own_q p2)), .val (.int (own_q p3)), .unset, .unset, .unset, .unset, .unset, .unset] [(.int p4)])) _
    refine X0.ldcInt hx hown (mvT hZ (hw _ (List.mem_of_getElem? (i := 1) rfl))) (g := (mkF m 28 #[.val (.int p0), .val (.int p1), .val (.int p2), .val (.int p3), .val (.int p4), .val (.int (own_n p0)), .val (.int (own_q p1)), .val (.int (own_q p2)), .val (.int (own_q p3)), .unset, .unset, .unset, .unset, .unset, .unset] [(.int p4)])) rfl (hb hby at_28) _ ?_
    show Steps p.tables e below (s₁.setTop (mkF m 30 #[.val (.int p0), .val (.int p1), .val (.int p2), .val (.int p3), .val (.int p4), .val (.int (own_n p0)), .val (.int (own_q p1)), .val (.int (own_q p2)), .val (.int (own_q p3)), .unset, .unset, .unset, .unset, .unset, .unset] [(.int (33554432 : Int32)), (.int p4)])) _
    refine Jvm.RoadKit.iremM X0 hx rfl (hb hby at_30) rfl (by decide) ?_
    show Steps p.tables e below (s₁.setTop (mkF m 31 #[.val (.int p0), .val (.int p1), .val (.int p2), .val (.int p3), .val (.int p4), .val (.int (own_n p0)), .val (.int (own_q p1)), .val (.int (own_q p2)), .val (.int (own_q p3)), .unset, .unset, .unset, .unset, .unset, .unset] [(.int (own_q p4))])) _
    exact kt
  rcases own_nf p0 with hn | hn | hn | hn | hn
  · have pre2 : ∀ t, Steps p.tables e below (s₁.setTop (mkF m 39 #[.val (.int p0), .val (.int p1), .val (.int p2), .val (.int p3), .val (.int p4), .val (.int (0 : Int32)), .val (.int (own_q p1)), .val (.int (own_q p2)), .val (.int (own_q p3)), .val (.int (own_q p4)), .unset, .unset, .unset, .unset, .unset] [(.int (0 : Int32))])) t → Steps p.tables e below (s₁.setTop (entryFrame m #[(.int p0), (.int p1), (.int p2), (.int p3), (.int p4)] maxLocals)) t := fun t kt => by
      refine pre1 _ ?_
      show Steps p.tables e below (s₁.setTop (mkF m 31 #[.val (.int p0), .val (.int p1), .val (.int p2), .val (.int p3), .val (.int p4), .val (.int (own_n p0)), .val (.int (own_q p1)), .val (.int (own_q p2)), .val (.int (own_q p3)), .unset, .unset, .unset, .unset, .unset, .unset] [(.int (own_q p4))])) _
      refine XS.istore X0.here hx rfl (hb hby at_31) rfl (l' := #[.val (.int p0), .val (.int p1), .val (.int p2), .val (.int p3), .val (.int p4), .val (.int (own_n p0)), .val (.int (own_q p1)), .val (.int (own_q p2)), .val (.int (own_q p3)), .val (.int (own_q p4)), .unset, .unset, .unset, .unset, .unset]) rfl ?_
      show Steps p.tables e below (s₁.setTop (mkF m 33 #[.val (.int p0), .val (.int p1), .val (.int p2), .val (.int p3), .val (.int p4), .val (.int (own_n p0)), .val (.int (own_q p1)), .val (.int (own_q p2)), .val (.int (own_q p3)), .val (.int (own_q p4)), .unset, .unset, .unset, .unset, .unset] [])) _
      rw [show (own_n p0) = (0 : Int32) from hn]
      show Steps p.tables e below (s₁.setTop (mkF m 33 #[.val (.int p0), .val (.int p1), .val (.int p2), .val (.int p3), .val (.int p4), .val (.int (0 : Int32)), .val (.int (own_q p1)), .val (.int (own_q p2)), .val (.int (own_q p3)), .val (.int (own_q p4)), .unset, .unset, .unset, .unset, .unset] [])) _
      refine XS.iload X0.here hx rfl (hb hby at_33) rfl ?_
      show Steps p.tables e below (s₁.setTop (mkF m 35 #[.val (.int p0), .val (.int p1), .val (.int p2), .val (.int p3), .val (.int p4), .val (.int (0 : Int32)), .val (.int (own_q p1)), .val (.int (own_q p2)), .val (.int (own_q p3)), .val (.int (own_q p4)), .unset, .unset, .unset, .unset, .unset] [(.int (0 : Int32))])) _
      refine XS.ifNo X0.here hx rfl (hb hby at_35) rfl ((if0 _ _).trans (teq (by decide : (0 : Int32) = (0 : Int32))).2) ?_
      show Steps p.tables e below (s₁.setTop (mkF m 38 #[.val (.int p0), .val (.int p1), .val (.int p2), .val (.int p3), .val (.int p4), .val (.int (0 : Int32)), .val (.int (own_q p1)), .val (.int (own_q p2)), .val (.int (own_q p3)), .val (.int (own_q p4)), .unset, .unset, .unset, .unset, .unset] [])) _
      refine XS.iconst X0.here hx rfl (hb hby at_38) ?_
      exact kt
    obtain ⟨T3, h3, k3, X3, e3, E3, A3, st3⟩ := newP X0 hx hZ (hw _ (List.mem_of_getElem? (i := 2) rfl)) e0 (g := (mkF m 39 #[.val (.int p0), .val (.int p1), .val (.int p2), .val (.int p3), .val (.int p4), .val (.int (0 : Int32)), .val (.int (own_q p1)), .val (.int (own_q p2)), .val (.int (own_q p3)), .val (.int (own_q p4)), .unset, .unset, .unset, .unset, .unset] [(.int (0 : Int32))])) rfl (hb hby at_39) rfl (by decide) (cap := 0) (by decide) (by decide) (by decide) (by decide)
    obtain ⟨b3, gq3⟩ : ∃ z, z = h0.size := ⟨_, rfl⟩
    rw [← gq3] at A3 st3
    have gg_b3 : n0 ≤ b3 := Nat.le_trans Z0 (Nat.le_of_eq gq3.symm)
    have V3 : Arv Z h3 b3 k3 .double (0 : Int32) [] (.double 0) := Arv.new A3 (by decide)
    have pre4 : ∀ t, Steps p.tables e below (T3.setTop (mkF m 41 #[.val (.int p0), .val (.int p1), .val (.int p2), .val (.int p3), .val (.int p4), .val (.int (0 : Int32)), .val (.int (own_q p1)), .val (.int (own_q p2)), .val (.int (own_q p3)), .val (.int (own_q p4)), .unset, .unset, .unset, .unset, .unset] [(.ref b3)])) t → Steps p.tables e below (s₁.setTop (entryFrame m #[(.int p0), (.int p1), (.int p2), (.int p3), (.int p4)] maxLocals)) t := fun t kt => pre2 _ (st3 _ kt)
    have z5 : n0 ≤ h3.size := (Nat.le_trans Z0 E3.1)
    have pre6 : ∀ t, Steps p.tables e below (T3.setTop (mkF m 230 #[.val (.int p0), .val (.int p1), .val (.int p2), .val (.int p3), .val (.int p4), .val (.int (0 : Int32)), .val (.int (own_q p1)), .val (.int (own_q p2)), .val (.int (own_q p3)), .val (.int (own_q p4)), .val (.ref b3), .val (.long (0 : Int64)), .second, .unset, .unset] [(.ref b3)])) t → Steps p.tables e below (s₁.setTop (entryFrame m #[(.int p0), (.int p1), (.int p2), (.int p3), (.int p4)] maxLocals)) t := fun t kt => by
      refine pre4 _ ?_
      show Steps p.tables e below (T3.setTop (mkF m 41 #[.val (.int p0), .val (.int p1), .val (.int p2), .val (.int p3), .val (.int p4), .val (.int (0 : Int32)), .val (.int (own_q p1)), .val (.int (own_q p2)), .val (.int (own_q p3)), .val (.int (own_q p4)), .unset, .unset, .unset, .unset, .unset] [(.ref b3)])) _
      refine XS.astore X3.here hx rfl (hb hby at_41) rfl rfl (l' := #[.val (.int p0), .val (.int p1), .val (.int p2), .val (.int p3), .val (.int p4), .val (.int (0 : Int32)), .val (.int (own_q p1)), .val (.int (own_q p2)), .val (.int (own_q p3)), .val (.int (own_q p4)), .val (.ref b3), .unset, .unset, .unset, .unset]) rfl ?_
      show Steps p.tables e below (T3.setTop (mkF m 43 #[.val (.int p0), .val (.int p1), .val (.int p2), .val (.int p3), .val (.int p4), .val (.int (0 : Int32)), .val (.int (own_q p1)), .val (.int (own_q p2)), .val (.int (own_q p3)), .val (.int (own_q p4)), .val (.ref b3), .unset, .unset, .unset, .unset] [])) _
      refine XS.goto X3.here hx rfl (pc0 := 43) (pc' := 153) rfl (hb hby at_43) (by decide) (by decide) ?_
      show Steps p.tables e below (T3.setTop (mkF m 153 #[.val (.int p0), .val (.int p1), .val (.int p2), .val (.int p3), .val (.int p4), .val (.int (0 : Int32)), .val (.int (own_q p1)), .val (.int (own_q p2)), .val (.int (own_q p3)), .val (.int (own_q p4)), .val (.ref b3), .unset, .unset, .unset, .unset] [])) _
      refine XS.lconst X3.here hx rfl (hb hby at_153) ?_
      show Steps p.tables e below (T3.setTop (mkF m 154 #[.val (.int p0), .val (.int p1), .val (.int p2), .val (.int p3), .val (.int p4), .val (.int (0 : Int32)), .val (.int (own_q p1)), .val (.int (own_q p2)), .val (.int (own_q p3)), .val (.int (own_q p4)), .val (.ref b3), .unset, .unset, .unset, .unset] [(.long (0 : Int64))])) _
      refine XS.lstore X3.here hx rfl (hb hby at_154) rfl (l' := #[.val (.int p0), .val (.int p1), .val (.int p2), .val (.int p3), .val (.int p4), .val (.int (0 : Int32)), .val (.int (own_q p1)), .val (.int (own_q p2)), .val (.int (own_q p3)), .val (.int (own_q p4)), .val (.ref b3), .val (.long (0 : Int64)), .second, .unset, .unset]) rfl ?_
      show Steps p.tables e below (T3.setTop (mkF m 156 #[.val (.int p0), .val (.int p1), .val (.int p2), .val (.int p3), .val (.int p4), .val (.int (0 : Int32)), .val (.int (own_q p1)), .val (.int (own_q p2)), .val (.int (own_q p3)), .val (.int (own_q p4)), .val (.ref b3), .val (.long (0 : Int64)), .second, .unset, .unset] [])) _
      refine XS.iload X3.here hx rfl (hb hby at_156) rfl ?_
      show Steps p.tables e below (T3.setTop (mkF m 158 #[.val (.int p0), .val (.int p1), .val (.int p2), .val (.int p3), .val (.int p4), .val (.int (0 : Int32)), .val (.int (own_q p1)), .val (.int (own_q p2)), .val (.int (own_q p3)), .val (.int (own_q p4)), .val (.ref b3), .val (.long (0 : Int64)), .second, .unset, .unset] [(.int (0 : Int32))])) _
      refine XS.iconst X3.here hx rfl (hb hby at_158) ?_
      show Steps p.tables e below (T3.setTop (mkF m 159 #[.val (.int p0), .val (.int p1), .val (.int p2), .val (.int p3), .val (.int p4), .val (.int (0 : Int32)), .val (.int (own_q p1)), .val (.int (own_q p2)), .val (.int (own_q p3)), .val (.int (own_q p4)), .val (.ref b3), .val (.long (0 : Int64)), .second, .unset, .unset] [(.int (1 : Int32)), (.int (0 : Int32))])) _
      refine XS.icmpYes X3.here hx rfl (pc0 := 159) (pc' := 174) rfl (hb hby at_159) rfl (tlt (by decide : (0 : Int32) < (1 : Int32))).1 (by decide) (by decide) ?_
      show Steps p.tables e below (T3.setTop (mkF m 174 #[.val (.int p0), .val (.int p1), .val (.int p2), .val (.int p3), .val (.int p4), .val (.int (0 : Int32)), .val (.int (own_q p1)), .val (.int (own_q p2)), .val (.int (own_q p3)), .val (.int (own_q p4)), .val (.ref b3), .val (.long (0 : Int64)), .second, .unset, .unset] [])) _
      refine XS.iload X3.here hx rfl (hb hby at_174) rfl ?_
      show Steps p.tables e below (T3.setTop (mkF m 176 #[.val (.int p0), .val (.int p1), .val (.int p2), .val (.int p3), .val (.int p4), .val (.int (0 : Int32)), .val (.int (own_q p1)), .val (.int (own_q p2)), .val (.int (own_q p3)), .val (.int (own_q p4)), .val (.ref b3), .val (.long (0 : Int64)), .second, .unset, .unset] [(.int (0 : Int32))])) _
      refine XS.iconst X3.here hx rfl (hb hby at_176) ?_
      show Steps p.tables e below (T3.setTop (mkF m 177 #[.val (.int p0), .val (.int p1), .val (.int p2), .val (.int p3), .val (.int p4), .val (.int (0 : Int32)), .val (.int (own_q p1)), .val (.int (own_q p2)), .val (.int (own_q p3)), .val (.int (own_q p4)), .val (.ref b3), .val (.long (0 : Int64)), .second, .unset, .unset] [(.int (2 : Int32)), (.int (0 : Int32))])) _
      refine XS.icmpYes X3.here hx rfl (pc0 := 177) (pc' := 192) rfl (hb hby at_177) rfl (tlt (by decide : (0 : Int32) < (2 : Int32))).1 (by decide) (by decide) ?_
      show Steps p.tables e below (T3.setTop (mkF m 192 #[.val (.int p0), .val (.int p1), .val (.int p2), .val (.int p3), .val (.int p4), .val (.int (0 : Int32)), .val (.int (own_q p1)), .val (.int (own_q p2)), .val (.int (own_q p3)), .val (.int (own_q p4)), .val (.ref b3), .val (.long (0 : Int64)), .second, .unset, .unset] [])) _
      refine XS.iload X3.here hx rfl (hb hby at_192) rfl ?_
      show Steps p.tables e below (T3.setTop (mkF m 194 #[.val (.int p0), .val (.int p1), .val (.int p2), .val (.int p3), .val (.int p4), .val (.int (0 : Int32)), .val (.int (own_q p1)), .val (.int (own_q p2)), .val (.int (own_q p3)), .val (.int (own_q p4)), .val (.ref b3), .val (.long (0 : Int64)), .second, .unset, .unset] [(.int (0 : Int32))])) _
      refine XS.iconst X3.here hx rfl (hb hby at_194) ?_
      show Steps p.tables e below (T3.setTop (mkF m 195 #[.val (.int p0), .val (.int p1), .val (.int p2), .val (.int p3), .val (.int p4), .val (.int (0 : Int32)), .val (.int (own_q p1)), .val (.int (own_q p2)), .val (.int (own_q p3)), .val (.int (own_q p4)), .val (.ref b3), .val (.long (0 : Int64)), .second, .unset, .unset] [(.int (3 : Int32)), (.int (0 : Int32))])) _
      refine XS.icmpYes X3.here hx rfl (pc0 := 195) (pc' := 210) rfl (hb hby at_195) rfl (tlt (by decide : (0 : Int32) < (3 : Int32))).1 (by decide) (by decide) ?_
      show Steps p.tables e below (T3.setTop (mkF m 210 #[.val (.int p0), .val (.int p1), .val (.int p2), .val (.int p3), .val (.int p4), .val (.int (0 : Int32)), .val (.int (own_q p1)), .val (.int (own_q p2)), .val (.int (own_q p3)), .val (.int (own_q p4)), .val (.ref b3), .val (.long (0 : Int64)), .second, .unset, .unset] [])) _
      refine XS.iload X3.here hx rfl (hb hby at_210) rfl ?_
      show Steps p.tables e below (T3.setTop (mkF m 212 #[.val (.int p0), .val (.int p1), .val (.int p2), .val (.int p3), .val (.int p4), .val (.int (0 : Int32)), .val (.int (own_q p1)), .val (.int (own_q p2)), .val (.int (own_q p3)), .val (.int (own_q p4)), .val (.ref b3), .val (.long (0 : Int64)), .second, .unset, .unset] [(.int (0 : Int32))])) _
      refine XS.iconst X3.here hx rfl (hb hby at_212) ?_
      show Steps p.tables e below (T3.setTop (mkF m 213 #[.val (.int p0), .val (.int p1), .val (.int p2), .val (.int p3), .val (.int p4), .val (.int (0 : Int32)), .val (.int (own_q p1)), .val (.int (own_q p2)), .val (.int (own_q p3)), .val (.int (own_q p4)), .val (.ref b3), .val (.long (0 : Int64)), .second, .unset, .unset] [(.int (4 : Int32)), (.int (0 : Int32))])) _
      refine XS.icmpYes X3.here hx rfl (pc0 := 213) (pc' := 228) rfl (hb hby at_213) rfl (tlt (by decide : (0 : Int32) < (4 : Int32))).1 (by decide) (by decide) ?_
      show Steps p.tables e below (T3.setTop (mkF m 228 #[.val (.int p0), .val (.int p1), .val (.int p2), .val (.int p3), .val (.int p4), .val (.int (0 : Int32)), .val (.int (own_q p1)), .val (.int (own_q p2)), .val (.int (own_q p3)), .val (.int (own_q p4)), .val (.ref b3), .val (.long (0 : Int64)), .second, .unset, .unset] [])) _
      refine XS.aload X3.here hx rfl (hb hby at_228) rfl rfl ?_
      exact kt
    obtain ⟨_, _, ⟨T7, L7, kc7, nc7⟩, -, X7, ⟨Lc7, hQ7, l7, y7, z7⟩, st7⟩ := Jvm.LawKit.callS X3 hx (y := (⟨"com/example/vidura/vidura/stats/Values", "sumOfSquares", "([D)D"⟩ : MethodName)) hown (mvT hZ (hw _ (List.mem_of_getElem? (i := 3) rfl))) (mvT hZ (hw _ (List.mem_of_getElem? (i := 4) rfl))) (mvT hZ (hw _ (List.mem_of_getElem? (i := 5) rfl))) (mvT hZ (hw _ (List.mem_of_getElem? (i := 6) rfl))) (by decide) (backOf (W := 0) (rm1m0 l Z a0 hw [] b3 k3  h3 n0 z5 V3 ) hZ (hw _ (List.mem_of_getElem? (i := 6) rfl)) (hw _ (List.mem_of_getElem? (i := 5) rfl)) (by decide) (by decide)) (g := (mkF m 230 #[.val (.int p0), .val (.int p1), .val (.int p2), .val (.int p3), .val (.int p4), .val (.int (0 : Int32)), .val (.int (own_q p1)), .val (.int (own_q p2)), .val (.int (own_q p3)), .val (.int (own_q p4)), .val (.ref b3), .val (.long (0 : Int64)), .second, .unset, .unset] [(.ref b3)])) rfl (by rw [hml]; rfl) (argsL := [(.ref b3)]) (rest := []) (lenOf pd_0 rfl) rfl (by show 2 * 0 + _ ≤ _; exact Nat.le_of_eq rfl) (hb hby at_230) (fun _ _ => ⟨rfl, e3, (by decide : 1 + 0 ≤ _), (by decide : 0 + 0 ≤ _)⟩)
    dsimp only [Pt.U, Pt.locs, Pt.cells, Pt.slots] at X7 l7 y7 z7 st7 hQ7
    subst l7 y7 z7
    obtain ⟨rfl, N7q, he7⟩ := hQ7
    have N7 := Fr.app N0 N7q
    have pre8 : ∀ t, Steps p.tables e below (T7.setTop (mkF m 233 #[.val (.int p0), .val (.int p1), .val (.int p2), .val (.int p3), .val (.int p4), .val (.int (0 : Int32)), .val (.int (own_q p1)), .val (.int (own_q p2)), .val (.int (own_q p3)), .val (.int (own_q p4)), .val (.ref b3), .val (.long (0 : Int64)), .second, .unset, .unset] [(.double (FP.l2d (0 : Int64)))])) t → Steps p.tables e below (s₁.setTop (entryFrame m #[(.int p0), (.int p1), (.int p2), (.int p3), (.int p4)] maxLocals)) t := fun t kt => pre6 _ (st7 _ kt)
    have pre9 : ∀ t, Steps p.tables e below (T7.setTop (mkF m 249 #[.val (.int p0), .val (.int p1), .val (.int p2), .val (.int p3), .val (.int p4), .val (.int (0 : Int32)), .val (.int (own_q p1)), .val (.int (own_q p2)), .val (.int (own_q p3)), .val (.int (own_q p4)), .val (.ref b3), .val (.long (0 : Int64)), .second, .val (.double (FP.l2d (0 : Int64))), .second] [(.int (1 : Int32))])) t → Steps p.tables e below (s₁.setTop (entryFrame m #[(.int p0), (.int p1), (.int p2), (.int p3), (.int p4)] maxLocals)) t := fun t kt => by
      refine pre8 _ ?_
      show Steps p.tables e below (T7.setTop (mkF m 233 #[.val (.int p0), .val (.int p1), .val (.int p2), .val (.int p3), .val (.int p4), .val (.int (0 : Int32)), .val (.int (own_q p1)), .val (.int (own_q p2)), .val (.int (own_q p3)), .val (.int (own_q p4)), .val (.ref b3), .val (.long (0 : Int64)), .second, .unset, .unset] [(.double (FP.l2d (0 : Int64)))])) _
      refine XS.dstore X7.here hx rfl (hb hby at_233) rfl (l' := #[.val (.int p0), .val (.int p1), .val (.int p2), .val (.int p3), .val (.int p4), .val (.int (0 : Int32)), .val (.int (own_q p1)), .val (.int (own_q p2)), .val (.int (own_q p3)), .val (.int (own_q p4)), .val (.ref b3), .val (.long (0 : Int64)), .second, .val (.double (FP.l2d (0 : Int64))), .second]) rfl ?_
      show Steps p.tables e below (T7.setTop (mkF m 235 #[.val (.int p0), .val (.int p1), .val (.int p2), .val (.int p3), .val (.int p4), .val (.int (0 : Int32)), .val (.int (own_q p1)), .val (.int (own_q p2)), .val (.int (own_q p3)), .val (.int (own_q p4)), .val (.ref b3), .val (.long (0 : Int64)), .second, .val (.double (FP.l2d (0 : Int64))), .second] [])) _
      refine XS.dload X7.here hx rfl (hb hby at_235) rfl ?_
      show Steps p.tables e below (T7.setTop (mkF m 237 #[.val (.int p0), .val (.int p1), .val (.int p2), .val (.int p3), .val (.int p4), .val (.int (0 : Int32)), .val (.int (own_q p1)), .val (.int (own_q p2)), .val (.int (own_q p3)), .val (.int (own_q p4)), .val (.ref b3), .val (.long (0 : Int64)), .second, .val (.double (FP.l2d (0 : Int64))), .second] [(.double (FP.l2d (0 : Int64)))])) _
      refine XS.lload X7.here hx rfl (hb hby at_237) rfl ?_
      show Steps p.tables e below (T7.setTop (mkF m 239 #[.val (.int p0), .val (.int p1), .val (.int p2), .val (.int p3), .val (.int p4), .val (.int (0 : Int32)), .val (.int (own_q p1)), .val (.int (own_q p2)), .val (.int (own_q p3)), .val (.int (own_q p4)), .val (.ref b3), .val (.long (0 : Int64)), .second, .val (.double (FP.l2d (0 : Int64))), .second] [(.long (0 : Int64)), (.double (FP.l2d (0 : Int64)))])) _
      refine XS.l2dS X7.here hx rfl (hb hby at_239) rfl rfl ?_
      show Steps p.tables e below (T7.setTop (mkF m 240 #[.val (.int p0), .val (.int p1), .val (.int p2), .val (.int p3), .val (.int p4), .val (.int (0 : Int32)), .val (.int (own_q p1)), .val (.int (own_q p2)), .val (.int (own_q p3)), .val (.int (own_q p4)), .val (.ref b3), .val (.long (0 : Int64)), .second, .val (.double (FP.l2d (0 : Int64))), .second] [(.double (FP.l2d (0 : Int64))), (.double (FP.l2d (0 : Int64)))])) _
      refine XS.dcmpS X7.here hx rfl (hb hby at_240) rfl (dcmpV_self (nn_w rfl) _) ?_
      show Steps p.tables e below (T7.setTop (mkF m 241 #[.val (.int p0), .val (.int p1), .val (.int p2), .val (.int p3), .val (.int p4), .val (.int (0 : Int32)), .val (.int (own_q p1)), .val (.int (own_q p2)), .val (.int (own_q p3)), .val (.int (own_q p4)), .val (.ref b3), .val (.long (0 : Int64)), .second, .val (.double (FP.l2d (0 : Int64))), .second] [(.int (0 : Int32))])) _
      refine XS.ifNo X7.here hx rfl (hb hby at_241) rfl ((if0 _ _).trans (teq (by decide : (0 : Int32) = (0 : Int32))).2) ?_
      show Steps p.tables e below (T7.setTop (mkF m 244 #[.val (.int p0), .val (.int p1), .val (.int p2), .val (.int p3), .val (.int p4), .val (.int (0 : Int32)), .val (.int (own_q p1)), .val (.int (own_q p2)), .val (.int (own_q p3)), .val (.int (own_q p4)), .val (.ref b3), .val (.long (0 : Int64)), .second, .val (.double (FP.l2d (0 : Int64))), .second] [])) _
      refine XS.iconst X7.here hx rfl (hb hby at_244) ?_
      show Steps p.tables e below (T7.setTop (mkF m 245 #[.val (.int p0), .val (.int p1), .val (.int p2), .val (.int p3), .val (.int p4), .val (.int (0 : Int32)), .val (.int (own_q p1)), .val (.int (own_q p2)), .val (.int (own_q p3)), .val (.int (own_q p4)), .val (.ref b3), .val (.long (0 : Int64)), .second, .val (.double (FP.l2d (0 : Int64))), .second] [(.int (1 : Int32))])) _
      refine XS.goto X7.here hx rfl (pc0 := 245) (pc' := 249) rfl (hb hby at_245) (by decide) (by decide) ?_
      exact kt
    obtain ⟨fs, hr, hrun, hended, hW, hsame⟩ := X7.leave (v := (some (.int (1 : Int32)))) (fun h => by rw [Bd.returns] at h; cases h)
    refine ⟨_, _, pre9 _ ?_, hrun, hended, _, _, rfl, ?_, ⟨_, rfl⟩, hW, hsame.mono (by decide) (by decide)⟩
    · show Steps p.tables e below (T7.setTop (mkF m 249 #[.val (.int p0), .val (.int p1), .val (.int p2), .val (.int p3), .val (.int p4), .val (.int (0 : Int32)), .val (.int (own_q p1)), .val (.int (own_q p2)), .val (.int (own_q p3)), .val (.int (own_q p4)), .val (.ref b3), .val (.long (0 : Int64)), .second, .val (.double (FP.l2d (0 : Int64))), .second] [(.int (1 : Int32))])) _
      exact retN X7 hx (t := .boolean) Bd.returns (by simp) (hb hby at_249) hr
    · show Q0 Z p0 p1 p2 p3 p4 h0 n0 _ T7.heap _
      rw [he7]
      exact ⟨rfl, N7⟩
  · have pre10 : ∀ t, Steps p.tables e below (s₁.setTop (mkF m 53 #[.val (.int p0), .val (.int p1), .val (.int p2), .val (.int p3), .val (.int p4), .val (.int (1 : Int32)), .val (.int (own_q p1)), .val (.int (own_q p2)), .val (.int (own_q p3)), .val (.int (own_q p4)), .unset, .unset, .unset, .unset, .unset] [(.int (1 : Int32))])) t → Steps p.tables e below (s₁.setTop (entryFrame m #[(.int p0), (.int p1), (.int p2), (.int p3), (.int p4)] maxLocals)) t := fun t kt => by
      refine pre1 _ ?_
      show Steps p.tables e below (s₁.setTop (mkF m 31 #[.val (.int p0), .val (.int p1), .val (.int p2), .val (.int p3), .val (.int p4), .val (.int (own_n p0)), .val (.int (own_q p1)), .val (.int (own_q p2)), .val (.int (own_q p3)), .unset, .unset, .unset, .unset, .unset, .unset] [(.int (own_q p4))])) _
      refine XS.istore X0.here hx rfl (hb hby at_31) rfl (l' := #[.val (.int p0), .val (.int p1), .val (.int p2), .val (.int p3), .val (.int p4), .val (.int (own_n p0)), .val (.int (own_q p1)), .val (.int (own_q p2)), .val (.int (own_q p3)), .val (.int (own_q p4)), .unset, .unset, .unset, .unset, .unset]) rfl ?_
      show Steps p.tables e below (s₁.setTop (mkF m 33 #[.val (.int p0), .val (.int p1), .val (.int p2), .val (.int p3), .val (.int p4), .val (.int (own_n p0)), .val (.int (own_q p1)), .val (.int (own_q p2)), .val (.int (own_q p3)), .val (.int (own_q p4)), .unset, .unset, .unset, .unset, .unset] [])) _
      rw [show (own_n p0) = (1 : Int32) from hn]
      show Steps p.tables e below (s₁.setTop (mkF m 33 #[.val (.int p0), .val (.int p1), .val (.int p2), .val (.int p3), .val (.int p4), .val (.int (1 : Int32)), .val (.int (own_q p1)), .val (.int (own_q p2)), .val (.int (own_q p3)), .val (.int (own_q p4)), .unset, .unset, .unset, .unset, .unset] [])) _
      refine XS.iload X0.here hx rfl (hb hby at_33) rfl ?_
      show Steps p.tables e below (s₁.setTop (mkF m 35 #[.val (.int p0), .val (.int p1), .val (.int p2), .val (.int p3), .val (.int p4), .val (.int (1 : Int32)), .val (.int (own_q p1)), .val (.int (own_q p2)), .val (.int (own_q p3)), .val (.int (own_q p4)), .unset, .unset, .unset, .unset, .unset] [(.int (1 : Int32))])) _
      refine XS.ifYes X0.here hx rfl (pc0 := 35) (pc' := 46) rfl (hb hby at_35) rfl ((if0 _ _).trans (feq (by decide : ¬ ((1 : Int32) = (0 : Int32)))).2) (by decide) (by decide) ?_
      show Steps p.tables e below (s₁.setTop (mkF m 46 #[.val (.int p0), .val (.int p1), .val (.int p2), .val (.int p3), .val (.int p4), .val (.int (1 : Int32)), .val (.int (own_q p1)), .val (.int (own_q p2)), .val (.int (own_q p3)), .val (.int (own_q p4)), .unset, .unset, .unset, .unset, .unset] [])) _
      refine XS.iload X0.here hx rfl (hb hby at_46) rfl ?_
      show Steps p.tables e below (s₁.setTop (mkF m 48 #[.val (.int p0), .val (.int p1), .val (.int p2), .val (.int p3), .val (.int p4), .val (.int (1 : Int32)), .val (.int (own_q p1)), .val (.int (own_q p2)), .val (.int (own_q p3)), .val (.int (own_q p4)), .unset, .unset, .unset, .unset, .unset] [(.int (1 : Int32))])) _
      refine XS.iconst X0.here hx rfl (hb hby at_48) ?_
      show Steps p.tables e below (s₁.setTop (mkF m 49 #[.val (.int p0), .val (.int p1), .val (.int p2), .val (.int p3), .val (.int p4), .val (.int (1 : Int32)), .val (.int (own_q p1)), .val (.int (own_q p2)), .val (.int (own_q p3)), .val (.int (own_q p4)), .unset, .unset, .unset, .unset, .unset] [(.int (1 : Int32)), (.int (1 : Int32))])) _
      refine XS.icmpNo X0.here hx rfl (hb hby at_49) rfl (teq (by decide : (1 : Int32) = (1 : Int32))).2 ?_
      show Steps p.tables e below (s₁.setTop (mkF m 52 #[.val (.int p0), .val (.int p1), .val (.int p2), .val (.int p3), .val (.int p4), .val (.int (1 : Int32)), .val (.int (own_q p1)), .val (.int (own_q p2)), .val (.int (own_q p3)), .val (.int (own_q p4)), .unset, .unset, .unset, .unset, .unset] [])) _
      refine XS.iconst X0.here hx rfl (hb hby at_52) ?_
      exact kt
    obtain ⟨T11, h11, k11, X11, e11, E11, A11, st11⟩ := newP X0 hx hZ (hw _ (List.mem_of_getElem? (i := 2) rfl)) e0 (g := (mkF m 53 #[.val (.int p0), .val (.int p1), .val (.int p2), .val (.int p3), .val (.int p4), .val (.int (1 : Int32)), .val (.int (own_q p1)), .val (.int (own_q p2)), .val (.int (own_q p3)), .val (.int (own_q p4)), .unset, .unset, .unset, .unset, .unset] [(.int (1 : Int32))])) rfl (hb hby at_53) rfl (by decide) (cap := 1) (by decide) (by decide) (by decide) (by decide)
    obtain ⟨b11, gq11⟩ : ∃ z, z = h0.size := ⟨_, rfl⟩
    rw [← gq11] at A11 st11
    have gg_b11 : n0 ≤ b11 := Nat.le_trans Z0 (Nat.le_of_eq gq11.symm)
    have V11 : Arv Z h11 b11 k11 .double (1 : Int32) [(.double 0)] (.double 0) := (Arv.new A11 (by decide)).pad (pad_rep [] (.double 0) 1)
    have pre12 : ∀ t, Steps p.tables e below (T11.setTop (mkF m 55 #[.val (.int p0), .val (.int p1), .val (.int p2), .val (.int p3), .val (.int p4), .val (.int (1 : Int32)), .val (.int (own_q p1)), .val (.int (own_q p2)), .val (.int (own_q p3)), .val (.int (own_q p4)), .unset, .unset, .unset, .unset, .unset] [(.ref b11)])) t → Steps p.tables e below (s₁.setTop (entryFrame m #[(.int p0), (.int p1), (.int p2), (.int p3), (.int p4)] maxLocals)) t := fun t kt => pre10 _ (st11 _ kt)
    obtain ⟨cl13, Ar13, qk13, Sz13, Nn13, Hh13, Gg13⟩ := id V11
    have hin13 : ¬ ((0 : Int32) < 0 ∨ cl13.slots.size ≤ ((0 : Int32)).toNatClampNeg) := inb_of Sz13 ⟨by decide, by decide⟩
    have pre14 : ∀ t, Steps p.tables e below (T11.setTop (mkF m 60 #[.val (.int p0), .val (.int p1), .val (.int p2), .val (.int p3), .val (.int p4), .val (.int (1 : Int32)), .val (.int (own_q p1)), .val (.int (own_q p2)), .val (.int (own_q p3)), .val (.int (own_q p4)), .unset, .unset, .unset, .unset, .unset] [(.double (FP.i2d (own_q p1))), (.int (0 : Int32)), (.ref b11), (.ref b11)])) t → Steps p.tables e below (s₁.setTop (entryFrame m #[(.int p0), (.int p1), (.int p2), (.int p3), (.int p4)] maxLocals)) t := fun t kt => by
      refine pre12 _ ?_
      show Steps p.tables e below (T11.setTop (mkF m 55 #[.val (.int p0), .val (.int p1), .val (.int p2), .val (.int p3), .val (.int p4), .val (.int (1 : Int32)), .val (.int (own_q p1)), .val (.int (own_q p2)), .val (.int (own_q p3)), .val (.int (own_q p4)), .unset, .unset, .unset, .unset, .unset] [(.ref b11)])) _
      refine XS.dup X11.here hx rfl (hb hby at_55) rfl rfl ?_
      show Steps p.tables e below (T11.setTop (mkF m 56 #[.val (.int p0), .val (.int p1), .val (.int p2), .val (.int p3), .val (.int p4), .val (.int (1 : Int32)), .val (.int (own_q p1)), .val (.int (own_q p2)), .val (.int (own_q p3)), .val (.int (own_q p4)), .unset, .unset, .unset, .unset, .unset] [(.ref b11), (.ref b11)])) _
      refine XS.iconst X11.here hx rfl (hb hby at_56) ?_
      show Steps p.tables e below (T11.setTop (mkF m 57 #[.val (.int p0), .val (.int p1), .val (.int p2), .val (.int p3), .val (.int p4), .val (.int (1 : Int32)), .val (.int (own_q p1)), .val (.int (own_q p2)), .val (.int (own_q p3)), .val (.int (own_q p4)), .unset, .unset, .unset, .unset, .unset] [(.int (0 : Int32)), (.ref b11), (.ref b11)])) _
      refine XS.iload X11.here hx rfl (hb hby at_57) rfl ?_
      show Steps p.tables e below (T11.setTop (mkF m 59 #[.val (.int p0), .val (.int p1), .val (.int p2), .val (.int p3), .val (.int p4), .val (.int (1 : Int32)), .val (.int (own_q p1)), .val (.int (own_q p2)), .val (.int (own_q p3)), .val (.int (own_q p4)), .unset, .unset, .unset, .unset, .unset] [(.int (own_q p1)), (.int (0 : Int32)), (.ref b11), (.ref b11)])) _
      refine XS.i2dS X11.here hx rfl (hb hby at_59) rfl rfl ?_
      exact kt
    obtain ⟨T15, h15, X15, e15, W15, st15⟩ := stD X11 hx hZ e11 Ar13 (j := (0 : Int32)) hin13 (g := (mkF m 60 #[.val (.int p0), .val (.int p1), .val (.int p2), .val (.int p3), .val (.int p4), .val (.int (1 : Int32)), .val (.int (own_q p1)), .val (.int (own_q p2)), .val (.int (own_q p3)), .val (.int (own_q p4)), .unset, .unset, .unset, .unset, .unset] [(.double (FP.i2d (own_q p1))), (.int (0 : Int32)), (.ref b11), (.ref b11)])) rfl rfl (hb hby at_60)
    have V15 := Arv.set Ar13 qk13 Sz13 Nn13 Hh13 Gg13 rfl W15 0 rfl (Nat.le_of_ble_eq_true rfl)
    have V15' : Arv Z h15 b11 k11 .double (1 : Int32) [(.double (FP.i2d (own_q p1)))] (.double 0) := V15
    have N15 := Fr.snoc X15 N0 gg_b11
    have pre16 : ∀ t, Steps p.tables e below (T15.setTop (mkF m 61 #[.val (.int p0), .val (.int p1), .val (.int p2), .val (.int p3), .val (.int p4), .val (.int (1 : Int32)), .val (.int (own_q p1)), .val (.int (own_q p2)), .val (.int (own_q p3)), .val (.int (own_q p4)), .unset, .unset, .unset, .unset, .unset] [(.ref b11)])) t → Steps p.tables e below (s₁.setTop (entryFrame m #[(.int p0), (.int p1), (.int p2), (.int p3), (.int p4)] maxLocals)) t := fun t kt => pre14 _ (st15 _ kt)
    have z17 : n0 ≤ h15.size := (Nat.le_trans (Nat.le_trans Z0 E11.1) (Keep.of_wr W15).1)
    have pre18 : ∀ t, Steps p.tables e below (T15.setTop (mkF m 230 #[.val (.int p0), .val (.int p1), .val (.int p2), .val (.int p3), .val (.int p4), .val (.int (1 : Int32)), .val (.int (own_q p1)), .val (.int (own_q p2)), .val (.int (own_q p3)), .val (.int (own_q p4)), .val (.ref b11), .val (.long ((0 : Int64) + (((own_q p1).toInt64) * ((own_q p1).toInt64)))), .second, .unset, .unset] [(.ref b11)])) t → Steps p.tables e below (s₁.setTop (entryFrame m #[(.int p0), (.int p1), (.int p2), (.int p3), (.int p4)] maxLocals)) t := fun t kt => by
      refine pre16 _ ?_
      show Steps p.tables e below (T15.setTop (mkF m 61 #[.val (.int p0), .val (.int p1), .val (.int p2), .val (.int p3), .val (.int p4), .val (.int (1 : Int32)), .val (.int (own_q p1)), .val (.int (own_q p2)), .val (.int (own_q p3)), .val (.int (own_q p4)), .unset, .unset, .unset, .unset, .unset] [(.ref b11)])) _
      refine XS.astore X15.here hx rfl (hb hby at_61) rfl rfl (l' := #[.val (.int p0), .val (.int p1), .val (.int p2), .val (.int p3), .val (.int p4), .val (.int (1 : Int32)), .val (.int (own_q p1)), .val (.int (own_q p2)), .val (.int (own_q p3)), .val (.int (own_q p4)), .val (.ref b11), .unset, .unset, .unset, .unset]) rfl ?_
      show Steps p.tables e below (T15.setTop (mkF m 63 #[.val (.int p0), .val (.int p1), .val (.int p2), .val (.int p3), .val (.int p4), .val (.int (1 : Int32)), .val (.int (own_q p1)), .val (.int (own_q p2)), .val (.int (own_q p3)), .val (.int (own_q p4)), .val (.ref b11), .unset, .unset, .unset, .unset] [])) _
      refine XS.goto X15.here hx rfl (pc0 := 63) (pc' := 153) rfl (hb hby at_63) (by decide) (by decide) ?_
      show Steps p.tables e below (T15.setTop (mkF m 153 #[.val (.int p0), .val (.int p1), .val (.int p2), .val (.int p3), .val (.int p4), .val (.int (1 : Int32)), .val (.int (own_q p1)), .val (.int (own_q p2)), .val (.int (own_q p3)), .val (.int (own_q p4)), .val (.ref b11), .unset, .unset, .unset, .unset] [])) _
      refine XS.lconst X15.here hx rfl (hb hby at_153) ?_
      show Steps p.tables e below (T15.setTop (mkF m 154 #[.val (.int p0), .val (.int p1), .val (.int p2), .val (.int p3), .val (.int p4), .val (.int (1 : Int32)), .val (.int (own_q p1)), .val (.int (own_q p2)), .val (.int (own_q p3)), .val (.int (own_q p4)), .val (.ref b11), .unset, .unset, .unset, .unset] [(.long (0 : Int64))])) _
      refine XS.lstore X15.here hx rfl (hb hby at_154) rfl (l' := #[.val (.int p0), .val (.int p1), .val (.int p2), .val (.int p3), .val (.int p4), .val (.int (1 : Int32)), .val (.int (own_q p1)), .val (.int (own_q p2)), .val (.int (own_q p3)), .val (.int (own_q p4)), .val (.ref b11), .val (.long (0 : Int64)), .second, .unset, .unset]) rfl ?_
      show Steps p.tables e below (T15.setTop (mkF m 156 #[.val (.int p0), .val (.int p1), .val (.int p2), .val (.int p3), .val (.int p4), .val (.int (1 : Int32)), .val (.int (own_q p1)), .val (.int (own_q p2)), .val (.int (own_q p3)), .val (.int (own_q p4)), .val (.ref b11), .val (.long (0 : Int64)), .second, .unset, .unset] [])) _
      refine XS.iload X15.here hx rfl (hb hby at_156) rfl ?_
      show Steps p.tables e below (T15.setTop (mkF m 158 #[.val (.int p0), .val (.int p1), .val (.int p2), .val (.int p3), .val (.int p4), .val (.int (1 : Int32)), .val (.int (own_q p1)), .val (.int (own_q p2)), .val (.int (own_q p3)), .val (.int (own_q p4)), .val (.ref b11), .val (.long (0 : Int64)), .second, .unset, .unset] [(.int (1 : Int32))])) _
      refine XS.iconst X15.here hx rfl (hb hby at_158) ?_
      show Steps p.tables e below (T15.setTop (mkF m 159 #[.val (.int p0), .val (.int p1), .val (.int p2), .val (.int p3), .val (.int p4), .val (.int (1 : Int32)), .val (.int (own_q p1)), .val (.int (own_q p2)), .val (.int (own_q p3)), .val (.int (own_q p4)), .val (.ref b11), .val (.long (0 : Int64)), .second, .unset, .unset] [(.int (1 : Int32)), (.int (1 : Int32))])) _
      refine XS.icmpNo X15.here hx rfl (hb hby at_159) rfl (flt (by decide : ¬ ((1 : Int32) < (1 : Int32)))).1 ?_
      show Steps p.tables e below (T15.setTop (mkF m 162 #[.val (.int p0), .val (.int p1), .val (.int p2), .val (.int p3), .val (.int p4), .val (.int (1 : Int32)), .val (.int (own_q p1)), .val (.int (own_q p2)), .val (.int (own_q p3)), .val (.int (own_q p4)), .val (.ref b11), .val (.long (0 : Int64)), .second, .unset, .unset] [])) _
      refine XS.lload X15.here hx rfl (hb hby at_162) rfl ?_
      show Steps p.tables e below (T15.setTop (mkF m 164 #[.val (.int p0), .val (.int p1), .val (.int p2), .val (.int p3), .val (.int p4), .val (.int (1 : Int32)), .val (.int (own_q p1)), .val (.int (own_q p2)), .val (.int (own_q p3)), .val (.int (own_q p4)), .val (.ref b11), .val (.long (0 : Int64)), .second, .unset, .unset] [(.long (0 : Int64))])) _
      refine XS.iload X15.here hx rfl (hb hby at_164) rfl ?_
      show Steps p.tables e below (T15.setTop (mkF m 166 #[.val (.int p0), .val (.int p1), .val (.int p2), .val (.int p3), .val (.int p4), .val (.int (1 : Int32)), .val (.int (own_q p1)), .val (.int (own_q p2)), .val (.int (own_q p3)), .val (.int (own_q p4)), .val (.ref b11), .val (.long (0 : Int64)), .second, .unset, .unset] [(.int (own_q p1)), (.long (0 : Int64))])) _
      refine XS.i2l X15.here hx rfl (hb hby at_166) rfl ?_
      show Steps p.tables e below (T15.setTop (mkF m 167 #[.val (.int p0), .val (.int p1), .val (.int p2), .val (.int p3), .val (.int p4), .val (.int (1 : Int32)), .val (.int (own_q p1)), .val (.int (own_q p2)), .val (.int (own_q p3)), .val (.int (own_q p4)), .val (.ref b11), .val (.long (0 : Int64)), .second, .unset, .unset] [(.long ((own_q p1).toInt64)), (.long (0 : Int64))])) _
      refine XS.iload X15.here hx rfl (hb hby at_167) rfl ?_
      show Steps p.tables e below (T15.setTop (mkF m 169 #[.val (.int p0), .val (.int p1), .val (.int p2), .val (.int p3), .val (.int p4), .val (.int (1 : Int32)), .val (.int (own_q p1)), .val (.int (own_q p2)), .val (.int (own_q p3)), .val (.int (own_q p4)), .val (.ref b11), .val (.long (0 : Int64)), .second, .unset, .unset] [(.int (own_q p1)), (.long ((own_q p1).toInt64)), (.long (0 : Int64))])) _
      refine XS.i2l X15.here hx rfl (hb hby at_169) rfl ?_
      show Steps p.tables e below (T15.setTop (mkF m 170 #[.val (.int p0), .val (.int p1), .val (.int p2), .val (.int p3), .val (.int p4), .val (.int (1 : Int32)), .val (.int (own_q p1)), .val (.int (own_q p2)), .val (.int (own_q p3)), .val (.int (own_q p4)), .val (.ref b11), .val (.long (0 : Int64)), .second, .unset, .unset] [(.long ((own_q p1).toInt64)), (.long ((own_q p1).toInt64)), (.long (0 : Int64))])) _
      refine XS.lmul X15.here hx rfl (hb hby at_170) rfl ?_
      show Steps p.tables e below (T15.setTop (mkF m 171 #[.val (.int p0), .val (.int p1), .val (.int p2), .val (.int p3), .val (.int p4), .val (.int (1 : Int32)), .val (.int (own_q p1)), .val (.int (own_q p2)), .val (.int (own_q p3)), .val (.int (own_q p4)), .val (.ref b11), .val (.long (0 : Int64)), .second, .unset, .unset] [(.long (((own_q p1).toInt64) * ((own_q p1).toInt64))), (.long (0 : Int64))])) _
      refine XS.ladd X15.here hx rfl (hb hby at_171) rfl ?_
      show Steps p.tables e below (T15.setTop (mkF m 172 #[.val (.int p0), .val (.int p1), .val (.int p2), .val (.int p3), .val (.int p4), .val (.int (1 : Int32)), .val (.int (own_q p1)), .val (.int (own_q p2)), .val (.int (own_q p3)), .val (.int (own_q p4)), .val (.ref b11), .val (.long (0 : Int64)), .second, .unset, .unset] [(.long ((0 : Int64) + (((own_q p1).toInt64) * ((own_q p1).toInt64))))])) _
      refine XS.lstore X15.here hx rfl (hb hby at_172) rfl (l' := #[.val (.int p0), .val (.int p1), .val (.int p2), .val (.int p3), .val (.int p4), .val (.int (1 : Int32)), .val (.int (own_q p1)), .val (.int (own_q p2)), .val (.int (own_q p3)), .val (.int (own_q p4)), .val (.ref b11), .val (.long ((0 : Int64) + (((own_q p1).toInt64) * ((own_q p1).toInt64)))), .second, .unset, .unset]) rfl ?_
      show Steps p.tables e below (T15.setTop (mkF m 174 #[.val (.int p0), .val (.int p1), .val (.int p2), .val (.int p3), .val (.int p4), .val (.int (1 : Int32)), .val (.int (own_q p1)), .val (.int (own_q p2)), .val (.int (own_q p3)), .val (.int (own_q p4)), .val (.ref b11), .val (.long ((0 : Int64) + (((own_q p1).toInt64) * ((own_q p1).toInt64)))), .second, .unset, .unset] [])) _
      refine XS.iload X15.here hx rfl (hb hby at_174) rfl ?_
      show Steps p.tables e below (T15.setTop (mkF m 176 #[.val (.int p0), .val (.int p1), .val (.int p2), .val (.int p3), .val (.int p4), .val (.int (1 : Int32)), .val (.int (own_q p1)), .val (.int (own_q p2)), .val (.int (own_q p3)), .val (.int (own_q p4)), .val (.ref b11), .val (.long ((0 : Int64) + (((own_q p1).toInt64) * ((own_q p1).toInt64)))), .second, .unset, .unset] [(.int (1 : Int32))])) _
      refine XS.iconst X15.here hx rfl (hb hby at_176) ?_
      show Steps p.tables e below (T15.setTop (mkF m 177 #[.val (.int p0), .val (.int p1), .val (.int p2), .val (.int p3), .val (.int p4), .val (.int (1 : Int32)), .val (.int (own_q p1)), .val (.int (own_q p2)), .val (.int (own_q p3)), .val (.int (own_q p4)), .val (.ref b11), .val (.long ((0 : Int64) + (((own_q p1).toInt64) * ((own_q p1).toInt64)))), .second, .unset, .unset] [(.int (2 : Int32)), (.int (1 : Int32))])) _
      refine XS.icmpYes X15.here hx rfl (pc0 := 177) (pc' := 192) rfl (hb hby at_177) rfl (tlt (by decide : (1 : Int32) < (2 : Int32))).1 (by decide) (by decide) ?_
      show Steps p.tables e below (T15.setTop (mkF m 192 #[.val (.int p0), .val (.int p1), .val (.int p2), .val (.int p3), .val (.int p4), .val (.int (1 : Int32)), .val (.int (own_q p1)), .val (.int (own_q p2)), .val (.int (own_q p3)), .val (.int (own_q p4)), .val (.ref b11), .val (.long ((0 : Int64) + (((own_q p1).toInt64) * ((own_q p1).toInt64)))), .second, .unset, .unset] [])) _
      refine XS.iload X15.here hx rfl (hb hby at_192) rfl ?_
      show Steps p.tables e below (T15.setTop (mkF m 194 #[.val (.int p0), .val (.int p1), .val (.int p2), .val (.int p3), .val (.int p4), .val (.int (1 : Int32)), .val (.int (own_q p1)), .val (.int (own_q p2)), .val (.int (own_q p3)), .val (.int (own_q p4)), .val (.ref b11), .val (.long ((0 : Int64) + (((own_q p1).toInt64) * ((own_q p1).toInt64)))), .second, .unset, .unset] [(.int (1 : Int32))])) _
      refine XS.iconst X15.here hx rfl (hb hby at_194) ?_
      show Steps p.tables e below (T15.setTop (mkF m 195 #[.val (.int p0), .val (.int p1), .val (.int p2), .val (.int p3), .val (.int p4), .val (.int (1 : Int32)), .val (.int (own_q p1)), .val (.int (own_q p2)), .val (.int (own_q p3)), .val (.int (own_q p4)), .val (.ref b11), .val (.long ((0 : Int64) + (((own_q p1).toInt64) * ((own_q p1).toInt64)))), .second, .unset, .unset] [(.int (3 : Int32)), (.int (1 : Int32))])) _
      refine XS.icmpYes X15.here hx rfl (pc0 := 195) (pc' := 210) rfl (hb hby at_195) rfl (tlt (by decide : (1 : Int32) < (3 : Int32))).1 (by decide) (by decide) ?_
      show Steps p.tables e below (T15.setTop (mkF m 210 #[.val (.int p0), .val (.int p1), .val (.int p2), .val (.int p3), .val (.int p4), .val (.int (1 : Int32)), .val (.int (own_q p1)), .val (.int (own_q p2)), .val (.int (own_q p3)), .val (.int (own_q p4)), .val (.ref b11), .val (.long ((0 : Int64) + (((own_q p1).toInt64) * ((own_q p1).toInt64)))), .second, .unset, .unset] [])) _
      refine XS.iload X15.here hx rfl (hb hby at_210) rfl ?_
      show Steps p.tables e below (T15.setTop (mkF m 212 #[.val (.int p0), .val (.int p1), .val (.int p2), .val (.int p3), .val (.int p4), .val (.int (1 : Int32)), .val (.int (own_q p1)), .val (.int (own_q p2)), .val (.int (own_q p3)), .val (.int (own_q p4)), .val (.ref b11), .val (.long ((0 : Int64) + (((own_q p1).toInt64) * ((own_q p1).toInt64)))), .second, .unset, .unset] [(.int (1 : Int32))])) _
      refine XS.iconst X15.here hx rfl (hb hby at_212) ?_
      show Steps p.tables e below (T15.setTop (mkF m 213 #[.val (.int p0), .val (.int p1), .val (.int p2), .val (.int p3), .val (.int p4), .val (.int (1 : Int32)), .val (.int (own_q p1)), .val (.int (own_q p2)), .val (.int (own_q p3)), .val (.int (own_q p4)), .val (.ref b11), .val (.long ((0 : Int64) + (((own_q p1).toInt64) * ((own_q p1).toInt64)))), .second, .unset, .unset] [(.int (4 : Int32)), (.int (1 : Int32))])) _
      refine XS.icmpYes X15.here hx rfl (pc0 := 213) (pc' := 228) rfl (hb hby at_213) rfl (tlt (by decide : (1 : Int32) < (4 : Int32))).1 (by decide) (by decide) ?_
      show Steps p.tables e below (T15.setTop (mkF m 228 #[.val (.int p0), .val (.int p1), .val (.int p2), .val (.int p3), .val (.int p4), .val (.int (1 : Int32)), .val (.int (own_q p1)), .val (.int (own_q p2)), .val (.int (own_q p3)), .val (.int (own_q p4)), .val (.ref b11), .val (.long ((0 : Int64) + (((own_q p1).toInt64) * ((own_q p1).toInt64)))), .second, .unset, .unset] [])) _
      refine XS.aload X15.here hx rfl (hb hby at_228) rfl rfl ?_
      exact kt
    obtain ⟨_, _, ⟨T19, L19, kc19, nc19⟩, -, X19, ⟨Lc19, hQ19, l19, y19, z19⟩, st19⟩ := Jvm.LawKit.callS X15 hx (y := (⟨"com/example/vidura/vidura/stats/Values", "sumOfSquares", "([D)D"⟩ : MethodName)) hown (mvT hZ (hw _ (List.mem_of_getElem? (i := 3) rfl))) (mvT hZ (hw _ (List.mem_of_getElem? (i := 4) rfl))) (mvT hZ (hw _ (List.mem_of_getElem? (i := 5) rfl))) (mvT hZ (hw _ (List.mem_of_getElem? (i := 6) rfl))) (by decide) (backOf (W := 0) (rm1m1 l Z a0 hw [] b11 k11 (own_q p1) h15 n0 z17 V15' (own_q_sm p1)) hZ (hw _ (List.mem_of_getElem? (i := 6) rfl)) (hw _ (List.mem_of_getElem? (i := 5) rfl)) (by decide) (by decide)) (g := (mkF m 230 #[.val (.int p0), .val (.int p1), .val (.int p2), .val (.int p3), .val (.int p4), .val (.int (1 : Int32)), .val (.int (own_q p1)), .val (.int (own_q p2)), .val (.int (own_q p3)), .val (.int (own_q p4)), .val (.ref b11), .val (.long ((0 : Int64) + (((own_q p1).toInt64) * ((own_q p1).toInt64)))), .second, .unset, .unset] [(.ref b11)])) rfl (by rw [hml]; rfl) (argsL := [(.ref b11)]) (rest := []) (lenOf pd_0 rfl) rfl (by show 2 * 0 + _ ≤ _; exact Nat.le_of_eq rfl) (hb hby at_230) (fun _ _ => ⟨rfl, e15, (by decide : 1 + 0 ≤ _), (by decide : 1 + 0 ≤ _)⟩)
    dsimp only [Pt.U, Pt.locs, Pt.cells, Pt.slots] at X19 l19 y19 z19 st19 hQ19
    subst l19 y19 z19
    obtain ⟨rfl, N19q, he19⟩ := hQ19
    have N19 := Fr.app N15 N19q
    have pre20 : ∀ t, Steps p.tables e below (T19.setTop (mkF m 233 #[.val (.int p0), .val (.int p1), .val (.int p2), .val (.int p3), .val (.int p4), .val (.int (1 : Int32)), .val (.int (own_q p1)), .val (.int (own_q p2)), .val (.int (own_q p3)), .val (.int (own_q p4)), .val (.ref b11), .val (.long ((0 : Int64) + (((own_q p1).toInt64) * ((own_q p1).toInt64)))), .second, .unset, .unset] [(.double (FP.l2d ((0 : Int64) + (((own_q p1).toInt64) * ((own_q p1).toInt64)))))])) t → Steps p.tables e below (s₁.setTop (entryFrame m #[(.int p0), (.int p1), (.int p2), (.int p3), (.int p4)] maxLocals)) t := fun t kt => pre18 _ (st19 _ kt)
    have pre21 : ∀ t, Steps p.tables e below (T19.setTop (mkF m 249 #[.val (.int p0), .val (.int p1), .val (.int p2), .val (.int p3), .val (.int p4), .val (.int (1 : Int32)), .val (.int (own_q p1)), .val (.int (own_q p2)), .val (.int (own_q p3)), .val (.int (own_q p4)), .val (.ref b11), .val (.long ((0 : Int64) + (((own_q p1).toInt64) * ((own_q p1).toInt64)))), .second, .val (.double (FP.l2d ((0 : Int64) + (((own_q p1).toInt64) * ((own_q p1).toInt64))))), .second] [(.int (1 : Int32))])) t → Steps p.tables e below (s₁.setTop (entryFrame m #[(.int p0), (.int p1), (.int p2), (.int p3), (.int p4)] maxLocals)) t := fun t kt => by
      refine pre20 _ ?_
      show Steps p.tables e below (T19.setTop (mkF m 233 #[.val (.int p0), .val (.int p1), .val (.int p2), .val (.int p3), .val (.int p4), .val (.int (1 : Int32)), .val (.int (own_q p1)), .val (.int (own_q p2)), .val (.int (own_q p3)), .val (.int (own_q p4)), .val (.ref b11), .val (.long ((0 : Int64) + (((own_q p1).toInt64) * ((own_q p1).toInt64)))), .second, .unset, .unset] [(.double (FP.l2d ((0 : Int64) + (((own_q p1).toInt64) * ((own_q p1).toInt64)))))])) _
      refine XS.dstore X19.here hx rfl (hb hby at_233) rfl (l' := #[.val (.int p0), .val (.int p1), .val (.int p2), .val (.int p3), .val (.int p4), .val (.int (1 : Int32)), .val (.int (own_q p1)), .val (.int (own_q p2)), .val (.int (own_q p3)), .val (.int (own_q p4)), .val (.ref b11), .val (.long ((0 : Int64) + (((own_q p1).toInt64) * ((own_q p1).toInt64)))), .second, .val (.double (FP.l2d ((0 : Int64) + (((own_q p1).toInt64) * ((own_q p1).toInt64))))), .second]) rfl ?_
      show Steps p.tables e below (T19.setTop (mkF m 235 #[.val (.int p0), .val (.int p1), .val (.int p2), .val (.int p3), .val (.int p4), .val (.int (1 : Int32)), .val (.int (own_q p1)), .val (.int (own_q p2)), .val (.int (own_q p3)), .val (.int (own_q p4)), .val (.ref b11), .val (.long ((0 : Int64) + (((own_q p1).toInt64) * ((own_q p1).toInt64)))), .second, .val (.double (FP.l2d ((0 : Int64) + (((own_q p1).toInt64) * ((own_q p1).toInt64))))), .second] [])) _
      refine XS.dload X19.here hx rfl (hb hby at_235) rfl ?_
      show Steps p.tables e below (T19.setTop (mkF m 237 #[.val (.int p0), .val (.int p1), .val (.int p2), .val (.int p3), .val (.int p4), .val (.int (1 : Int32)), .val (.int (own_q p1)), .val (.int (own_q p2)), .val (.int (own_q p3)), .val (.int (own_q p4)), .val (.ref b11), .val (.long ((0 : Int64) + (((own_q p1).toInt64) * ((own_q p1).toInt64)))), .second, .val (.double (FP.l2d ((0 : Int64) + (((own_q p1).toInt64) * ((own_q p1).toInt64))))), .second] [(.double (FP.l2d ((0 : Int64) + (((own_q p1).toInt64) * ((own_q p1).toInt64)))))])) _
      refine XS.lload X19.here hx rfl (hb hby at_237) rfl ?_
      show Steps p.tables e below (T19.setTop (mkF m 239 #[.val (.int p0), .val (.int p1), .val (.int p2), .val (.int p3), .val (.int p4), .val (.int (1 : Int32)), .val (.int (own_q p1)), .val (.int (own_q p2)), .val (.int (own_q p3)), .val (.int (own_q p4)), .val (.ref b11), .val (.long ((0 : Int64) + (((own_q p1).toInt64) * ((own_q p1).toInt64)))), .second, .val (.double (FP.l2d ((0 : Int64) + (((own_q p1).toInt64) * ((own_q p1).toInt64))))), .second] [(.long ((0 : Int64) + (((own_q p1).toInt64) * ((own_q p1).toInt64)))), (.double (FP.l2d ((0 : Int64) + (((own_q p1).toInt64) * ((own_q p1).toInt64)))))])) _
      refine XS.l2dS X19.here hx rfl (hb hby at_239) rfl rfl ?_
      show Steps p.tables e below (T19.setTop (mkF m 240 #[.val (.int p0), .val (.int p1), .val (.int p2), .val (.int p3), .val (.int p4), .val (.int (1 : Int32)), .val (.int (own_q p1)), .val (.int (own_q p2)), .val (.int (own_q p3)), .val (.int (own_q p4)), .val (.ref b11), .val (.long ((0 : Int64) + (((own_q p1).toInt64) * ((own_q p1).toInt64)))), .second, .val (.double (FP.l2d ((0 : Int64) + (((own_q p1).toInt64) * ((own_q p1).toInt64))))), .second] [(.double (FP.l2d ((0 : Int64) + (((own_q p1).toInt64) * ((own_q p1).toInt64))))), (.double (FP.l2d ((0 : Int64) + (((own_q p1).toInt64) * ((own_q p1).toInt64)))))])) _
      refine XS.dcmpS X19.here hx rfl (hb hby at_240) rfl (dcmpV_self (nn_w rfl) _) ?_
      show Steps p.tables e below (T19.setTop (mkF m 241 #[.val (.int p0), .val (.int p1), .val (.int p2), .val (.int p3), .val (.int p4), .val (.int (1 : Int32)), .val (.int (own_q p1)), .val (.int (own_q p2)), .val (.int (own_q p3)), .val (.int (own_q p4)), .val (.ref b11), .val (.long ((0 : Int64) + (((own_q p1).toInt64) * ((own_q p1).toInt64)))), .second, .val (.double (FP.l2d ((0 : Int64) + (((own_q p1).toInt64) * ((own_q p1).toInt64))))), .second] [(.int (0 : Int32))])) _
      refine XS.ifNo X19.here hx rfl (hb hby at_241) rfl ((if0 _ _).trans (teq (by decide : (0 : Int32) = (0 : Int32))).2) ?_
      show Steps p.tables e below (T19.setTop (mkF m 244 #[.val (.int p0), .val (.int p1), .val (.int p2), .val (.int p3), .val (.int p4), .val (.int (1 : Int32)), .val (.int (own_q p1)), .val (.int (own_q p2)), .val (.int (own_q p3)), .val (.int (own_q p4)), .val (.ref b11), .val (.long ((0 : Int64) + (((own_q p1).toInt64) * ((own_q p1).toInt64)))), .second, .val (.double (FP.l2d ((0 : Int64) + (((own_q p1).toInt64) * ((own_q p1).toInt64))))), .second] [])) _
      refine XS.iconst X19.here hx rfl (hb hby at_244) ?_
      show Steps p.tables e below (T19.setTop (mkF m 245 #[.val (.int p0), .val (.int p1), .val (.int p2), .val (.int p3), .val (.int p4), .val (.int (1 : Int32)), .val (.int (own_q p1)), .val (.int (own_q p2)), .val (.int (own_q p3)), .val (.int (own_q p4)), .val (.ref b11), .val (.long ((0 : Int64) + (((own_q p1).toInt64) * ((own_q p1).toInt64)))), .second, .val (.double (FP.l2d ((0 : Int64) + (((own_q p1).toInt64) * ((own_q p1).toInt64))))), .second] [(.int (1 : Int32))])) _
      refine XS.goto X19.here hx rfl (pc0 := 245) (pc' := 249) rfl (hb hby at_245) (by decide) (by decide) ?_
      exact kt
    obtain ⟨fs, hr, hrun, hended, hW, hsame⟩ := X19.leave (v := (some (.int (1 : Int32)))) (fun h => by rw [Bd.returns] at h; cases h)
    refine ⟨_, _, pre21 _ ?_, hrun, hended, _, _, rfl, ?_, ⟨_, rfl⟩, hW, hsame.mono (by decide) (by decide)⟩
    · show Steps p.tables e below (T19.setTop (mkF m 249 #[.val (.int p0), .val (.int p1), .val (.int p2), .val (.int p3), .val (.int p4), .val (.int (1 : Int32)), .val (.int (own_q p1)), .val (.int (own_q p2)), .val (.int (own_q p3)), .val (.int (own_q p4)), .val (.ref b11), .val (.long ((0 : Int64) + (((own_q p1).toInt64) * ((own_q p1).toInt64)))), .second, .val (.double (FP.l2d ((0 : Int64) + (((own_q p1).toInt64) * ((own_q p1).toInt64))))), .second] [(.int (1 : Int32))])) _
      exact retN X19 hx (t := .boolean) Bd.returns (by simp) (hb hby at_249) hr
    · show Q0 Z p0 p1 p2 p3 p4 h0 n0 _ T19.heap _
      rw [he19]
      exact ⟨rfl, N19⟩
  · have pre22 : ∀ t, Steps p.tables e below (s₁.setTop (mkF m 73 #[.val (.int p0), .val (.int p1), .val (.int p2), .val (.int p3), .val (.int p4), .val (.int (2 : Int32)), .val (.int (own_q p1)), .val (.int (own_q p2)), .val (.int (own_q p3)), .val (.int (own_q p4)), .unset, .unset, .unset, .unset, .unset] [(.int (2 : Int32))])) t → Steps p.tables e below (s₁.setTop (entryFrame m #[(.int p0), (.int p1), (.int p2), (.int p3), (.int p4)] maxLocals)) t := fun t kt => by
      refine pre1 _ ?_
      show Steps p.tables e below (s₁.setTop (mkF m 31 #[.val (.int p0), .val (.int p1), .val (.int p2), .val (.int p3), .val (.int p4), .val (.int (own_n p0)), .val (.int (own_q p1)), .val (.int (own_q p2)), .val (.int (own_q p3)), .unset, .unset, .unset, .unset, .unset, .unset] [(.int (own_q p4))])) _
      refine XS.istore X0.here hx rfl (hb hby at_31) rfl (l' := #[.val (.int p0), .val (.int p1), .val (.int p2), .val (.int p3), .val (.int p4), .val (.int (own_n p0)), .val (.int (own_q p1)), .val (.int (own_q p2)), .val (.int (own_q p3)), .val (.int (own_q p4)), .unset, .unset, .unset, .unset, .unset]) rfl ?_
      show Steps p.tables e below (s₁.setTop (mkF m 33 #[.val (.int p0), .val (.int p1), .val (.int p2), .val (.int p3), .val (.int p4), .val (.int (own_n p0)), .val (.int (own_q p1)), .val (.int (own_q p2)), .val (.int (own_q p3)), .val (.int (own_q p4)), .unset, .unset, .unset, .unset, .unset] [])) _
      rw [show (own_n p0) = (2 : Int32) from hn]
      show Steps p.tables e below (s₁.setTop (mkF m 33 #[.val (.int p0), .val (.int p1), .val (.int p2), .val (.int p3), .val (.int p4), .val (.int (2 : Int32)), .val (.int (own_q p1)), .val (.int (own_q p2)), .val (.int (own_q p3)), .val (.int (own_q p4)), .unset, .unset, .unset, .unset, .unset] [])) _
      refine XS.iload X0.here hx rfl (hb hby at_33) rfl ?_
      show Steps p.tables e below (s₁.setTop (mkF m 35 #[.val (.int p0), .val (.int p1), .val (.int p2), .val (.int p3), .val (.int p4), .val (.int (2 : Int32)), .val (.int (own_q p1)), .val (.int (own_q p2)), .val (.int (own_q p3)), .val (.int (own_q p4)), .unset, .unset, .unset, .unset, .unset] [(.int (2 : Int32))])) _
      refine XS.ifYes X0.here hx rfl (pc0 := 35) (pc' := 46) rfl (hb hby at_35) rfl ((if0 _ _).trans (feq (by decide : ¬ ((2 : Int32) = (0 : Int32)))).2) (by decide) (by decide) ?_
      show Steps p.tables e below (s₁.setTop (mkF m 46 #[.val (.int p0), .val (.int p1), .val (.int p2), .val (.int p3), .val (.int p4), .val (.int (2 : Int32)), .val (.int (own_q p1)), .val (.int (own_q p2)), .val (.int (own_q p3)), .val (.int (own_q p4)), .unset, .unset, .unset, .unset, .unset] [])) _
      refine XS.iload X0.here hx rfl (hb hby at_46) rfl ?_
      show Steps p.tables e below (s₁.setTop (mkF m 48 #[.val (.int p0), .val (.int p1), .val (.int p2), .val (.int p3), .val (.int p4), .val (.int (2 : Int32)), .val (.int (own_q p1)), .val (.int (own_q p2)), .val (.int (own_q p3)), .val (.int (own_q p4)), .unset, .unset, .unset, .unset, .unset] [(.int (2 : Int32))])) _
      refine XS.iconst X0.here hx rfl (hb hby at_48) ?_
      show Steps p.tables e below (s₁.setTop (mkF m 49 #[.val (.int p0), .val (.int p1), .val (.int p2), .val (.int p3), .val (.int p4), .val (.int (2 : Int32)), .val (.int (own_q p1)), .val (.int (own_q p2)), .val (.int (own_q p3)), .val (.int (own_q p4)), .unset, .unset, .unset, .unset, .unset] [(.int (1 : Int32)), (.int (2 : Int32))])) _
      refine XS.icmpYes X0.here hx rfl (pc0 := 49) (pc' := 66) rfl (hb hby at_49) rfl (feq (by decide : ¬ ((2 : Int32) = (1 : Int32)))).2 (by decide) (by decide) ?_
      show Steps p.tables e below (s₁.setTop (mkF m 66 #[.val (.int p0), .val (.int p1), .val (.int p2), .val (.int p3), .val (.int p4), .val (.int (2 : Int32)), .val (.int (own_q p1)), .val (.int (own_q p2)), .val (.int (own_q p3)), .val (.int (own_q p4)), .unset, .unset, .unset, .unset, .unset] [])) _
      refine XS.iload X0.here hx rfl (hb hby at_66) rfl ?_
      show Steps p.tables e below (s₁.setTop (mkF m 68 #[.val (.int p0), .val (.int p1), .val (.int p2), .val (.int p3), .val (.int p4), .val (.int (2 : Int32)), .val (.int (own_q p1)), .val (.int (own_q p2)), .val (.int (own_q p3)), .val (.int (own_q p4)), .unset, .unset, .unset, .unset, .unset] [(.int (2 : Int32))])) _
      refine XS.iconst X0.here hx rfl (hb hby at_68) ?_
      show Steps p.tables e below (s₁.setTop (mkF m 69 #[.val (.int p0), .val (.int p1), .val (.int p2), .val (.int p3), .val (.int p4), .val (.int (2 : Int32)), .val (.int (own_q p1)), .val (.int (own_q p2)), .val (.int (own_q p3)), .val (.int (own_q p4)), .unset, .unset, .unset, .unset, .unset] [(.int (2 : Int32)), (.int (2 : Int32))])) _
      refine XS.icmpNo X0.here hx rfl (hb hby at_69) rfl (teq (by decide : (2 : Int32) = (2 : Int32))).2 ?_
      show Steps p.tables e below (s₁.setTop (mkF m 72 #[.val (.int p0), .val (.int p1), .val (.int p2), .val (.int p3), .val (.int p4), .val (.int (2 : Int32)), .val (.int (own_q p1)), .val (.int (own_q p2)), .val (.int (own_q p3)), .val (.int (own_q p4)), .unset, .unset, .unset, .unset, .unset] [])) _
      refine XS.iconst X0.here hx rfl (hb hby at_72) ?_
      exact kt
    obtain ⟨T23, h23, k23, X23, e23, E23, A23, st23⟩ := newP X0 hx hZ (hw _ (List.mem_of_getElem? (i := 2) rfl)) e0 (g := (mkF m 73 #[.val (.int p0), .val (.int p1), .val (.int p2), .val (.int p3), .val (.int p4), .val (.int (2 : Int32)), .val (.int (own_q p1)), .val (.int (own_q p2)), .val (.int (own_q p3)), .val (.int (own_q p4)), .unset, .unset, .unset, .unset, .unset] [(.int (2 : Int32))])) rfl (hb hby at_73) rfl (by decide) (cap := 2) (by decide) (by decide) (by decide) (by decide)
    obtain ⟨b23, gq23⟩ : ∃ z, z = h0.size := ⟨_, rfl⟩
    rw [← gq23] at A23 st23
    have gg_b23 : n0 ≤ b23 := Nat.le_trans Z0 (Nat.le_of_eq gq23.symm)
    have V23 : Arv Z h23 b23 k23 .double (2 : Int32) [(.double 0), (.double 0)] (.double 0) := (Arv.new A23 (by decide)).pad (pad_rep [] (.double 0) 2)
    have pre24 : ∀ t, Steps p.tables e below (T23.setTop (mkF m 75 #[.val (.int p0), .val (.int p1), .val (.int p2), .val (.int p3), .val (.int p4), .val (.int (2 : Int32)), .val (.int (own_q p1)), .val (.int (own_q p2)), .val (.int (own_q p3)), .val (.int (own_q p4)), .unset, .unset, .unset, .unset, .unset] [(.ref b23)])) t → Steps p.tables e below (s₁.setTop (entryFrame m #[(.int p0), (.int p1), (.int p2), (.int p3), (.int p4)] maxLocals)) t := fun t kt => pre22 _ (st23 _ kt)
    obtain ⟨cl25, Ar25, qk25, Sz25, Nn25, Hh25, Gg25⟩ := id V23
    have hin25 : ¬ ((0 : Int32) < 0 ∨ cl25.slots.size ≤ ((0 : Int32)).toNatClampNeg) := inb_of Sz25 ⟨by decide, by decide⟩
    have pre26 : ∀ t, Steps p.tables e below (T23.setTop (mkF m 80 #[.val (.int p0), .val (.int p1), .val (.int p2), .val (.int p3), .val (.int p4), .val (.int (2 : Int32)), .val (.int (own_q p1)), .val (.int (own_q p2)), .val (.int (own_q p3)), .val (.int (own_q p4)), .unset, .unset, .unset, .unset, .unset] [(.double (FP.i2d (own_q p1))), (.int (0 : Int32)), (.ref b23), (.ref b23)])) t → Steps p.tables e below (s₁.setTop (entryFrame m #[(.int p0), (.int p1), (.int p2), (.int p3), (.int p4)] maxLocals)) t := fun t kt => by
      refine pre24 _ ?_
      show Steps p.tables e below (T23.setTop (mkF m 75 #[.val (.int p0), .val (.int p1), .val (.int p2), .val (.int p3), .val (.int p4), .val (.int (2 : Int32)), .val (.int (own_q p1)), .val (.int (own_q p2)), .val (.int (own_q p3)), .val (.int (own_q p4)), .unset, .unset, .unset, .unset, .unset] [(.ref b23)])) _
      refine XS.dup X23.here hx rfl (hb hby at_75) rfl rfl ?_
      show Steps p.tables e below (T23.setTop (mkF m 76 #[.val (.int p0), .val (.int p1), .val (.int p2), .val (.int p3), .val (.int p4), .val (.int (2 : Int32)), .val (.int (own_q p1)), .val (.int (own_q p2)), .val (.int (own_q p3)), .val (.int (own_q p4)), .unset, .unset, .unset, .unset, .unset] [(.ref b23), (.ref b23)])) _
      refine XS.iconst X23.here hx rfl (hb hby at_76) ?_
      show Steps p.tables e below (T23.setTop (mkF m 77 #[.val (.int p0), .val (.int p1), .val (.int p2), .val (.int p3), .val (.int p4), .val (.int (2 : Int32)), .val (.int (own_q p1)), .val (.int (own_q p2)), .val (.int (own_q p3)), .val (.int (own_q p4)), .unset, .unset, .unset, .unset, .unset] [(.int (0 : Int32)), (.ref b23), (.ref b23)])) _
      refine XS.iload X23.here hx rfl (hb hby at_77) rfl ?_
      show Steps p.tables e below (T23.setTop (mkF m 79 #[.val (.int p0), .val (.int p1), .val (.int p2), .val (.int p3), .val (.int p4), .val (.int (2 : Int32)), .val (.int (own_q p1)), .val (.int (own_q p2)), .val (.int (own_q p3)), .val (.int (own_q p4)), .unset, .unset, .unset, .unset, .unset] [(.int (own_q p1)), (.int (0 : Int32)), (.ref b23), (.ref b23)])) _
      refine XS.i2dS X23.here hx rfl (hb hby at_79) rfl rfl ?_
      exact kt
    obtain ⟨T27, h27, X27, e27, W27, st27⟩ := stD X23 hx hZ e23 Ar25 (j := (0 : Int32)) hin25 (g := (mkF m 80 #[.val (.int p0), .val (.int p1), .val (.int p2), .val (.int p3), .val (.int p4), .val (.int (2 : Int32)), .val (.int (own_q p1)), .val (.int (own_q p2)), .val (.int (own_q p3)), .val (.int (own_q p4)), .unset, .unset, .unset, .unset, .unset] [(.double (FP.i2d (own_q p1))), (.int (0 : Int32)), (.ref b23), (.ref b23)])) rfl rfl (hb hby at_80)
    have V27 := Arv.set Ar25 qk25 Sz25 Nn25 Hh25 Gg25 rfl W27 0 rfl (Nat.le_of_ble_eq_true rfl)
    have V27' : Arv Z h27 b23 k23 .double (2 : Int32) [(.double (FP.i2d (own_q p1))), (.double 0)] (.double 0) := V27
    have N27 := Fr.snoc X27 N0 gg_b23
    have pre28 : ∀ t, Steps p.tables e below (T27.setTop (mkF m 81 #[.val (.int p0), .val (.int p1), .val (.int p2), .val (.int p3), .val (.int p4), .val (.int (2 : Int32)), .val (.int (own_q p1)), .val (.int (own_q p2)), .val (.int (own_q p3)), .val (.int (own_q p4)), .unset, .unset, .unset, .unset, .unset] [(.ref b23)])) t → Steps p.tables e below (s₁.setTop (entryFrame m #[(.int p0), (.int p1), (.int p2), (.int p3), (.int p4)] maxLocals)) t := fun t kt => pre26 _ (st27 _ kt)
    obtain ⟨cl29, Ar29, qk29, Sz29, Nn29, Hh29, Gg29⟩ := id V27'
    have hin29 : ¬ ((1 : Int32) < 0 ∨ cl29.slots.size ≤ ((1 : Int32)).toNatClampNeg) := inb_of Sz29 ⟨by decide, by decide⟩
    have pre30 : ∀ t, Steps p.tables e below (T27.setTop (mkF m 86 #[.val (.int p0), .val (.int p1), .val (.int p2), .val (.int p3), .val (.int p4), .val (.int (2 : Int32)), .val (.int (own_q p1)), .val (.int (own_q p2)), .val (.int (own_q p3)), .val (.int (own_q p4)), .unset, .unset, .unset, .unset, .unset] [(.double (FP.i2d (own_q p2))), (.int (1 : Int32)), (.ref b23), (.ref b23)])) t → Steps p.tables e below (s₁.setTop (entryFrame m #[(.int p0), (.int p1), (.int p2), (.int p3), (.int p4)] maxLocals)) t := fun t kt => by
      refine pre28 _ ?_
      show Steps p.tables e below (T27.setTop (mkF m 81 #[.val (.int p0), .val (.int p1), .val (.int p2), .val (.int p3), .val (.int p4), .val (.int (2 : Int32)), .val (.int (own_q p1)), .val (.int (own_q p2)), .val (.int (own_q p3)), .val (.int (own_q p4)), .unset, .unset, .unset, .unset, .unset] [(.ref b23)])) _
      refine XS.dup X27.here hx rfl (hb hby at_81) rfl rfl ?_
      show Steps p.tables e below (T27.setTop (mkF m 82 #[.val (.int p0), .val (.int p1), .val (.int p2), .val (.int p3), .val (.int p4), .val (.int (2 : Int32)), .val (.int (own_q p1)), .val (.int (own_q p2)), .val (.int (own_q p3)), .val (.int (own_q p4)), .unset, .unset, .unset, .unset, .unset] [(.ref b23), (.ref b23)])) _
      refine XS.iconst X27.here hx rfl (hb hby at_82) ?_
      show Steps p.tables e below (T27.setTop (mkF m 83 #[.val (.int p0), .val (.int p1), .val (.int p2), .val (.int p3), .val (.int p4), .val (.int (2 : Int32)), .val (.int (own_q p1)), .val (.int (own_q p2)), .val (.int (own_q p3)), .val (.int (own_q p4)), .unset, .unset, .unset, .unset, .unset] [(.int (1 : Int32)), (.ref b23), (.ref b23)])) _
      refine XS.iload X27.here hx rfl (hb hby at_83) rfl ?_
      show Steps p.tables e below (T27.setTop (mkF m 85 #[.val (.int p0), .val (.int p1), .val (.int p2), .val (.int p3), .val (.int p4), .val (.int (2 : Int32)), .val (.int (own_q p1)), .val (.int (own_q p2)), .val (.int (own_q p3)), .val (.int (own_q p4)), .unset, .unset, .unset, .unset, .unset] [(.int (own_q p2)), (.int (1 : Int32)), (.ref b23), (.ref b23)])) _
      refine XS.i2dS X27.here hx rfl (hb hby at_85) rfl rfl ?_
      exact kt
    obtain ⟨T31, h31, X31, e31, W31, st31⟩ := stD X27 hx hZ e27 Ar29 (j := (1 : Int32)) hin29 (g := (mkF m 86 #[.val (.int p0), .val (.int p1), .val (.int p2), .val (.int p3), .val (.int p4), .val (.int (2 : Int32)), .val (.int (own_q p1)), .val (.int (own_q p2)), .val (.int (own_q p3)), .val (.int (own_q p4)), .unset, .unset, .unset, .unset, .unset] [(.double (FP.i2d (own_q p2))), (.int (1 : Int32)), (.ref b23), (.ref b23)])) rfl rfl (hb hby at_86)
    have V31 := Arv.set Ar29 qk29 Sz29 Nn29 Hh29 Gg29 rfl W31 1 rfl (Nat.le_of_ble_eq_true rfl)
    have V31' : Arv Z h31 b23 k23 .double (2 : Int32) [(.double (FP.i2d (own_q p1))), (.double (FP.i2d (own_q p2)))] (.double 0) := V31
    have N31 := Fr.snoc X31 N27 gg_b23
    have pre32 : ∀ t, Steps p.tables e below (T31.setTop (mkF m 87 #[.val (.int p0), .val (.int p1), .val (.int p2), .val (.int p3), .val (.int p4), .val (.int (2 : Int32)), .val (.int (own_q p1)), .val (.int (own_q p2)), .val (.int (own_q p3)), .val (.int (own_q p4)), .unset, .unset, .unset, .unset, .unset] [(.ref b23)])) t → Steps p.tables e below (s₁.setTop (entryFrame m #[(.int p0), (.int p1), (.int p2), (.int p3), (.int p4)] maxLocals)) t := fun t kt => pre30 _ (st31 _ kt)
    have z33 : n0 ≤ h31.size := (Nat.le_trans (Nat.le_trans (Nat.le_trans Z0 E23.1) (Keep.of_wr W27).1) (Keep.of_wr W31).1)
    have pre34 : ∀ t, Steps p.tables e below (T31.setTop (mkF m 230 #[.val (.int p0), .val (.int p1), .val (.int p2), .val (.int p3), .val (.int p4), .val (.int (2 : Int32)), .val (.int (own_q p1)), .val (.int (own_q p2)), .val (.int (own_q p3)), .val (.int (own_q p4)), .val (.ref b23), .val (.long (((0 : Int64) + (((own_q p1).toInt64) * ((own_q p1).toInt64))) + (((own_q p2).toInt64) * ((own_q p2).toInt64)))), .second, .unset, .unset] [(.ref b23)])) t → Steps p.tables e below (s₁.setTop (entryFrame m #[(.int p0), (.int p1), (.int p2), (.int p3), (.int p4)] maxLocals)) t := fun t kt => by
      refine pre32 _ ?_
      show Steps p.tables e below (T31.setTop (mkF m 87 #[.val (.int p0), .val (.int p1), .val (.int p2), .val (.int p3), .val (.int p4), .val (.int (2 : Int32)), .val (.int (own_q p1)), .val (.int (own_q p2)), .val (.int (own_q p3)), .val (.int (own_q p4)), .unset, .unset, .unset, .unset, .unset] [(.ref b23)])) _
      refine XS.astore X31.here hx rfl (hb hby at_87) rfl rfl (l' := #[.val (.int p0), .val (.int p1), .val (.int p2), .val (.int p3), .val (.int p4), .val (.int (2 : Int32)), .val (.int (own_q p1)), .val (.int (own_q p2)), .val (.int (own_q p3)), .val (.int (own_q p4)), .val (.ref b23), .unset, .unset, .unset, .unset]) rfl ?_
      show Steps p.tables e below (T31.setTop (mkF m 89 #[.val (.int p0), .val (.int p1), .val (.int p2), .val (.int p3), .val (.int p4), .val (.int (2 : Int32)), .val (.int (own_q p1)), .val (.int (own_q p2)), .val (.int (own_q p3)), .val (.int (own_q p4)), .val (.ref b23), .unset, .unset, .unset, .unset] [])) _
      refine XS.goto X31.here hx rfl (pc0 := 89) (pc' := 153) rfl (hb hby at_89) (by decide) (by decide) ?_
      show Steps p.tables e below (T31.setTop (mkF m 153 #[.val (.int p0), .val (.int p1), .val (.int p2), .val (.int p3), .val (.int p4), .val (.int (2 : Int32)), .val (.int (own_q p1)), .val (.int (own_q p2)), .val (.int (own_q p3)), .val (.int (own_q p4)), .val (.ref b23), .unset, .unset, .unset, .unset] [])) _
      refine XS.lconst X31.here hx rfl (hb hby at_153) ?_
      show Steps p.tables e below (T31.setTop (mkF m 154 #[.val (.int p0), .val (.int p1), .val (.int p2), .val (.int p3), .val (.int p4), .val (.int (2 : Int32)), .val (.int (own_q p1)), .val (.int (own_q p2)), .val (.int (own_q p3)), .val (.int (own_q p4)), .val (.ref b23), .unset, .unset, .unset, .unset] [(.long (0 : Int64))])) _
      refine XS.lstore X31.here hx rfl (hb hby at_154) rfl (l' := #[.val (.int p0), .val (.int p1), .val (.int p2), .val (.int p3), .val (.int p4), .val (.int (2 : Int32)), .val (.int (own_q p1)), .val (.int (own_q p2)), .val (.int (own_q p3)), .val (.int (own_q p4)), .val (.ref b23), .val (.long (0 : Int64)), .second, .unset, .unset]) rfl ?_
      show Steps p.tables e below (T31.setTop (mkF m 156 #[.val (.int p0), .val (.int p1), .val (.int p2), .val (.int p3), .val (.int p4), .val (.int (2 : Int32)), .val (.int (own_q p1)), .val (.int (own_q p2)), .val (.int (own_q p3)), .val (.int (own_q p4)), .val (.ref b23), .val (.long (0 : Int64)), .second, .unset, .unset] [])) _
      refine XS.iload X31.here hx rfl (hb hby at_156) rfl ?_
      show Steps p.tables e below (T31.setTop (mkF m 158 #[.val (.int p0), .val (.int p1), .val (.int p2), .val (.int p3), .val (.int p4), .val (.int (2 : Int32)), .val (.int (own_q p1)), .val (.int (own_q p2)), .val (.int (own_q p3)), .val (.int (own_q p4)), .val (.ref b23), .val (.long (0 : Int64)), .second, .unset, .unset] [(.int (2 : Int32))])) _
      refine XS.iconst X31.here hx rfl (hb hby at_158) ?_
      show Steps p.tables e below (T31.setTop (mkF m 159 #[.val (.int p0), .val (.int p1), .val (.int p2), .val (.int p3), .val (.int p4), .val (.int (2 : Int32)), .val (.int (own_q p1)), .val (.int (own_q p2)), .val (.int (own_q p3)), .val (.int (own_q p4)), .val (.ref b23), .val (.long (0 : Int64)), .second, .unset, .unset] [(.int (1 : Int32)), (.int (2 : Int32))])) _
      refine XS.icmpNo X31.here hx rfl (hb hby at_159) rfl (flt (by decide : ¬ ((2 : Int32) < (1 : Int32)))).1 ?_
      show Steps p.tables e below (T31.setTop (mkF m 162 #[.val (.int p0), .val (.int p1), .val (.int p2), .val (.int p3), .val (.int p4), .val (.int (2 : Int32)), .val (.int (own_q p1)), .val (.int (own_q p2)), .val (.int (own_q p3)), .val (.int (own_q p4)), .val (.ref b23), .val (.long (0 : Int64)), .second, .unset, .unset] [])) _
      refine XS.lload X31.here hx rfl (hb hby at_162) rfl ?_
      show Steps p.tables e below (T31.setTop (mkF m 164 #[.val (.int p0), .val (.int p1), .val (.int p2), .val (.int p3), .val (.int p4), .val (.int (2 : Int32)), .val (.int (own_q p1)), .val (.int (own_q p2)), .val (.int (own_q p3)), .val (.int (own_q p4)), .val (.ref b23), .val (.long (0 : Int64)), .second, .unset, .unset] [(.long (0 : Int64))])) _
      refine XS.iload X31.here hx rfl (hb hby at_164) rfl ?_
      show Steps p.tables e below (T31.setTop (mkF m 166 #[.val (.int p0), .val (.int p1), .val (.int p2), .val (.int p3), .val (.int p4), .val (.int (2 : Int32)), .val (.int (own_q p1)), .val (.int (own_q p2)), .val (.int (own_q p3)), .val (.int (own_q p4)), .val (.ref b23), .val (.long (0 : Int64)), .second, .unset, .unset] [(.int (own_q p1)), (.long (0 : Int64))])) _
      refine XS.i2l X31.here hx rfl (hb hby at_166) rfl ?_
      show Steps p.tables e below (T31.setTop (mkF m 167 #[.val (.int p0), .val (.int p1), .val (.int p2), .val (.int p3), .val (.int p4), .val (.int (2 : Int32)), .val (.int (own_q p1)), .val (.int (own_q p2)), .val (.int (own_q p3)), .val (.int (own_q p4)), .val (.ref b23), .val (.long (0 : Int64)), .second, .unset, .unset] [(.long ((own_q p1).toInt64)), (.long (0 : Int64))])) _
      refine XS.iload X31.here hx rfl (hb hby at_167) rfl ?_
      show Steps p.tables e below (T31.setTop (mkF m 169 #[.val (.int p0), .val (.int p1), .val (.int p2), .val (.int p3), .val (.int p4), .val (.int (2 : Int32)), .val (.int (own_q p1)), .val (.int (own_q p2)), .val (.int (own_q p3)), .val (.int (own_q p4)), .val (.ref b23), .val (.long (0 : Int64)), .second, .unset, .unset] [(.int (own_q p1)), (.long ((own_q p1).toInt64)), (.long (0 : Int64))])) _
      refine XS.i2l X31.here hx rfl (hb hby at_169) rfl ?_
      show Steps p.tables e below (T31.setTop (mkF m 170 #[.val (.int p0), .val (.int p1), .val (.int p2), .val (.int p3), .val (.int p4), .val (.int (2 : Int32)), .val (.int (own_q p1)), .val (.int (own_q p2)), .val (.int (own_q p3)), .val (.int (own_q p4)), .val (.ref b23), .val (.long (0 : Int64)), .second, .unset, .unset] [(.long ((own_q p1).toInt64)), (.long ((own_q p1).toInt64)), (.long (0 : Int64))])) _
      refine XS.lmul X31.here hx rfl (hb hby at_170) rfl ?_
      show Steps p.tables e below (T31.setTop (mkF m 171 #[.val (.int p0), .val (.int p1), .val (.int p2), .val (.int p3), .val (.int p4), .val (.int (2 : Int32)), .val (.int (own_q p1)), .val (.int (own_q p2)), .val (.int (own_q p3)), .val (.int (own_q p4)), .val (.ref b23), .val (.long (0 : Int64)), .second, .unset, .unset] [(.long (((own_q p1).toInt64) * ((own_q p1).toInt64))), (.long (0 : Int64))])) _
      refine XS.ladd X31.here hx rfl (hb hby at_171) rfl ?_
      show Steps p.tables e below (T31.setTop (mkF m 172 #[.val (.int p0), .val (.int p1), .val (.int p2), .val (.int p3), .val (.int p4), .val (.int (2 : Int32)), .val (.int (own_q p1)), .val (.int (own_q p2)), .val (.int (own_q p3)), .val (.int (own_q p4)), .val (.ref b23), .val (.long (0 : Int64)), .second, .unset, .unset] [(.long ((0 : Int64) + (((own_q p1).toInt64) * ((own_q p1).toInt64))))])) _
      refine XS.lstore X31.here hx rfl (hb hby at_172) rfl (l' := #[.val (.int p0), .val (.int p1), .val (.int p2), .val (.int p3), .val (.int p4), .val (.int (2 : Int32)), .val (.int (own_q p1)), .val (.int (own_q p2)), .val (.int (own_q p3)), .val (.int (own_q p4)), .val (.ref b23), .val (.long ((0 : Int64) + (((own_q p1).toInt64) * ((own_q p1).toInt64)))), .second, .unset, .unset]) rfl ?_
      show Steps p.tables e below (T31.setTop (mkF m 174 #[.val (.int p0), .val (.int p1), .val (.int p2), .val (.int p3), .val (.int p4), .val (.int (2 : Int32)), .val (.int (own_q p1)), .val (.int (own_q p2)), .val (.int (own_q p3)), .val (.int (own_q p4)), .val (.ref b23), .val (.long ((0 : Int64) + (((own_q p1).toInt64) * ((own_q p1).toInt64)))), .second, .unset, .unset] [])) _
      refine XS.iload X31.here hx rfl (hb hby at_174) rfl ?_
      show Steps p.tables e below (T31.setTop (mkF m 176 #[.val (.int p0), .val (.int p1), .val (.int p2), .val (.int p3), .val (.int p4), .val (.int (2 : Int32)), .val (.int (own_q p1)), .val (.int (own_q p2)), .val (.int (own_q p3)), .val (.int (own_q p4)), .val (.ref b23), .val (.long ((0 : Int64) + (((own_q p1).toInt64) * ((own_q p1).toInt64)))), .second, .unset, .unset] [(.int (2 : Int32))])) _
      refine XS.iconst X31.here hx rfl (hb hby at_176) ?_
      show Steps p.tables e below (T31.setTop (mkF m 177 #[.val (.int p0), .val (.int p1), .val (.int p2), .val (.int p3), .val (.int p4), .val (.int (2 : Int32)), .val (.int (own_q p1)), .val (.int (own_q p2)), .val (.int (own_q p3)), .val (.int (own_q p4)), .val (.ref b23), .val (.long ((0 : Int64) + (((own_q p1).toInt64) * ((own_q p1).toInt64)))), .second, .unset, .unset] [(.int (2 : Int32)), (.int (2 : Int32))])) _
      refine XS.icmpNo X31.here hx rfl (hb hby at_177) rfl (flt (by decide : ¬ ((2 : Int32) < (2 : Int32)))).1 ?_
      show Steps p.tables e below (T31.setTop (mkF m 180 #[.val (.int p0), .val (.int p1), .val (.int p2), .val (.int p3), .val (.int p4), .val (.int (2 : Int32)), .val (.int (own_q p1)), .val (.int (own_q p2)), .val (.int (own_q p3)), .val (.int (own_q p4)), .val (.ref b23), .val (.long ((0 : Int64) + (((own_q p1).toInt64) * ((own_q p1).toInt64)))), .second, .unset, .unset] [])) _
      refine XS.lload X31.here hx rfl (hb hby at_180) rfl ?_
      show Steps p.tables e below (T31.setTop (mkF m 182 #[.val (.int p0), .val (.int p1), .val (.int p2), .val (.int p3), .val (.int p4), .val (.int (2 : Int32)), .val (.int (own_q p1)), .val (.int (own_q p2)), .val (.int (own_q p3)), .val (.int (own_q p4)), .val (.ref b23), .val (.long ((0 : Int64) + (((own_q p1).toInt64) * ((own_q p1).toInt64)))), .second, .unset, .unset] [(.long ((0 : Int64) + (((own_q p1).toInt64) * ((own_q p1).toInt64))))])) _
      refine XS.iload X31.here hx rfl (hb hby at_182) rfl ?_
      show Steps p.tables e below (T31.setTop (mkF m 184 #[.val (.int p0), .val (.int p1), .val (.int p2), .val (.int p3), .val (.int p4), .val (.int (2 : Int32)), .val (.int (own_q p1)), .val (.int (own_q p2)), .val (.int (own_q p3)), .val (.int (own_q p4)), .val (.ref b23), .val (.long ((0 : Int64) + (((own_q p1).toInt64) * ((own_q p1).toInt64)))), .second, .unset, .unset] [(.int (own_q p2)), (.long ((0 : Int64) + (((own_q p1).toInt64) * ((own_q p1).toInt64))))])) _
      refine XS.i2l X31.here hx rfl (hb hby at_184) rfl ?_
      show Steps p.tables e below (T31.setTop (mkF m 185 #[.val (.int p0), .val (.int p1), .val (.int p2), .val (.int p3), .val (.int p4), .val (.int (2 : Int32)), .val (.int (own_q p1)), .val (.int (own_q p2)), .val (.int (own_q p3)), .val (.int (own_q p4)), .val (.ref b23), .val (.long ((0 : Int64) + (((own_q p1).toInt64) * ((own_q p1).toInt64)))), .second, .unset, .unset] [(.long ((own_q p2).toInt64)), (.long ((0 : Int64) + (((own_q p1).toInt64) * ((own_q p1).toInt64))))])) _
      refine XS.iload X31.here hx rfl (hb hby at_185) rfl ?_
      show Steps p.tables e below (T31.setTop (mkF m 187 #[.val (.int p0), .val (.int p1), .val (.int p2), .val (.int p3), .val (.int p4), .val (.int (2 : Int32)), .val (.int (own_q p1)), .val (.int (own_q p2)), .val (.int (own_q p3)), .val (.int (own_q p4)), .val (.ref b23), .val (.long ((0 : Int64) + (((own_q p1).toInt64) * ((own_q p1).toInt64)))), .second, .unset, .unset] [(.int (own_q p2)), (.long ((own_q p2).toInt64)), (.long ((0 : Int64) + (((own_q p1).toInt64) * ((own_q p1).toInt64))))])) _
      refine XS.i2l X31.here hx rfl (hb hby at_187) rfl ?_
      show Steps p.tables e below (T31.setTop (mkF m 188 #[.val (.int p0), .val (.int p1), .val (.int p2), .val (.int p3), .val (.int p4), .val (.int (2 : Int32)), .val (.int (own_q p1)), .val (.int (own_q p2)), .val (.int (own_q p3)), .val (.int (own_q p4)), .val (.ref b23), .val (.long ((0 : Int64) + (((own_q p1).toInt64) * ((own_q p1).toInt64)))), .second, .unset, .unset] [(.long ((own_q p2).toInt64)), (.long ((own_q p2).toInt64)), (.long ((0 : Int64) + (((own_q p1).toInt64) * ((own_q p1).toInt64))))])) _
      refine XS.lmul X31.here hx rfl (hb hby at_188) rfl ?_
      show Steps p.tables e below (T31.setTop (mkF m 189 #[.val (.int p0), .val (.int p1), .val (.int p2), .val (.int p3), .val (.int p4), .val (.int (2 : Int32)), .val (.int (own_q p1)), .val (.int (own_q p2)), .val (.int (own_q p3)), .val (.int (own_q p4)), .val (.ref b23), .val (.long ((0 : Int64) + (((own_q p1).toInt64) * ((own_q p1).toInt64)))), .second, .unset, .unset] [(.long (((own_q p2).toInt64) * ((own_q p2).toInt64))), (.long ((0 : Int64) + (((own_q p1).toInt64) * ((own_q p1).toInt64))))])) _
      refine XS.ladd X31.here hx rfl (hb hby at_189) rfl ?_
      show Steps p.tables e below (T31.setTop (mkF m 190 #[.val (.int p0), .val (.int p1), .val (.int p2), .val (.int p3), .val (.int p4), .val (.int (2 : Int32)), .val (.int (own_q p1)), .val (.int (own_q p2)), .val (.int (own_q p3)), .val (.int (own_q p4)), .val (.ref b23), .val (.long ((0 : Int64) + (((own_q p1).toInt64) * ((own_q p1).toInt64)))), .second, .unset, .unset] [(.long (((0 : Int64) + (((own_q p1).toInt64) * ((own_q p1).toInt64))) + (((own_q p2).toInt64) * ((own_q p2).toInt64))))])) _
      refine XS.lstore X31.here hx rfl (hb hby at_190) rfl (l' := #[.val (.int p0), .val (.int p1), .val (.int p2), .val (.int p3), .val (.int p4), .val (.int (2 : Int32)), .val (.int (own_q p1)), .val (.int (own_q p2)), .val (.int (own_q p3)), .val (.int (own_q p4)), .val (.ref b23), .val (.long (((0 : Int64) + (((own_q p1).toInt64) * ((own_q p1).toInt64))) + (((own_q p2).toInt64) * ((own_q p2).toInt64)))), .second, .unset, .unset]) rfl ?_
      show Steps p.tables e below (T31.setTop (mkF m 192 #[.val (.int p0), .val (.int p1), .val (.int p2), .val (.int p3), .val (.int p4), .val (.int (2 : Int32)), .val (.int (own_q p1)), .val (.int (own_q p2)), .val (.int (own_q p3)), .val (.int (own_q p4)), .val (.ref b23), .val (.long (((0 : Int64) + (((own_q p1).toInt64) * ((own_q p1).toInt64))) + (((own_q p2).toInt64) * ((own_q p2).toInt64)))), .second, .unset, .unset] [])) _
      refine XS.iload X31.here hx rfl (hb hby at_192) rfl ?_
      show Steps p.tables e below (T31.setTop (mkF m 194 #[.val (.int p0), .val (.int p1), .val (.int p2), .val (.int p3), .val (.int p4), .val (.int (2 : Int32)), .val (.int (own_q p1)), .val (.int (own_q p2)), .val (.int (own_q p3)), .val (.int (own_q p4)), .val (.ref b23), .val (.long (((0 : Int64) + (((own_q p1).toInt64) * ((own_q p1).toInt64))) + (((own_q p2).toInt64) * ((own_q p2).toInt64)))), .second, .unset, .unset] [(.int (2 : Int32))])) _
      refine XS.iconst X31.here hx rfl (hb hby at_194) ?_
      show Steps p.tables e below (T31.setTop (mkF m 195 #[.val (.int p0), .val (.int p1), .val (.int p2), .val (.int p3), .val (.int p4), .val (.int (2 : Int32)), .val (.int (own_q p1)), .val (.int (own_q p2)), .val (.int (own_q p3)), .val (.int (own_q p4)), .val (.ref b23), .val (.long (((0 : Int64) + (((own_q p1).toInt64) * ((own_q p1).toInt64))) + (((own_q p2).toInt64) * ((own_q p2).toInt64)))), .second, .unset, .unset] [(.int (3 : Int32)), (.int (2 : Int32))])) _
      refine XS.icmpYes X31.here hx rfl (pc0 := 195) (pc' := 210) rfl (hb hby at_195) rfl (tlt (by decide : (2 : Int32) < (3 : Int32))).1 (by decide) (by decide) ?_
      show Steps p.tables e below (T31.setTop (mkF m 210 #[.val (.int p0), .val (.int p1), .val (.int p2), .val (.int p3), .val (.int p4), .val (.int (2 : Int32)), .val (.int (own_q p1)), .val (.int (own_q p2)), .val (.int (own_q p3)), .val (.int (own_q p4)), .val (.ref b23), .val (.long (((0 : Int64) + (((own_q p1).toInt64) * ((own_q p1).toInt64))) + (((own_q p2).toInt64) * ((own_q p2).toInt64)))), .second, .unset, .unset] [])) _
      refine XS.iload X31.here hx rfl (hb hby at_210) rfl ?_
      show Steps p.tables e below (T31.setTop (mkF m 212 #[.val (.int p0), .val (.int p1), .val (.int p2), .val (.int p3), .val (.int p4), .val (.int (2 : Int32)), .val (.int (own_q p1)), .val (.int (own_q p2)), .val (.int (own_q p3)), .val (.int (own_q p4)), .val (.ref b23), .val (.long (((0 : Int64) + (((own_q p1).toInt64) * ((own_q p1).toInt64))) + (((own_q p2).toInt64) * ((own_q p2).toInt64)))), .second, .unset, .unset] [(.int (2 : Int32))])) _
      refine XS.iconst X31.here hx rfl (hb hby at_212) ?_
      show Steps p.tables e below (T31.setTop (mkF m 213 #[.val (.int p0), .val (.int p1), .val (.int p2), .val (.int p3), .val (.int p4), .val (.int (2 : Int32)), .val (.int (own_q p1)), .val (.int (own_q p2)), .val (.int (own_q p3)), .val (.int (own_q p4)), .val (.ref b23), .val (.long (((0 : Int64) + (((own_q p1).toInt64) * ((own_q p1).toInt64))) + (((own_q p2).toInt64) * ((own_q p2).toInt64)))), .second, .unset, .unset] [(.int (4 : Int32)), (.int (2 : Int32))])) _
      refine XS.icmpYes X31.here hx rfl (pc0 := 213) (pc' := 228) rfl (hb hby at_213) rfl (tlt (by decide : (2 : Int32) < (4 : Int32))).1 (by decide) (by decide) ?_
      show Steps p.tables e below (T31.setTop (mkF m 228 #[.val (.int p0), .val (.int p1), .val (.int p2), .val (.int p3), .val (.int p4), .val (.int (2 : Int32)), .val (.int (own_q p1)), .val (.int (own_q p2)), .val (.int (own_q p3)), .val (.int (own_q p4)), .val (.ref b23), .val (.long (((0 : Int64) + (((own_q p1).toInt64) * ((own_q p1).toInt64))) + (((own_q p2).toInt64) * ((own_q p2).toInt64)))), .second, .unset, .unset] [])) _
      refine XS.aload X31.here hx rfl (hb hby at_228) rfl rfl ?_
      exact kt
    obtain ⟨_, _, ⟨T35, L35, kc35, nc35⟩, -, X35, ⟨Lc35, hQ35, l35, y35, z35⟩, st35⟩ := Jvm.LawKit.callS X31 hx (y := (⟨"com/example/vidura/vidura/stats/Values", "sumOfSquares", "([D)D"⟩ : MethodName)) hown (mvT hZ (hw _ (List.mem_of_getElem? (i := 3) rfl))) (mvT hZ (hw _ (List.mem_of_getElem? (i := 4) rfl))) (mvT hZ (hw _ (List.mem_of_getElem? (i := 5) rfl))) (mvT hZ (hw _ (List.mem_of_getElem? (i := 6) rfl))) (by decide) (backOf (W := 0) (rm1m2 l Z a0 hw [] b23 k23 (own_q p1) (own_q p2) h31 n0 z33 V31' (own_q_sm p1) (own_q_sm p2)) hZ (hw _ (List.mem_of_getElem? (i := 6) rfl)) (hw _ (List.mem_of_getElem? (i := 5) rfl)) (by decide) (by decide)) (g := (mkF m 230 #[.val (.int p0), .val (.int p1), .val (.int p2), .val (.int p3), .val (.int p4), .val (.int (2 : Int32)), .val (.int (own_q p1)), .val (.int (own_q p2)), .val (.int (own_q p3)), .val (.int (own_q p4)), .val (.ref b23), .val (.long (((0 : Int64) + (((own_q p1).toInt64) * ((own_q p1).toInt64))) + (((own_q p2).toInt64) * ((own_q p2).toInt64)))), .second, .unset, .unset] [(.ref b23)])) rfl (by rw [hml]; rfl) (argsL := [(.ref b23)]) (rest := []) (lenOf pd_0 rfl) rfl (by show 2 * 0 + _ ≤ _; exact Nat.le_of_eq rfl) (hb hby at_230) (fun _ _ => ⟨rfl, e31, (by decide : 1 + 0 ≤ _), (by decide : 2 + 0 ≤ _)⟩)
    dsimp only [Pt.U, Pt.locs, Pt.cells, Pt.slots] at X35 l35 y35 z35 st35 hQ35
    subst l35 y35 z35
    obtain ⟨rfl, N35q, he35⟩ := hQ35
    have N35 := Fr.app N31 N35q
    have pre36 : ∀ t, Steps p.tables e below (T35.setTop (mkF m 233 #[.val (.int p0), .val (.int p1), .val (.int p2), .val (.int p3), .val (.int p4), .val (.int (2 : Int32)), .val (.int (own_q p1)), .val (.int (own_q p2)), .val (.int (own_q p3)), .val (.int (own_q p4)), .val (.ref b23), .val (.long (((0 : Int64) + (((own_q p1).toInt64) * ((own_q p1).toInt64))) + (((own_q p2).toInt64) * ((own_q p2).toInt64)))), .second, .unset, .unset] [(.double (FP.l2d (((0 : Int64) + (((own_q p1).toInt64) * ((own_q p1).toInt64))) + (((own_q p2).toInt64) * ((own_q p2).toInt64)))))])) t → Steps p.tables e below (s₁.setTop (entryFrame m #[(.int p0), (.int p1), (.int p2), (.int p3), (.int p4)] maxLocals)) t := fun t kt => pre34 _ (st35 _ kt)
    have pre37 : ∀ t, Steps p.tables e below (T35.setTop (mkF m 249 #[.val (.int p0), .val (.int p1), .val (.int p2), .val (.int p3), .val (.int p4), .val (.int (2 : Int32)), .val (.int (own_q p1)), .val (.int (own_q p2)), .val (.int (own_q p3)), .val (.int (own_q p4)), .val (.ref b23), .val (.long (((0 : Int64) + (((own_q p1).toInt64) * ((own_q p1).toInt64))) + (((own_q p2).toInt64) * ((own_q p2).toInt64)))), .second, .val (.double (FP.l2d (((0 : Int64) + (((own_q p1).toInt64) * ((own_q p1).toInt64))) + (((own_q p2).toInt64) * ((own_q p2).toInt64))))), .second] [(.int (1 : Int32))])) t → Steps p.tables e below (s₁.setTop (entryFrame m #[(.int p0), (.int p1), (.int p2), (.int p3), (.int p4)] maxLocals)) t := fun t kt => by
      refine pre36 _ ?_
      show Steps p.tables e below (T35.setTop (mkF m 233 #[.val (.int p0), .val (.int p1), .val (.int p2), .val (.int p3), .val (.int p4), .val (.int (2 : Int32)), .val (.int (own_q p1)), .val (.int (own_q p2)), .val (.int (own_q p3)), .val (.int (own_q p4)), .val (.ref b23), .val (.long (((0 : Int64) + (((own_q p1).toInt64) * ((own_q p1).toInt64))) + (((own_q p2).toInt64) * ((own_q p2).toInt64)))), .second, .unset, .unset] [(.double (FP.l2d (((0 : Int64) + (((own_q p1).toInt64) * ((own_q p1).toInt64))) + (((own_q p2).toInt64) * ((own_q p2).toInt64)))))])) _
      refine XS.dstore X35.here hx rfl (hb hby at_233) rfl (l' := #[.val (.int p0), .val (.int p1), .val (.int p2), .val (.int p3), .val (.int p4), .val (.int (2 : Int32)), .val (.int (own_q p1)), .val (.int (own_q p2)), .val (.int (own_q p3)), .val (.int (own_q p4)), .val (.ref b23), .val (.long (((0 : Int64) + (((own_q p1).toInt64) * ((own_q p1).toInt64))) + (((own_q p2).toInt64) * ((own_q p2).toInt64)))), .second, .val (.double (FP.l2d (((0 : Int64) + (((own_q p1).toInt64) * ((own_q p1).toInt64))) + (((own_q p2).toInt64) * ((own_q p2).toInt64))))), .second]) rfl ?_
      show Steps p.tables e below (T35.setTop (mkF m 235 #[.val (.int p0), .val (.int p1), .val (.int p2), .val (.int p3), .val (.int p4), .val (.int (2 : Int32)), .val (.int (own_q p1)), .val (.int (own_q p2)), .val (.int (own_q p3)), .val (.int (own_q p4)), .val (.ref b23), .val (.long (((0 : Int64) + (((own_q p1).toInt64) * ((own_q p1).toInt64))) + (((own_q p2).toInt64) * ((own_q p2).toInt64)))), .second, .val (.double (FP.l2d (((0 : Int64) + (((own_q p1).toInt64) * ((own_q p1).toInt64))) + (((own_q p2).toInt64) * ((own_q p2).toInt64))))), .second] [])) _
      refine XS.dload X35.here hx rfl (hb hby at_235) rfl ?_
      show Steps p.tables e below (T35.setTop (mkF m 237 #[.val (.int p0), .val (.int p1), .val (.int p2), .val (.int p3), .val (.int p4), .val (.int (2 : Int32)), .val (.int (own_q p1)), .val (.int (own_q p2)), .val (.int (own_q p3)), .val (.int (own_q p4)), .val (.ref b23), .val (.long (((0 : Int64) + (((own_q p1).toInt64) * ((own_q p1).toInt64))) + (((own_q p2).toInt64) * ((own_q p2).toInt64)))), .second, .val (.double (FP.l2d (((0 : Int64) + (((own_q p1).toInt64) * ((own_q p1).toInt64))) + (((own_q p2).toInt64) * ((own_q p2).toInt64))))), .second] [(.double (FP.l2d (((0 : Int64) + (((own_q p1).toInt64) * ((own_q p1).toInt64))) + (((own_q p2).toInt64) * ((own_q p2).toInt64)))))])) _
      refine XS.lload X35.here hx rfl (hb hby at_237) rfl ?_
      show Steps p.tables e below (T35.setTop (mkF m 239 #[.val (.int p0), .val (.int p1), .val (.int p2), .val (.int p3), .val (.int p4), .val (.int (2 : Int32)), .val (.int (own_q p1)), .val (.int (own_q p2)), .val (.int (own_q p3)), .val (.int (own_q p4)), .val (.ref b23), .val (.long (((0 : Int64) + (((own_q p1).toInt64) * ((own_q p1).toInt64))) + (((own_q p2).toInt64) * ((own_q p2).toInt64)))), .second, .val (.double (FP.l2d (((0 : Int64) + (((own_q p1).toInt64) * ((own_q p1).toInt64))) + (((own_q p2).toInt64) * ((own_q p2).toInt64))))), .second] [(.long (((0 : Int64) + (((own_q p1).toInt64) * ((own_q p1).toInt64))) + (((own_q p2).toInt64) * ((own_q p2).toInt64)))), (.double (FP.l2d (((0 : Int64) + (((own_q p1).toInt64) * ((own_q p1).toInt64))) + (((own_q p2).toInt64) * ((own_q p2).toInt64)))))])) _
      refine XS.l2dS X35.here hx rfl (hb hby at_239) rfl rfl ?_
      show Steps p.tables e below (T35.setTop (mkF m 240 #[.val (.int p0), .val (.int p1), .val (.int p2), .val (.int p3), .val (.int p4), .val (.int (2 : Int32)), .val (.int (own_q p1)), .val (.int (own_q p2)), .val (.int (own_q p3)), .val (.int (own_q p4)), .val (.ref b23), .val (.long (((0 : Int64) + (((own_q p1).toInt64) * ((own_q p1).toInt64))) + (((own_q p2).toInt64) * ((own_q p2).toInt64)))), .second, .val (.double (FP.l2d (((0 : Int64) + (((own_q p1).toInt64) * ((own_q p1).toInt64))) + (((own_q p2).toInt64) * ((own_q p2).toInt64))))), .second] [(.double (FP.l2d (((0 : Int64) + (((own_q p1).toInt64) * ((own_q p1).toInt64))) + (((own_q p2).toInt64) * ((own_q p2).toInt64))))), (.double (FP.l2d (((0 : Int64) + (((own_q p1).toInt64) * ((own_q p1).toInt64))) + (((own_q p2).toInt64) * ((own_q p2).toInt64)))))])) _
      refine XS.dcmpS X35.here hx rfl (hb hby at_240) rfl (dcmpV_self (nn_w rfl) _) ?_
      show Steps p.tables e below (T35.setTop (mkF m 241 #[.val (.int p0), .val (.int p1), .val (.int p2), .val (.int p3), .val (.int p4), .val (.int (2 : Int32)), .val (.int (own_q p1)), .val (.int (own_q p2)), .val (.int (own_q p3)), .val (.int (own_q p4)), .val (.ref b23), .val (.long (((0 : Int64) + (((own_q p1).toInt64) * ((own_q p1).toInt64))) + (((own_q p2).toInt64) * ((own_q p2).toInt64)))), .second, .val (.double (FP.l2d (((0 : Int64) + (((own_q p1).toInt64) * ((own_q p1).toInt64))) + (((own_q p2).toInt64) * ((own_q p2).toInt64))))), .second] [(.int (0 : Int32))])) _
      refine XS.ifNo X35.here hx rfl (hb hby at_241) rfl ((if0 _ _).trans (teq (by decide : (0 : Int32) = (0 : Int32))).2) ?_
      show Steps p.tables e below (T35.setTop (mkF m 244 #[.val (.int p0), .val (.int p1), .val (.int p2), .val (.int p3), .val (.int p4), .val (.int (2 : Int32)), .val (.int (own_q p1)), .val (.int (own_q p2)), .val (.int (own_q p3)), .val (.int (own_q p4)), .val (.ref b23), .val (.long (((0 : Int64) + (((own_q p1).toInt64) * ((own_q p1).toInt64))) + (((own_q p2).toInt64) * ((own_q p2).toInt64)))), .second, .val (.double (FP.l2d (((0 : Int64) + (((own_q p1).toInt64) * ((own_q p1).toInt64))) + (((own_q p2).toInt64) * ((own_q p2).toInt64))))), .second] [])) _
      refine XS.iconst X35.here hx rfl (hb hby at_244) ?_
      show Steps p.tables e below (T35.setTop (mkF m 245 #[.val (.int p0), .val (.int p1), .val (.int p2), .val (.int p3), .val (.int p4), .val (.int (2 : Int32)), .val (.int (own_q p1)), .val (.int (own_q p2)), .val (.int (own_q p3)), .val (.int (own_q p4)), .val (.ref b23), .val (.long (((0 : Int64) + (((own_q p1).toInt64) * ((own_q p1).toInt64))) + (((own_q p2).toInt64) * ((own_q p2).toInt64)))), .second, .val (.double (FP.l2d (((0 : Int64) + (((own_q p1).toInt64) * ((own_q p1).toInt64))) + (((own_q p2).toInt64) * ((own_q p2).toInt64))))), .second] [(.int (1 : Int32))])) _
      refine XS.goto X35.here hx rfl (pc0 := 245) (pc' := 249) rfl (hb hby at_245) (by decide) (by decide) ?_
      exact kt
    obtain ⟨fs, hr, hrun, hended, hW, hsame⟩ := X35.leave (v := (some (.int (1 : Int32)))) (fun h => by rw [Bd.returns] at h; cases h)
    refine ⟨_, _, pre37 _ ?_, hrun, hended, _, _, rfl, ?_, ⟨_, rfl⟩, hW, hsame.mono (by decide) (by decide)⟩
    · show Steps p.tables e below (T35.setTop (mkF m 249 #[.val (.int p0), .val (.int p1), .val (.int p2), .val (.int p3), .val (.int p4), .val (.int (2 : Int32)), .val (.int (own_q p1)), .val (.int (own_q p2)), .val (.int (own_q p3)), .val (.int (own_q p4)), .val (.ref b23), .val (.long (((0 : Int64) + (((own_q p1).toInt64) * ((own_q p1).toInt64))) + (((own_q p2).toInt64) * ((own_q p2).toInt64)))), .second, .val (.double (FP.l2d (((0 : Int64) + (((own_q p1).toInt64) * ((own_q p1).toInt64))) + (((own_q p2).toInt64) * ((own_q p2).toInt64))))), .second] [(.int (1 : Int32))])) _
      exact retN X35 hx (t := .boolean) Bd.returns (by simp) (hb hby at_249) hr
    · show Q0 Z p0 p1 p2 p3 p4 h0 n0 _ T35.heap _
      rw [he35]
      exact ⟨rfl, N35⟩
  · have pre38 : ∀ t, Steps p.tables e below (s₁.setTop (mkF m 99 #[.val (.int p0), .val (.int p1), .val (.int p2), .val (.int p3), .val (.int p4), .val (.int (3 : Int32)), .val (.int (own_q p1)), .val (.int (own_q p2)), .val (.int (own_q p3)), .val (.int (own_q p4)), .unset, .unset, .unset, .unset, .unset] [(.int (3 : Int32))])) t → Steps p.tables e below (s₁.setTop (entryFrame m #[(.int p0), (.int p1), (.int p2), (.int p3), (.int p4)] maxLocals)) t := fun t kt => by
      refine pre1 _ ?_
      show Steps p.tables e below (s₁.setTop (mkF m 31 #[.val (.int p0), .val (.int p1), .val (.int p2), .val (.int p3), .val (.int p4), .val (.int (own_n p0)), .val (.int (own_q p1)), .val (.int (own_q p2)), .val (.int (own_q p3)), .unset, .unset, .unset, .unset, .unset, .unset] [(.int (own_q p4))])) _
      refine XS.istore X0.here hx rfl (hb hby at_31) rfl (l' := #[.val (.int p0), .val (.int p1), .val (.int p2), .val (.int p3), .val (.int p4), .val (.int (own_n p0)), .val (.int (own_q p1)), .val (.int (own_q p2)), .val (.int (own_q p3)), .val (.int (own_q p4)), .unset, .unset, .unset, .unset, .unset]) rfl ?_
      show Steps p.tables e below (s₁.setTop (mkF m 33 #[.val (.int p0), .val (.int p1), .val (.int p2), .val (.int p3), .val (.int p4), .val (.int (own_n p0)), .val (.int (own_q p1)), .val (.int (own_q p2)), .val (.int (own_q p3)), .val (.int (own_q p4)), .unset, .unset, .unset, .unset, .unset] [])) _
      rw [show (own_n p0) = (3 : Int32) from hn]
      show Steps p.tables e below (s₁.setTop (mkF m 33 #[.val (.int p0), .val (.int p1), .val (.int p2), .val (.int p3), .val (.int p4), .val (.int (3 : Int32)), .val (.int (own_q p1)), .val (.int (own_q p2)), .val (.int (own_q p3)), .val (.int (own_q p4)), .unset, .unset, .unset, .unset, .unset] [])) _
      refine XS.iload X0.here hx rfl (hb hby at_33) rfl ?_
      show Steps p.tables e below (s₁.setTop (mkF m 35 #[.val (.int p0), .val (.int p1), .val (.int p2), .val (.int p3), .val (.int p4), .val (.int (3 : Int32)), .val (.int (own_q p1)), .val (.int (own_q p2)), .val (.int (own_q p3)), .val (.int (own_q p4)), .unset, .unset, .unset, .unset, .unset] [(.int (3 : Int32))])) _
      refine XS.ifYes X0.here hx rfl (pc0 := 35) (pc' := 46) rfl (hb hby at_35) rfl ((if0 _ _).trans (feq (by decide : ¬ ((3 : Int32) = (0 : Int32)))).2) (by decide) (by decide) ?_
      show Steps p.tables e below (s₁.setTop (mkF m 46 #[.val (.int p0), .val (.int p1), .val (.int p2), .val (.int p3), .val (.int p4), .val (.int (3 : Int32)), .val (.int (own_q p1)), .val (.int (own_q p2)), .val (.int (own_q p3)), .val (.int (own_q p4)), .unset, .unset, .unset, .unset, .unset] [])) _
      refine XS.iload X0.here hx rfl (hb hby at_46) rfl ?_
      show Steps p.tables e below (s₁.setTop (mkF m 48 #[.val (.int p0), .val (.int p1), .val (.int p2), .val (.int p3), .val (.int p4), .val (.int (3 : Int32)), .val (.int (own_q p1)), .val (.int (own_q p2)), .val (.int (own_q p3)), .val (.int (own_q p4)), .unset, .unset, .unset, .unset, .unset] [(.int (3 : Int32))])) _
      refine XS.iconst X0.here hx rfl (hb hby at_48) ?_
      show Steps p.tables e below (s₁.setTop (mkF m 49 #[.val (.int p0), .val (.int p1), .val (.int p2), .val (.int p3), .val (.int p4), .val (.int (3 : Int32)), .val (.int (own_q p1)), .val (.int (own_q p2)), .val (.int (own_q p3)), .val (.int (own_q p4)), .unset, .unset, .unset, .unset, .unset] [(.int (1 : Int32)), (.int (3 : Int32))])) _
      refine XS.icmpYes X0.here hx rfl (pc0 := 49) (pc' := 66) rfl (hb hby at_49) rfl (feq (by decide : ¬ ((3 : Int32) = (1 : Int32)))).2 (by decide) (by decide) ?_
      show Steps p.tables e below (s₁.setTop (mkF m 66 #[.val (.int p0), .val (.int p1), .val (.int p2), .val (.int p3), .val (.int p4), .val (.int (3 : Int32)), .val (.int (own_q p1)), .val (.int (own_q p2)), .val (.int (own_q p3)), .val (.int (own_q p4)), .unset, .unset, .unset, .unset, .unset] [])) _
      refine XS.iload X0.here hx rfl (hb hby at_66) rfl ?_
      show Steps p.tables e below (s₁.setTop (mkF m 68 #[.val (.int p0), .val (.int p1), .val (.int p2), .val (.int p3), .val (.int p4), .val (.int (3 : Int32)), .val (.int (own_q p1)), .val (.int (own_q p2)), .val (.int (own_q p3)), .val (.int (own_q p4)), .unset, .unset, .unset, .unset, .unset] [(.int (3 : Int32))])) _
      refine XS.iconst X0.here hx rfl (hb hby at_68) ?_
      show Steps p.tables e below (s₁.setTop (mkF m 69 #[.val (.int p0), .val (.int p1), .val (.int p2), .val (.int p3), .val (.int p4), .val (.int (3 : Int32)), .val (.int (own_q p1)), .val (.int (own_q p2)), .val (.int (own_q p3)), .val (.int (own_q p4)), .unset, .unset, .unset, .unset, .unset] [(.int (2 : Int32)), (.int (3 : Int32))])) _
      refine XS.icmpYes X0.here hx rfl (pc0 := 69) (pc' := 92) rfl (hb hby at_69) rfl (feq (by decide : ¬ ((3 : Int32) = (2 : Int32)))).2 (by decide) (by decide) ?_
      show Steps p.tables e below (s₁.setTop (mkF m 92 #[.val (.int p0), .val (.int p1), .val (.int p2), .val (.int p3), .val (.int p4), .val (.int (3 : Int32)), .val (.int (own_q p1)), .val (.int (own_q p2)), .val (.int (own_q p3)), .val (.int (own_q p4)), .unset, .unset, .unset, .unset, .unset] [])) _
      refine XS.iload X0.here hx rfl (hb hby at_92) rfl ?_
      show Steps p.tables e below (s₁.setTop (mkF m 94 #[.val (.int p0), .val (.int p1), .val (.int p2), .val (.int p3), .val (.int p4), .val (.int (3 : Int32)), .val (.int (own_q p1)), .val (.int (own_q p2)), .val (.int (own_q p3)), .val (.int (own_q p4)), .unset, .unset, .unset, .unset, .unset] [(.int (3 : Int32))])) _
      refine XS.iconst X0.here hx rfl (hb hby at_94) ?_
      show Steps p.tables e below (s₁.setTop (mkF m 95 #[.val (.int p0), .val (.int p1), .val (.int p2), .val (.int p3), .val (.int p4), .val (.int (3 : Int32)), .val (.int (own_q p1)), .val (.int (own_q p2)), .val (.int (own_q p3)), .val (.int (own_q p4)), .unset, .unset, .unset, .unset, .unset] [(.int (3 : Int32)), (.int (3 : Int32))])) _
      refine XS.icmpNo X0.here hx rfl (hb hby at_95) rfl (teq (by decide : (3 : Int32) = (3 : Int32))).2 ?_
      show Steps p.tables e below (s₁.setTop (mkF m 98 #[.val (.int p0), .val (.int p1), .val (.int p2), .val (.int p3), .val (.int p4), .val (.int (3 : Int32)), .val (.int (own_q p1)), .val (.int (own_q p2)), .val (.int (own_q p3)), .val (.int (own_q p4)), .unset, .unset, .unset, .unset, .unset] [])) _
      refine XS.iconst X0.here hx rfl (hb hby at_98) ?_
      exact kt
    obtain ⟨T39, h39, k39, X39, e39, E39, A39, st39⟩ := newP X0 hx hZ (hw _ (List.mem_of_getElem? (i := 2) rfl)) e0 (g := (mkF m 99 #[.val (.int p0), .val (.int p1), .val (.int p2), .val (.int p3), .val (.int p4), .val (.int (3 : Int32)), .val (.int (own_q p1)), .val (.int (own_q p2)), .val (.int (own_q p3)), .val (.int (own_q p4)), .unset, .unset, .unset, .unset, .unset] [(.int (3 : Int32))])) rfl (hb hby at_99) rfl (by decide) (cap := 3) (by decide) (by decide) (by decide) (by decide)
    obtain ⟨b39, gq39⟩ : ∃ z, z = h0.size := ⟨_, rfl⟩
    rw [← gq39] at A39 st39
    have gg_b39 : n0 ≤ b39 := Nat.le_trans Z0 (Nat.le_of_eq gq39.symm)
    have V39 : Arv Z h39 b39 k39 .double (3 : Int32) [(.double 0), (.double 0), (.double 0)] (.double 0) := (Arv.new A39 (by decide)).pad (pad_rep [] (.double 0) 3)
    have pre40 : ∀ t, Steps p.tables e below (T39.setTop (mkF m 101 #[.val (.int p0), .val (.int p1), .val (.int p2), .val (.int p3), .val (.int p4), .val (.int (3 : Int32)), .val (.int (own_q p1)), .val (.int (own_q p2)), .val (.int (own_q p3)), .val (.int (own_q p4)), .unset, .unset, .unset, .unset, .unset] [(.ref b39)])) t → Steps p.tables e below (s₁.setTop (entryFrame m #[(.int p0), (.int p1), (.int p2), (.int p3), (.int p4)] maxLocals)) t := fun t kt => pre38 _ (st39 _ kt)
    obtain ⟨cl41, Ar41, qk41, Sz41, Nn41, Hh41, Gg41⟩ := id V39
    have hin41 : ¬ ((0 : Int32) < 0 ∨ cl41.slots.size ≤ ((0 : Int32)).toNatClampNeg) := inb_of Sz41 ⟨by decide, by decide⟩
    have pre42 : ∀ t, Steps p.tables e below (T39.setTop (mkF m 106 #[.val (.int p0), .val (.int p1), .val (.int p2), .val (.int p3), .val (.int p4), .val (.int (3 : Int32)), .val (.int (own_q p1)), .val (.int (own_q p2)), .val (.int (own_q p3)), .val (.int (own_q p4)), .unset, .unset, .unset, .unset, .unset] [(.double (FP.i2d (own_q p1))), (.int (0 : Int32)), (.ref b39), (.ref b39)])) t → Steps p.tables e below (s₁.setTop (entryFrame m #[(.int p0), (.int p1), (.int p2), (.int p3), (.int p4)] maxLocals)) t := fun t kt => by
      refine pre40 _ ?_
      show Steps p.tables e below (T39.setTop (mkF m 101 #[.val (.int p0), .val (.int p1), .val (.int p2), .val (.int p3), .val (.int p4), .val (.int (3 : Int32)), .val (.int (own_q p1)), .val (.int (own_q p2)), .val (.int (own_q p3)), .val (.int (own_q p4)), .unset, .unset, .unset, .unset, .unset] [(.ref b39)])) _
      refine XS.dup X39.here hx rfl (hb hby at_101) rfl rfl ?_
      show Steps p.tables e below (T39.setTop (mkF m 102 #[.val (.int p0), .val (.int p1), .val (.int p2), .val (.int p3), .val (.int p4), .val (.int (3 : Int32)), .val (.int (own_q p1)), .val (.int (own_q p2)), .val (.int (own_q p3)), .val (.int (own_q p4)), .unset, .unset, .unset, .unset, .unset] [(.ref b39), (.ref b39)])) _
      refine XS.iconst X39.here hx rfl (hb hby at_102) ?_
      show Steps p.tables e below (T39.setTop (mkF m 103 #[.val (.int p0), .val (.int p1), .val (.int p2), .val (.int p3), .val (.int p4), .val (.int (3 : Int32)), .val (.int (own_q p1)), .val (.int (own_q p2)), .val (.int (own_q p3)), .val (.int (own_q p4)), .unset, .unset, .unset, .unset, .unset] [(.int (0 : Int32)), (.ref b39), (.ref b39)])) _
      refine XS.iload X39.here hx rfl (hb hby at_103) rfl ?_
      show Steps p.tables e below (T39.setTop (mkF m 105 #[.val (.int p0), .val (.int p1), .val (.int p2), .val (.int p3), .val (.int p4), .val (.int (3 : Int32)), .val (.int (own_q p1)), .val (.int (own_q p2)), .val (.int (own_q p3)), .val (.int (own_q p4)), .unset, .unset, .unset, .unset, .unset] [(.int (own_q p1)), (.int (0 : Int32)), (.ref b39), (.ref b39)])) _
      refine XS.i2dS X39.here hx rfl (hb hby at_105) rfl rfl ?_
      exact kt
    obtain ⟨T43, h43, X43, e43, W43, st43⟩ := stD X39 hx hZ e39 Ar41 (j := (0 : Int32)) hin41 (g := (mkF m 106 #[.val (.int p0), .val (.int p1), .val (.int p2), .val (.int p3), .val (.int p4), .val (.int (3 : Int32)), .val (.int (own_q p1)), .val (.int (own_q p2)), .val (.int (own_q p3)), .val (.int (own_q p4)), .unset, .unset, .unset, .unset, .unset] [(.double (FP.i2d (own_q p1))), (.int (0 : Int32)), (.ref b39), (.ref b39)])) rfl rfl (hb hby at_106)
    have V43 := Arv.set Ar41 qk41 Sz41 Nn41 Hh41 Gg41 rfl W43 0 rfl (Nat.le_of_ble_eq_true rfl)
    have V43' : Arv Z h43 b39 k39 .double (3 : Int32) [(.double (FP.i2d (own_q p1))), (.double 0), (.double 0)] (.double 0) := V43
    have N43 := Fr.snoc X43 N0 gg_b39
    have pre44 : ∀ t, Steps p.tables e below (T43.setTop (mkF m 107 #[.val (.int p0), .val (.int p1), .val (.int p2), .val (.int p3), .val (.int p4), .val (.int (3 : Int32)), .val (.int (own_q p1)), .val (.int (own_q p2)), .val (.int (own_q p3)), .val (.int (own_q p4)), .unset, .unset, .unset, .unset, .unset] [(.ref b39)])) t → Steps p.tables e below (s₁.setTop (entryFrame m #[(.int p0), (.int p1), (.int p2), (.int p3), (.int p4)] maxLocals)) t := fun t kt => pre42 _ (st43 _ kt)
    obtain ⟨cl45, Ar45, qk45, Sz45, Nn45, Hh45, Gg45⟩ := id V43'
    have hin45 : ¬ ((1 : Int32) < 0 ∨ cl45.slots.size ≤ ((1 : Int32)).toNatClampNeg) := inb_of Sz45 ⟨by decide, by decide⟩
    have pre46 : ∀ t, Steps p.tables e below (T43.setTop (mkF m 112 #[.val (.int p0), .val (.int p1), .val (.int p2), .val (.int p3), .val (.int p4), .val (.int (3 : Int32)), .val (.int (own_q p1)), .val (.int (own_q p2)), .val (.int (own_q p3)), .val (.int (own_q p4)), .unset, .unset, .unset, .unset, .unset] [(.double (FP.i2d (own_q p2))), (.int (1 : Int32)), (.ref b39), (.ref b39)])) t → Steps p.tables e below (s₁.setTop (entryFrame m #[(.int p0), (.int p1), (.int p2), (.int p3), (.int p4)] maxLocals)) t := fun t kt => by
      refine pre44 _ ?_
      show Steps p.tables e below (T43.setTop (mkF m 107 #[.val (.int p0), .val (.int p1), .val (.int p2), .val (.int p3), .val (.int p4), .val (.int (3 : Int32)), .val (.int (own_q p1)), .val (.int (own_q p2)), .val (.int (own_q p3)), .val (.int (own_q p4)), .unset, .unset, .unset, .unset, .unset] [(.ref b39)])) _
      refine XS.dup X43.here hx rfl (hb hby at_107) rfl rfl ?_
      show Steps p.tables e below (T43.setTop (mkF m 108 #[.val (.int p0), .val (.int p1), .val (.int p2), .val (.int p3), .val (.int p4), .val (.int (3 : Int32)), .val (.int (own_q p1)), .val (.int (own_q p2)), .val (.int (own_q p3)), .val (.int (own_q p4)), .unset, .unset, .unset, .unset, .unset] [(.ref b39), (.ref b39)])) _
      refine XS.iconst X43.here hx rfl (hb hby at_108) ?_
      show Steps p.tables e below (T43.setTop (mkF m 109 #[.val (.int p0), .val (.int p1), .val (.int p2), .val (.int p3), .val (.int p4), .val (.int (3 : Int32)), .val (.int (own_q p1)), .val (.int (own_q p2)), .val (.int (own_q p3)), .val (.int (own_q p4)), .unset, .unset, .unset, .unset, .unset] [(.int (1 : Int32)), (.ref b39), (.ref b39)])) _
      refine XS.iload X43.here hx rfl (hb hby at_109) rfl ?_
      show Steps p.tables e below (T43.setTop (mkF m 111 #[.val (.int p0), .val (.int p1), .val (.int p2), .val (.int p3), .val (.int p4), .val (.int (3 : Int32)), .val (.int (own_q p1)), .val (.int (own_q p2)), .val (.int (own_q p3)), .val (.int (own_q p4)), .unset, .unset, .unset, .unset, .unset] [(.int (own_q p2)), (.int (1 : Int32)), (.ref b39), (.ref b39)])) _
      refine XS.i2dS X43.here hx rfl (hb hby at_111) rfl rfl ?_
      exact kt
    obtain ⟨T47, h47, X47, e47, W47, st47⟩ := stD X43 hx hZ e43 Ar45 (j := (1 : Int32)) hin45 (g := (mkF m 112 #[.val (.int p0), .val (.int p1), .val (.int p2), .val (.int p3), .val (.int p4), .val (.int (3 : Int32)), .val (.int (own_q p1)), .val (.int (own_q p2)), .val (.int (own_q p3)), .val (.int (own_q p4)), .unset, .unset, .unset, .unset, .unset] [(.double (FP.i2d (own_q p2))), (.int (1 : Int32)), (.ref b39), (.ref b39)])) rfl rfl (hb hby at_112)
    have V47 := Arv.set Ar45 qk45 Sz45 Nn45 Hh45 Gg45 rfl W47 1 rfl (Nat.le_of_ble_eq_true rfl)
    have V47' : Arv Z h47 b39 k39 .double (3 : Int32) [(.double (FP.i2d (own_q p1))), (.double (FP.i2d (own_q p2))), (.double 0)] (.double 0) := V47
    have N47 := Fr.snoc X47 N43 gg_b39
    have pre48 : ∀ t, Steps p.tables e below (T47.setTop (mkF m 113 #[.val (.int p0), .val (.int p1), .val (.int p2), .val (.int p3), .val (.int p4), .val (.int (3 : Int32)), .val (.int (own_q p1)), .val (.int (own_q p2)), .val (.int (own_q p3)), .val (.int (own_q p4)), .unset, .unset, .unset, .unset, .unset] [(.ref b39)])) t → Steps p.tables e below (s₁.setTop (entryFrame m #[(.int p0), (.int p1), (.int p2), (.int p3), (.int p4)] maxLocals)) t := fun t kt => pre46 _ (st47 _ kt)
    obtain ⟨cl49, Ar49, qk49, Sz49, Nn49, Hh49, Gg49⟩ := id V47'
    have hin49 : ¬ ((2 : Int32) < 0 ∨ cl49.slots.size ≤ ((2 : Int32)).toNatClampNeg) := inb_of Sz49 ⟨by decide, by decide⟩
    have pre50 : ∀ t, Steps p.tables e below (T47.setTop (mkF m 118 #[.val (.int p0), .val (.int p1), .val (.int p2), .val (.int p3), .val (.int p4), .val (.int (3 : Int32)), .val (.int (own_q p1)), .val (.int (own_q p2)), .val (.int (own_q p3)), .val (.int (own_q p4)), .unset, .unset, .unset, .unset, .unset] [(.double (FP.i2d (own_q p3))), (.int (2 : Int32)), (.ref b39), (.ref b39)])) t → Steps p.tables e below (s₁.setTop (entryFrame m #[(.int p0), (.int p1), (.int p2), (.int p3), (.int p4)] maxLocals)) t := fun t kt => by
      refine pre48 _ ?_
      show Steps p.tables e below (T47.setTop (mkF m 113 #[.val (.int p0), .val (.int p1), .val (.int p2), .val (.int p3), .val (.int p4), .val (.int (3 : Int32)), .val (.int (own_q p1)), .val (.int (own_q p2)), .val (.int (own_q p3)), .val (.int (own_q p4)), .unset, .unset, .unset, .unset, .unset] [(.ref b39)])) _
      refine XS.dup X47.here hx rfl (hb hby at_113) rfl rfl ?_
      show Steps p.tables e below (T47.setTop (mkF m 114 #[.val (.int p0), .val (.int p1), .val (.int p2), .val (.int p3), .val (.int p4), .val (.int (3 : Int32)), .val (.int (own_q p1)), .val (.int (own_q p2)), .val (.int (own_q p3)), .val (.int (own_q p4)), .unset, .unset, .unset, .unset, .unset] [(.ref b39), (.ref b39)])) _
      refine XS.iconst X47.here hx rfl (hb hby at_114) ?_
      show Steps p.tables e below (T47.setTop (mkF m 115 #[.val (.int p0), .val (.int p1), .val (.int p2), .val (.int p3), .val (.int p4), .val (.int (3 : Int32)), .val (.int (own_q p1)), .val (.int (own_q p2)), .val (.int (own_q p3)), .val (.int (own_q p4)), .unset, .unset, .unset, .unset, .unset] [(.int (2 : Int32)), (.ref b39), (.ref b39)])) _
      refine XS.iload X47.here hx rfl (hb hby at_115) rfl ?_
      show Steps p.tables e below (T47.setTop (mkF m 117 #[.val (.int p0), .val (.int p1), .val (.int p2), .val (.int p3), .val (.int p4), .val (.int (3 : Int32)), .val (.int (own_q p1)), .val (.int (own_q p2)), .val (.int (own_q p3)), .val (.int (own_q p4)), .unset, .unset, .unset, .unset, .unset] [(.int (own_q p3)), (.int (2 : Int32)), (.ref b39), (.ref b39)])) _
      refine XS.i2dS X47.here hx rfl (hb hby at_117) rfl rfl ?_
      exact kt
    obtain ⟨T51, h51, X51, e51, W51, st51⟩ := stD X47 hx hZ e47 Ar49 (j := (2 : Int32)) hin49 (g := (mkF m 118 #[.val (.int p0), .val (.int p1), .val (.int p2), .val (.int p3), .val (.int p4), .val (.int (3 : Int32)), .val (.int (own_q p1)), .val (.int (own_q p2)), .val (.int (own_q p3)), .val (.int (own_q p4)), .unset, .unset, .unset, .unset, .unset] [(.double (FP.i2d (own_q p3))), (.int (2 : Int32)), (.ref b39), (.ref b39)])) rfl rfl (hb hby at_118)
    have V51 := Arv.set Ar49 qk49 Sz49 Nn49 Hh49 Gg49 rfl W51 2 rfl (Nat.le_of_ble_eq_true rfl)
    have V51' : Arv Z h51 b39 k39 .double (3 : Int32) [(.double (FP.i2d (own_q p1))), (.double (FP.i2d (own_q p2))), (.double (FP.i2d (own_q p3)))] (.double 0) := V51
    have N51 := Fr.snoc X51 N47 gg_b39
    have pre52 : ∀ t, Steps p.tables e below (T51.setTop (mkF m 119 #[.val (.int p0), .val (.int p1), .val (.int p2), .val (.int p3), .val (.int p4), .val (.int (3 : Int32)), .val (.int (own_q p1)), .val (.int (own_q p2)), .val (.int (own_q p3)), .val (.int (own_q p4)), .unset, .unset, .unset, .unset, .unset] [(.ref b39)])) t → Steps p.tables e below (s₁.setTop (entryFrame m #[(.int p0), (.int p1), (.int p2), (.int p3), (.int p4)] maxLocals)) t := fun t kt => pre50 _ (st51 _ kt)
    have z53 : n0 ≤ h51.size := (Nat.le_trans (Nat.le_trans (Nat.le_trans (Nat.le_trans Z0 E39.1) (Keep.of_wr W43).1) (Keep.of_wr W47).1) (Keep.of_wr W51).1)
    have pre54 : ∀ t, Steps p.tables e below (T51.setTop (mkF m 230 #[.val (.int p0), .val (.int p1), .val (.int p2), .val (.int p3), .val (.int p4), .val (.int (3 : Int32)), .val (.int (own_q p1)), .val (.int (own_q p2)), .val (.int (own_q p3)), .val (.int (own_q p4)), .val (.ref b39), .val (.long ((((0 : Int64) + (((own_q p1).toInt64) * ((own_q p1).toInt64))) + (((own_q p2).toInt64) * ((own_q p2).toInt64))) + (((own_q p3).toInt64) * ((own_q p3).toInt64)))), .second, .unset, .unset] [(.ref b39)])) t → Steps p.tables e below (s₁.setTop (entryFrame m #[(.int p0), (.int p1), (.int p2), (.int p3), (.int p4)] maxLocals)) t := fun t kt => by
      refine pre52 _ ?_
      show Steps p.tables e below (T51.setTop (mkF m 119 #[.val (.int p0), .val (.int p1), .val (.int p2), .val (.int p3), .val (.int p4), .val (.int (3 : Int32)), .val (.int (own_q p1)), .val (.int (own_q p2)), .val (.int (own_q p3)), .val (.int (own_q p4)), .unset, .unset, .unset, .unset, .unset] [(.ref b39)])) _
      refine XS.astore X51.here hx rfl (hb hby at_119) rfl rfl (l' := #[.val (.int p0), .val (.int p1), .val (.int p2), .val (.int p3), .val (.int p4), .val (.int (3 : Int32)), .val (.int (own_q p1)), .val (.int (own_q p2)), .val (.int (own_q p3)), .val (.int (own_q p4)), .val (.ref b39), .unset, .unset, .unset, .unset]) rfl ?_
      show Steps p.tables e below (T51.setTop (mkF m 121 #[.val (.int p0), .val (.int p1), .val (.int p2), .val (.int p3), .val (.int p4), .val (.int (3 : Int32)), .val (.int (own_q p1)), .val (.int (own_q p2)), .val (.int (own_q p3)), .val (.int (own_q p4)), .val (.ref b39), .unset, .unset, .unset, .unset] [])) _
      refine XS.goto X51.here hx rfl (pc0 := 121) (pc' := 153) rfl (hb hby at_121) (by decide) (by decide) ?_
      show Steps p.tables e below (T51.setTop (mkF m 153 #[.val (.int p0), .val (.int p1), .val (.int p2), .val (.int p3), .val (.int p4), .val (.int (3 : Int32)), .val (.int (own_q p1)), .val (.int (own_q p2)), .val (.int (own_q p3)), .val (.int (own_q p4)), .val (.ref b39), .unset, .unset, .unset, .unset] [])) _
      refine XS.lconst X51.here hx rfl (hb hby at_153) ?_
      show Steps p.tables e below (T51.setTop (mkF m 154 #[.val (.int p0), .val (.int p1), .val (.int p2), .val (.int p3), .val (.int p4), .val (.int (3 : Int32)), .val (.int (own_q p1)), .val (.int (own_q p2)), .val (.int (own_q p3)), .val (.int (own_q p4)), .val (.ref b39), .unset, .unset, .unset, .unset] [(.long (0 : Int64))])) _
      refine XS.lstore X51.here hx rfl (hb hby at_154) rfl (l' := #[.val (.int p0), .val (.int p1), .val (.int p2), .val (.int p3), .val (.int p4), .val (.int (3 : Int32)), .val (.int (own_q p1)), .val (.int (own_q p2)), .val (.int (own_q p3)), .val (.int (own_q p4)), .val (.ref b39), .val (.long (0 : Int64)), .second, .unset, .unset]) rfl ?_
      show Steps p.tables e below (T51.setTop (mkF m 156 #[.val (.int p0), .val (.int p1), .val (.int p2), .val (.int p3), .val (.int p4), .val (.int (3 : Int32)), .val (.int (own_q p1)), .val (.int (own_q p2)), .val (.int (own_q p3)), .val (.int (own_q p4)), .val (.ref b39), .val (.long (0 : Int64)), .second, .unset, .unset] [])) _
      refine XS.iload X51.here hx rfl (hb hby at_156) rfl ?_
      show Steps p.tables e below (T51.setTop (mkF m 158 #[.val (.int p0), .val (.int p1), .val (.int p2), .val (.int p3), .val (.int p4), .val (.int (3 : Int32)), .val (.int (own_q p1)), .val (.int (own_q p2)), .val (.int (own_q p3)), .val (.int (own_q p4)), .val (.ref b39), .val (.long (0 : Int64)), .second, .unset, .unset] [(.int (3 : Int32))])) _
      refine XS.iconst X51.here hx rfl (hb hby at_158) ?_
      show Steps p.tables e below (T51.setTop (mkF m 159 #[.val (.int p0), .val (.int p1), .val (.int p2), .val (.int p3), .val (.int p4), .val (.int (3 : Int32)), .val (.int (own_q p1)), .val (.int (own_q p2)), .val (.int (own_q p3)), .val (.int (own_q p4)), .val (.ref b39), .val (.long (0 : Int64)), .second, .unset, .unset] [(.int (1 : Int32)), (.int (3 : Int32))])) _
      refine XS.icmpNo X51.here hx rfl (hb hby at_159) rfl (flt (by decide : ¬ ((3 : Int32) < (1 : Int32)))).1 ?_
      show Steps p.tables e below (T51.setTop (mkF m 162 #[.val (.int p0), .val (.int p1), .val (.int p2), .val (.int p3), .val (.int p4), .val (.int (3 : Int32)), .val (.int (own_q p1)), .val (.int (own_q p2)), .val (.int (own_q p3)), .val (.int (own_q p4)), .val (.ref b39), .val (.long (0 : Int64)), .second, .unset, .unset] [])) _
      refine XS.lload X51.here hx rfl (hb hby at_162) rfl ?_
      show Steps p.tables e below (T51.setTop (mkF m 164 #[.val (.int p0), .val (.int p1), .val (.int p2), .val (.int p3), .val (.int p4), .val (.int (3 : Int32)), .val (.int (own_q p1)), .val (.int (own_q p2)), .val (.int (own_q p3)), .val (.int (own_q p4)), .val (.ref b39), .val (.long (0 : Int64)), .second, .unset, .unset] [(.long (0 : Int64))])) _
      refine XS.iload X51.here hx rfl (hb hby at_164) rfl ?_
      show Steps p.tables e below (T51.setTop (mkF m 166 #[.val (.int p0), .val (.int p1), .val (.int p2), .val (.int p3), .val (.int p4), .val (.int (3 : Int32)), .val (.int (own_q p1)), .val (.int (own_q p2)), .val (.int (own_q p3)), .val (.int (own_q p4)), .val (.ref b39), .val (.long (0 : Int64)), .second, .unset, .unset] [(.int (own_q p1)), (.long (0 : Int64))])) _
      refine XS.i2l X51.here hx rfl (hb hby at_166) rfl ?_
      show Steps p.tables e below (T51.setTop (mkF m 167 #[.val (.int p0), .val (.int p1), .val (.int p2), .val (.int p3), .val (.int p4), .val (.int (3 : Int32)), .val (.int (own_q p1)), .val (.int (own_q p2)), .val (.int (own_q p3)), .val (.int (own_q p4)), .val (.ref b39), .val (.long (0 : Int64)), .second, .unset, .unset] [(.long ((own_q p1).toInt64)), (.long (0 : Int64))])) _
      refine XS.iload X51.here hx rfl (hb hby at_167) rfl ?_
      show Steps p.tables e below (T51.setTop (mkF m 169 #[.val (.int p0), .val (.int p1), .val (.int p2), .val (.int p3), .val (.int p4), .val (.int (3 : Int32)), .val (.int (own_q p1)), .val (.int (own_q p2)), .val (.int (own_q p3)), .val (.int (own_q p4)), .val (.ref b39), .val (.long (0 : Int64)), .second, .unset, .unset] [(.int (own_q p1)), (.long ((own_q p1).toInt64)), (.long (0 : Int64))])) _
      refine XS.i2l X51.here hx rfl (hb hby at_169) rfl ?_
      show Steps p.tables e below (T51.setTop (mkF m 170 #[.val (.int p0), .val (.int p1), .val (.int p2), .val (.int p3), .val (.int p4), .val (.int (3 : Int32)), .val (.int (own_q p1)), .val (.int (own_q p2)), .val (.int (own_q p3)), .val (.int (own_q p4)), .val (.ref b39), .val (.long (0 : Int64)), .second, .unset, .unset] [(.long ((own_q p1).toInt64)), (.long ((own_q p1).toInt64)), (.long (0 : Int64))])) _
      refine XS.lmul X51.here hx rfl (hb hby at_170) rfl ?_
      show Steps p.tables e below (T51.setTop (mkF m 171 #[.val (.int p0), .val (.int p1), .val (.int p2), .val (.int p3), .val (.int p4), .val (.int (3 : Int32)), .val (.int (own_q p1)), .val (.int (own_q p2)), .val (.int (own_q p3)), .val (.int (own_q p4)), .val (.ref b39), .val (.long (0 : Int64)), .second, .unset, .unset] [(.long (((own_q p1).toInt64) * ((own_q p1).toInt64))), (.long (0 : Int64))])) _
      refine XS.ladd X51.here hx rfl (hb hby at_171) rfl ?_
      show Steps p.tables e below (T51.setTop (mkF m 172 #[.val (.int p0), .val (.int p1), .val (.int p2), .val (.int p3), .val (.int p4), .val (.int (3 : Int32)), .val (.int (own_q p1)), .val (.int (own_q p2)), .val (.int (own_q p3)), .val (.int (own_q p4)), .val (.ref b39), .val (.long (0 : Int64)), .second, .unset, .unset] [(.long ((0 : Int64) + (((own_q p1).toInt64) * ((own_q p1).toInt64))))])) _
      refine XS.lstore X51.here hx rfl (hb hby at_172) rfl (l' := #[.val (.int p0), .val (.int p1), .val (.int p2), .val (.int p3), .val (.int p4), .val (.int (3 : Int32)), .val (.int (own_q p1)), .val (.int (own_q p2)), .val (.int (own_q p3)), .val (.int (own_q p4)), .val (.ref b39), .val (.long ((0 : Int64) + (((own_q p1).toInt64) * ((own_q p1).toInt64)))), .second, .unset, .unset]) rfl ?_
      show Steps p.tables e below (T51.setTop (mkF m 174 #[.val (.int p0), .val (.int p1), .val (.int p2), .val (.int p3), .val (.int p4), .val (.int (3 : Int32)), .val (.int (own_q p1)), .val (.int (own_q p2)), .val (.int (own_q p3)), .val (.int (own_q p4)), .val (.ref b39), .val (.long ((0 : Int64) + (((own_q p1).toInt64) * ((own_q p1).toInt64)))), .second, .unset, .unset] [])) _
      refine XS.iload X51.here hx rfl (hb hby at_174) rfl ?_
      show Steps p.tables e below (T51.setTop (mkF m 176 #[.val (.int p0), .val (.int p1), .val (.int p2), .val (.int p3), .val (.int p4), .val (.int (3 : Int32)), .val (.int (own_q p1)), .val (.int (own_q p2)), .val (.int (own_q p3)), .val (.int (own_q p4)), .val (.ref b39), .val (.long ((0 : Int64) + (((own_q p1).toInt64) * ((own_q p1).toInt64)))), .second, .unset, .unset] [(.int (3 : Int32))])) _
      refine XS.iconst X51.here hx rfl (hb hby at_176) ?_
      show Steps p.tables e below (T51.setTop (mkF m 177 #[.val (.int p0), .val (.int p1), .val (.int p2), .val (.int p3), .val (.int p4), .val (.int (3 : Int32)), .val (.int (own_q p1)), .val (.int (own_q p2)), .val (.int (own_q p3)), .val (.int (own_q p4)), .val (.ref b39), .val (.long ((0 : Int64) + (((own_q p1).toInt64) * ((own_q p1).toInt64)))), .second, .unset, .unset] [(.int (2 : Int32)), (.int (3 : Int32))])) _
      refine XS.icmpNo X51.here hx rfl (hb hby at_177) rfl (flt (by decide : ¬ ((3 : Int32) < (2 : Int32)))).1 ?_
      show Steps p.tables e below (T51.setTop (mkF m 180 #[.val (.int p0), .val (.int p1), .val (.int p2), .val (.int p3), .val (.int p4), .val (.int (3 : Int32)), .val (.int (own_q p1)), .val (.int (own_q p2)), .val (.int (own_q p3)), .val (.int (own_q p4)), .val (.ref b39), .val (.long ((0 : Int64) + (((own_q p1).toInt64) * ((own_q p1).toInt64)))), .second, .unset, .unset] [])) _
      refine XS.lload X51.here hx rfl (hb hby at_180) rfl ?_
      show Steps p.tables e below (T51.setTop (mkF m 182 #[.val (.int p0), .val (.int p1), .val (.int p2), .val (.int p3), .val (.int p4), .val (.int (3 : Int32)), .val (.int (own_q p1)), .val (.int (own_q p2)), .val (.int (own_q p3)), .val (.int (own_q p4)), .val (.ref b39), .val (.long ((0 : Int64) + (((own_q p1).toInt64) * ((own_q p1).toInt64)))), .second, .unset, .unset] [(.long ((0 : Int64) + (((own_q p1).toInt64) * ((own_q p1).toInt64))))])) _
      refine XS.iload X51.here hx rfl (hb hby at_182) rfl ?_
      show Steps p.tables e below (T51.setTop (mkF m 184 #[.val (.int p0), .val (.int p1), .val (.int p2), .val (.int p3), .val (.int p4), .val (.int (3 : Int32)), .val (.int (own_q p1)), .val (.int (own_q p2)), .val (.int (own_q p3)), .val (.int (own_q p4)), .val (.ref b39), .val (.long ((0 : Int64) + (((own_q p1).toInt64) * ((own_q p1).toInt64)))), .second, .unset, .unset] [(.int (own_q p2)), (.long ((0 : Int64) + (((own_q p1).toInt64) * ((own_q p1).toInt64))))])) _
      refine XS.i2l X51.here hx rfl (hb hby at_184) rfl ?_
      show Steps p.tables e below (T51.setTop (mkF m 185 #[.val (.int p0), .val (.int p1), .val (.int p2), .val (.int p3), .val (.int p4), .val (.int (3 : Int32)), .val (.int (own_q p1)), .val (.int (own_q p2)), .val (.int (own_q p3)), .val (.int (own_q p4)), .val (.ref b39), .val (.long ((0 : Int64) + (((own_q p1).toInt64) * ((own_q p1).toInt64)))), .second, .unset, .unset] [(.long ((own_q p2).toInt64)), (.long ((0 : Int64) + (((own_q p1).toInt64) * ((own_q p1).toInt64))))])) _
      refine XS.iload X51.here hx rfl (hb hby at_185) rfl ?_
      show Steps p.tables e below (T51.setTop (mkF m 187 #[.val (.int p0), .val (.int p1), .val (.int p2), .val (.int p3), .val (.int p4), .val (.int (3 : Int32)), .val (.int (own_q p1)), .val (.int (own_q p2)), .val (.int (own_q p3)), .val (.int (own_q p4)), .val (.ref b39), .val (.long ((0 : Int64) + (((own_q p1).toInt64) * ((own_q p1).toInt64)))), .second, .unset, .unset] [(.int (own_q p2)), (.long ((own_q p2).toInt64)), (.long ((0 : Int64) + (((own_q p1).toInt64) * ((own_q p1).toInt64))))])) _
      refine XS.i2l X51.here hx rfl (hb hby at_187) rfl ?_
      show Steps p.tables e below (T51.setTop (mkF m 188 #[.val (.int p0), .val (.int p1), .val (.int p2), .val (.int p3), .val (.int p4), .val (.int (3 : Int32)), .val (.int (own_q p1)), .val (.int (own_q p2)), .val (.int (own_q p3)), .val (.int (own_q p4)), .val (.ref b39), .val (.long ((0 : Int64) + (((own_q p1).toInt64) * ((own_q p1).toInt64)))), .second, .unset, .unset] [(.long ((own_q p2).toInt64)), (.long ((own_q p2).toInt64)), (.long ((0 : Int64) + (((own_q p1).toInt64) * ((own_q p1).toInt64))))])) _
      refine XS.lmul X51.here hx rfl (hb hby at_188) rfl ?_
      show Steps p.tables e below (T51.setTop (mkF m 189 #[.val (.int p0), .val (.int p1), .val (.int p2), .val (.int p3), .val (.int p4), .val (.int (3 : Int32)), .val (.int (own_q p1)), .val (.int (own_q p2)), .val (.int (own_q p3)), .val (.int (own_q p4)), .val (.ref b39), .val (.long ((0 : Int64) + (((own_q p1).toInt64) * ((own_q p1).toInt64)))), .second, .unset, .unset] [(.long (((own_q p2).toInt64) * ((own_q p2).toInt64))), (.long ((0 : Int64) + (((own_q p1).toInt64) * ((own_q p1).toInt64))))])) _
      refine XS.ladd X51.here hx rfl (hb hby at_189) rfl ?_
      show Steps p.tables e below (T51.setTop (mkF m 190 #[.val (.int p0), .val (.int p1), .val (.int p2), .val (.int p3), .val (.int p4), .val (.int (3 : Int32)), .val (.int (own_q p1)), .val (.int (own_q p2)), .val (.int (own_q p3)), .val (.int (own_q p4)), .val (.ref b39), .val (.long ((0 : Int64) + (((own_q p1).toInt64) * ((own_q p1).toInt64)))), .second, .unset, .unset] [(.long (((0 : Int64) + (((own_q p1).toInt64) * ((own_q p1).toInt64))) + (((own_q p2).toInt64) * ((own_q p2).toInt64))))])) _
      refine XS.lstore X51.here hx rfl (hb hby at_190) rfl (l' := #[.val (.int p0), .val (.int p1), .val (.int p2), .val (.int p3), .val (.int p4), .val (.int (3 : Int32)), .val (.int (own_q p1)), .val (.int (own_q p2)), .val (.int (own_q p3)), .val (.int (own_q p4)), .val (.ref b39), .val (.long (((0 : Int64) + (((own_q p1).toInt64) * ((own_q p1).toInt64))) + (((own_q p2).toInt64) * ((own_q p2).toInt64)))), .second, .unset, .unset]) rfl ?_
      show Steps p.tables e below (T51.setTop (mkF m 192 #[.val (.int p0), .val (.int p1), .val (.int p2), .val (.int p3), .val (.int p4), .val (.int (3 : Int32)), .val (.int (own_q p1)), .val (.int (own_q p2)), .val (.int (own_q p3)), .val (.int (own_q p4)), .val (.ref b39), .val (.long (((0 : Int64) + (((own_q p1).toInt64) * ((own_q p1).toInt64))) + (((own_q p2).toInt64) * ((own_q p2).toInt64)))), .second, .unset, .unset] [])) _
      refine XS.iload X51.here hx rfl (hb hby at_192) rfl ?_
      show Steps p.tables e below (T51.setTop (mkF m 194 #[.val (.int p0), .val (.int p1), .val (.int p2), .val (.int p3), .val (.int p4), .val (.int (3 : Int32)), .val (.int (own_q p1)), .val (.int (own_q p2)), .val (.int (own_q p3)), .val (.int (own_q p4)), .val (.ref b39), .val (.long (((0 : Int64) + (((own_q p1).toInt64) * ((own_q p1).toInt64))) + (((own_q p2).toInt64) * ((own_q p2).toInt64)))), .second, .unset, .unset] [(.int (3 : Int32))])) _
      refine XS.iconst X51.here hx rfl (hb hby at_194) ?_
      show Steps p.tables e below (T51.setTop (mkF m 195 #[.val (.int p0), .val (.int p1), .val (.int p2), .val (.int p3), .val (.int p4), .val (.int (3 : Int32)), .val (.int (own_q p1)), .val (.int (own_q p2)), .val (.int (own_q p3)), .val (.int (own_q p4)), .val (.ref b39), .val (.long (((0 : Int64) + (((own_q p1).toInt64) * ((own_q p1).toInt64))) + (((own_q p2).toInt64) * ((own_q p2).toInt64)))), .second, .unset, .unset] [(.int (3 : Int32)), (.int (3 : Int32))])) _
      refine XS.icmpNo X51.here hx rfl (hb hby at_195) rfl (flt (by decide : ¬ ((3 : Int32) < (3 : Int32)))).1 ?_
      show Steps p.tables e below (T51.setTop (mkF m 198 #[.val (.int p0), .val (.int p1), .val (.int p2), .val (.int p3), .val (.int p4), .val (.int (3 : Int32)), .val (.int (own_q p1)), .val (.int (own_q p2)), .val (.int (own_q p3)), .val (.int (own_q p4)), .val (.ref b39), .val (.long (((0 : Int64) + (((own_q p1).toInt64) * ((own_q p1).toInt64))) + (((own_q p2).toInt64) * ((own_q p2).toInt64)))), .second, .unset, .unset] [])) _
      refine XS.lload X51.here hx rfl (hb hby at_198) rfl ?_
      show Steps p.tables e below (T51.setTop (mkF m 200 #[.val (.int p0), .val (.int p1), .val (.int p2), .val (.int p3), .val (.int p4), .val (.int (3 : Int32)), .val (.int (own_q p1)), .val (.int (own_q p2)), .val (.int (own_q p3)), .val (.int (own_q p4)), .val (.ref b39), .val (.long (((0 : Int64) + (((own_q p1).toInt64) * ((own_q p1).toInt64))) + (((own_q p2).toInt64) * ((own_q p2).toInt64)))), .second, .unset, .unset] [(.long (((0 : Int64) + (((own_q p1).toInt64) * ((own_q p1).toInt64))) + (((own_q p2).toInt64) * ((own_q p2).toInt64))))])) _
      refine XS.iload X51.here hx rfl (hb hby at_200) rfl ?_
      show Steps p.tables e below (T51.setTop (mkF m 202 #[.val (.int p0), .val (.int p1), .val (.int p2), .val (.int p3), .val (.int p4), .val (.int (3 : Int32)), .val (.int (own_q p1)), .val (.int (own_q p2)), .val (.int (own_q p3)), .val (.int (own_q p4)), .val (.ref b39), .val (.long (((0 : Int64) + (((own_q p1).toInt64) * ((own_q p1).toInt64))) + (((own_q p2).toInt64) * ((own_q p2).toInt64)))), .second, .unset, .unset] [(.int (own_q p3)), (.long (((0 : Int64) + (((own_q p1).toInt64) * ((own_q p1).toInt64))) + (((own_q p2).toInt64) * ((own_q p2).toInt64))))])) _
      refine XS.i2l X51.here hx rfl (hb hby at_202) rfl ?_
      show Steps p.tables e below (T51.setTop (mkF m 203 #[.val (.int p0), .val (.int p1), .val (.int p2), .val (.int p3), .val (.int p4), .val (.int (3 : Int32)), .val (.int (own_q p1)), .val (.int (own_q p2)), .val (.int (own_q p3)), .val (.int (own_q p4)), .val (.ref b39), .val (.long (((0 : Int64) + (((own_q p1).toInt64) * ((own_q p1).toInt64))) + (((own_q p2).toInt64) * ((own_q p2).toInt64)))), .second, .unset, .unset] [(.long ((own_q p3).toInt64)), (.long (((0 : Int64) + (((own_q p1).toInt64) * ((own_q p1).toInt64))) + (((own_q p2).toInt64) * ((own_q p2).toInt64))))])) _
      refine XS.iload X51.here hx rfl (hb hby at_203) rfl ?_
      show Steps p.tables e below (T51.setTop (mkF m 205 #[.val (.int p0), .val (.int p1), .val (.int p2), .val (.int p3), .val (.int p4), .val (.int (3 : Int32)), .val (.int (own_q p1)), .val (.int (own_q p2)), .val (.int (own_q p3)), .val (.int (own_q p4)), .val (.ref b39), .val (.long (((0 : Int64) + (((own_q p1).toInt64) * ((own_q p1).toInt64))) + (((own_q p2).toInt64) * ((own_q p2).toInt64)))), .second, .unset, .unset] [(.int (own_q p3)), (.long ((own_q p3).toInt64)), (.long (((0 : Int64) + (((own_q p1).toInt64) * ((own_q p1).toInt64))) + (((own_q p2).toInt64) * ((own_q p2).toInt64))))])) _
      refine XS.i2l X51.here hx rfl (hb hby at_205) rfl ?_
      show Steps p.tables e below (T51.setTop (mkF m 206 #[.val (.int p0), .val (.int p1), .val (.int p2), .val (.int p3), .val (.int p4), .val (.int (3 : Int32)), .val (.int (own_q p1)), .val (.int (own_q p2)), .val (.int (own_q p3)), .val (.int (own_q p4)), .val (.ref b39), .val (.long (((0 : Int64) + (((own_q p1).toInt64) * ((own_q p1).toInt64))) + (((own_q p2).toInt64) * ((own_q p2).toInt64)))), .second, .unset, .unset] [(.long ((own_q p3).toInt64)), (.long ((own_q p3).toInt64)), (.long (((0 : Int64) + (((own_q p1).toInt64) * ((own_q p1).toInt64))) + (((own_q p2).toInt64) * ((own_q p2).toInt64))))])) _
      refine XS.lmul X51.here hx rfl (hb hby at_206) rfl ?_
      show Steps p.tables e below (T51.setTop (mkF m 207 #[.val (.int p0), .val (.int p1), .val (.int p2), .val (.int p3), .val (.int p4), .val (.int (3 : Int32)), .val (.int (own_q p1)), .val (.int (own_q p2)), .val (.int (own_q p3)), .val (.int (own_q p4)), .val (.ref b39), .val (.long (((0 : Int64) + (((own_q p1).toInt64) * ((own_q p1).toInt64))) + (((own_q p2).toInt64) * ((own_q p2).toInt64)))), .second, .unset, .unset] [(.long (((own_q p3).toInt64) * ((own_q p3).toInt64))), (.long (((0 : Int64) + (((own_q p1).toInt64) * ((own_q p1).toInt64))) + (((own_q p2).toInt64) * ((own_q p2).toInt64))))])) _
      refine XS.ladd X51.here hx rfl (hb hby at_207) rfl ?_
      show Steps p.tables e below (T51.setTop (mkF m 208 #[.val (.int p0), .val (.int p1), .val (.int p2), .val (.int p3), .val (.int p4), .val (.int (3 : Int32)), .val (.int (own_q p1)), .val (.int (own_q p2)), .val (.int (own_q p3)), .val (.int (own_q p4)), .val (.ref b39), .val (.long (((0 : Int64) + (((own_q p1).toInt64) * ((own_q p1).toInt64))) + (((own_q p2).toInt64) * ((own_q p2).toInt64)))), .second, .unset, .unset] [(.long ((((0 : Int64) + (((own_q p1).toInt64) * ((own_q p1).toInt64))) + (((own_q p2).toInt64) * ((own_q p2).toInt64))) + (((own_q p3).toInt64) * ((own_q p3).toInt64))))])) _
      refine XS.lstore X51.here hx rfl (hb hby at_208) rfl (l' := #[.val (.int p0), .val (.int p1), .val (.int p2), .val (.int p3), .val (.int p4), .val (.int (3 : Int32)), .val (.int (own_q p1)), .val (.int (own_q p2)), .val (.int (own_q p3)), .val (.int (own_q p4)), .val (.ref b39), .val (.long ((((0 : Int64) + (((own_q p1).toInt64) * ((own_q p1).toInt64))) + (((own_q p2).toInt64) * ((own_q p2).toInt64))) + (((own_q p3).toInt64) * ((own_q p3).toInt64)))), .second, .unset, .unset]) rfl ?_
      show Steps p.tables e below (T51.setTop (mkF m 210 #[.val (.int p0), .val (.int p1), .val (.int p2), .val (.int p3), .val (.int p4), .val (.int (3 : Int32)), .val (.int (own_q p1)), .val (.int (own_q p2)), .val (.int (own_q p3)), .val (.int (own_q p4)), .val (.ref b39), .val (.long ((((0 : Int64) + (((own_q p1).toInt64) * ((own_q p1).toInt64))) + (((own_q p2).toInt64) * ((own_q p2).toInt64))) + (((own_q p3).toInt64) * ((own_q p3).toInt64)))), .second, .unset, .unset] [])) _
      refine XS.iload X51.here hx rfl (hb hby at_210) rfl ?_
      show Steps p.tables e below (T51.setTop (mkF m 212 #[.val (.int p0), .val (.int p1), .val (.int p2), .val (.int p3), .val (.int p4), .val (.int (3 : Int32)), .val (.int (own_q p1)), .val (.int (own_q p2)), .val (.int (own_q p3)), .val (.int (own_q p4)), .val (.ref b39), .val (.long ((((0 : Int64) + (((own_q p1).toInt64) * ((own_q p1).toInt64))) + (((own_q p2).toInt64) * ((own_q p2).toInt64))) + (((own_q p3).toInt64) * ((own_q p3).toInt64)))), .second, .unset, .unset] [(.int (3 : Int32))])) _
      refine XS.iconst X51.here hx rfl (hb hby at_212) ?_
      show Steps p.tables e below (T51.setTop (mkF m 213 #[.val (.int p0), .val (.int p1), .val (.int p2), .val (.int p3), .val (.int p4), .val (.int (3 : Int32)), .val (.int (own_q p1)), .val (.int (own_q p2)), .val (.int (own_q p3)), .val (.int (own_q p4)), .val (.ref b39), .val (.long ((((0 : Int64) + (((own_q p1).toInt64) * ((own_q p1).toInt64))) + (((own_q p2).toInt64) * ((own_q p2).toInt64))) + (((own_q p3).toInt64) * ((own_q p3).toInt64)))), .second, .unset, .unset] [(.int (4 : Int32)), (.int (3 : Int32))])) _
      refine XS.icmpYes X51.here hx rfl (pc0 := 213) (pc' := 228) rfl (hb hby at_213) rfl (tlt (by decide : (3 : Int32) < (4 : Int32))).1 (by decide) (by decide) ?_
      show Steps p.tables e below (T51.setTop (mkF m 228 #[.val (.int p0), .val (.int p1), .val (.int p2), .val (.int p3), .val (.int p4), .val (.int (3 : Int32)), .val (.int (own_q p1)), .val (.int (own_q p2)), .val (.int (own_q p3)), .val (.int (own_q p4)), .val (.ref b39), .val (.long ((((0 : Int64) + (((own_q p1).toInt64) * ((own_q p1).toInt64))) + (((own_q p2).toInt64) * ((own_q p2).toInt64))) + (((own_q p3).toInt64) * ((own_q p3).toInt64)))), .second, .unset, .unset] [])) _
      refine XS.aload X51.here hx rfl (hb hby at_228) rfl rfl ?_
      exact kt
    obtain ⟨_, _, ⟨T55, L55, kc55, nc55⟩, -, X55, ⟨Lc55, hQ55, l55, y55, z55⟩, st55⟩ := Jvm.LawKit.callS X51 hx (y := (⟨"com/example/vidura/vidura/stats/Values", "sumOfSquares", "([D)D"⟩ : MethodName)) hown (mvT hZ (hw _ (List.mem_of_getElem? (i := 3) rfl))) (mvT hZ (hw _ (List.mem_of_getElem? (i := 4) rfl))) (mvT hZ (hw _ (List.mem_of_getElem? (i := 5) rfl))) (mvT hZ (hw _ (List.mem_of_getElem? (i := 6) rfl))) (by decide) (backOf (W := 0) (rm1m3 l Z a0 hw [] b39 k39 (own_q p1) (own_q p2) (own_q p3) h51 n0 z53 V51' (own_q_sm p1) (own_q_sm p2) (own_q_sm p3)) hZ (hw _ (List.mem_of_getElem? (i := 6) rfl)) (hw _ (List.mem_of_getElem? (i := 5) rfl)) (by decide) (by decide)) (g := (mkF m 230 #[.val (.int p0), .val (.int p1), .val (.int p2), .val (.int p3), .val (.int p4), .val (.int (3 : Int32)), .val (.int (own_q p1)), .val (.int (own_q p2)), .val (.int (own_q p3)), .val (.int (own_q p4)), .val (.ref b39), .val (.long ((((0 : Int64) + (((own_q p1).toInt64) * ((own_q p1).toInt64))) + (((own_q p2).toInt64) * ((own_q p2).toInt64))) + (((own_q p3).toInt64) * ((own_q p3).toInt64)))), .second, .unset, .unset] [(.ref b39)])) rfl (by rw [hml]; rfl) (argsL := [(.ref b39)]) (rest := []) (lenOf pd_0 rfl) rfl (by show 2 * 0 + _ ≤ _; exact Nat.le_of_eq rfl) (hb hby at_230) (fun _ _ => ⟨rfl, e51, (by decide : 1 + 0 ≤ _), (by decide : 3 + 0 ≤ _)⟩)
    dsimp only [Pt.U, Pt.locs, Pt.cells, Pt.slots] at X55 l55 y55 z55 st55 hQ55
    subst l55 y55 z55
    obtain ⟨rfl, N55q, he55⟩ := hQ55
    have N55 := Fr.app N51 N55q
    have pre56 : ∀ t, Steps p.tables e below (T55.setTop (mkF m 233 #[.val (.int p0), .val (.int p1), .val (.int p2), .val (.int p3), .val (.int p4), .val (.int (3 : Int32)), .val (.int (own_q p1)), .val (.int (own_q p2)), .val (.int (own_q p3)), .val (.int (own_q p4)), .val (.ref b39), .val (.long ((((0 : Int64) + (((own_q p1).toInt64) * ((own_q p1).toInt64))) + (((own_q p2).toInt64) * ((own_q p2).toInt64))) + (((own_q p3).toInt64) * ((own_q p3).toInt64)))), .second, .unset, .unset] [(.double (FP.l2d ((((0 : Int64) + (((own_q p1).toInt64) * ((own_q p1).toInt64))) + (((own_q p2).toInt64) * ((own_q p2).toInt64))) + (((own_q p3).toInt64) * ((own_q p3).toInt64)))))])) t → Steps p.tables e below (s₁.setTop (entryFrame m #[(.int p0), (.int p1), (.int p2), (.int p3), (.int p4)] maxLocals)) t := fun t kt => pre54 _ (st55 _ kt)
    have pre57 : ∀ t, Steps p.tables e below (T55.setTop (mkF m 249 #[.val (.int p0), .val (.int p1), .val (.int p2), .val (.int p3), .val (.int p4), .val (.int (3 : Int32)), .val (.int (own_q p1)), .val (.int (own_q p2)), .val (.int (own_q p3)), .val (.int (own_q p4)), .val (.ref b39), .val (.long ((((0 : Int64) + (((own_q p1).toInt64) * ((own_q p1).toInt64))) + (((own_q p2).toInt64) * ((own_q p2).toInt64))) + (((own_q p3).toInt64) * ((own_q p3).toInt64)))), .second, .val (.double (FP.l2d ((((0 : Int64) + (((own_q p1).toInt64) * ((own_q p1).toInt64))) + (((own_q p2).toInt64) * ((own_q p2).toInt64))) + (((own_q p3).toInt64) * ((own_q p3).toInt64))))), .second] [(.int (1 : Int32))])) t → Steps p.tables e below (s₁.setTop (entryFrame m #[(.int p0), (.int p1), (.int p2), (.int p3), (.int p4)] maxLocals)) t := fun t kt => by
      refine pre56 _ ?_
      show Steps p.tables e below (T55.setTop (mkF m 233 #[.val (.int p0), .val (.int p1), .val (.int p2), .val (.int p3), .val (.int p4), .val (.int (3 : Int32)), .val (.int (own_q p1)), .val (.int (own_q p2)), .val (.int (own_q p3)), .val (.int (own_q p4)), .val (.ref b39), .val (.long ((((0 : Int64) + (((own_q p1).toInt64) * ((own_q p1).toInt64))) + (((own_q p2).toInt64) * ((own_q p2).toInt64))) + (((own_q p3).toInt64) * ((own_q p3).toInt64)))), .second, .unset, .unset] [(.double (FP.l2d ((((0 : Int64) + (((own_q p1).toInt64) * ((own_q p1).toInt64))) + (((own_q p2).toInt64) * ((own_q p2).toInt64))) + (((own_q p3).toInt64) * ((own_q p3).toInt64)))))])) _
      refine XS.dstore X55.here hx rfl (hb hby at_233) rfl (l' := #[.val (.int p0), .val (.int p1), .val (.int p2), .val (.int p3), .val (.int p4), .val (.int (3 : Int32)), .val (.int (own_q p1)), .val (.int (own_q p2)), .val (.int (own_q p3)), .val (.int (own_q p4)), .val (.ref b39), .val (.long ((((0 : Int64) + (((own_q p1).toInt64) * ((own_q p1).toInt64))) + (((own_q p2).toInt64) * ((own_q p2).toInt64))) + (((own_q p3).toInt64) * ((own_q p3).toInt64)))), .second, .val (.double (FP.l2d ((((0 : Int64) + (((own_q p1).toInt64) * ((own_q p1).toInt64))) + (((own_q p2).toInt64) * ((own_q p2).toInt64))) + (((own_q p3).toInt64) * ((own_q p3).toInt64))))), .second]) rfl ?_
      show Steps p.tables e below (T55.setTop (mkF m 235 #[.val (.int p0), .val (.int p1), .val (.int p2), .val (.int p3), .val (.int p4), .val (.int (3 : Int32)), .val (.int (own_q p1)), .val (.int (own_q p2)), .val (.int (own_q p3)), .val (.int (own_q p4)), .val (.ref b39), .val (.long ((((0 : Int64) + (((own_q p1).toInt64) * ((own_q p1).toInt64))) + (((own_q p2).toInt64) * ((own_q p2).toInt64))) + (((own_q p3).toInt64) * ((own_q p3).toInt64)))), .second, .val (.double (FP.l2d ((((0 : Int64) + (((own_q p1).toInt64) * ((own_q p1).toInt64))) + (((own_q p2).toInt64) * ((own_q p2).toInt64))) + (((own_q p3).toInt64) * ((own_q p3).toInt64))))), .second] [])) _
      refine XS.dload X55.here hx rfl (hb hby at_235) rfl ?_
      show Steps p.tables e below (T55.setTop (mkF m 237 #[.val (.int p0), .val (.int p1), .val (.int p2), .val (.int p3), .val (.int p4), .val (.int (3 : Int32)), .val (.int (own_q p1)), .val (.int (own_q p2)), .val (.int (own_q p3)), .val (.int (own_q p4)), .val (.ref b39), .val (.long ((((0 : Int64) + (((own_q p1).toInt64) * ((own_q p1).toInt64))) + (((own_q p2).toInt64) * ((own_q p2).toInt64))) + (((own_q p3).toInt64) * ((own_q p3).toInt64)))), .second, .val (.double (FP.l2d ((((0 : Int64) + (((own_q p1).toInt64) * ((own_q p1).toInt64))) + (((own_q p2).toInt64) * ((own_q p2).toInt64))) + (((own_q p3).toInt64) * ((own_q p3).toInt64))))), .second] [(.double (FP.l2d ((((0 : Int64) + (((own_q p1).toInt64) * ((own_q p1).toInt64))) + (((own_q p2).toInt64) * ((own_q p2).toInt64))) + (((own_q p3).toInt64) * ((own_q p3).toInt64)))))])) _
      refine XS.lload X55.here hx rfl (hb hby at_237) rfl ?_
      show Steps p.tables e below (T55.setTop (mkF m 239 #[.val (.int p0), .val (.int p1), .val (.int p2), .val (.int p3), .val (.int p4), .val (.int (3 : Int32)), .val (.int (own_q p1)), .val (.int (own_q p2)), .val (.int (own_q p3)), .val (.int (own_q p4)), .val (.ref b39), .val (.long ((((0 : Int64) + (((own_q p1).toInt64) * ((own_q p1).toInt64))) + (((own_q p2).toInt64) * ((own_q p2).toInt64))) + (((own_q p3).toInt64) * ((own_q p3).toInt64)))), .second, .val (.double (FP.l2d ((((0 : Int64) + (((own_q p1).toInt64) * ((own_q p1).toInt64))) + (((own_q p2).toInt64) * ((own_q p2).toInt64))) + (((own_q p3).toInt64) * ((own_q p3).toInt64))))), .second] [(.long ((((0 : Int64) + (((own_q p1).toInt64) * ((own_q p1).toInt64))) + (((own_q p2).toInt64) * ((own_q p2).toInt64))) + (((own_q p3).toInt64) * ((own_q p3).toInt64)))), (.double (FP.l2d ((((0 : Int64) + (((own_q p1).toInt64) * ((own_q p1).toInt64))) + (((own_q p2).toInt64) * ((own_q p2).toInt64))) + (((own_q p3).toInt64) * ((own_q p3).toInt64)))))])) _
      refine XS.l2dS X55.here hx rfl (hb hby at_239) rfl rfl ?_
      show Steps p.tables e below (T55.setTop (mkF m 240 #[.val (.int p0), .val (.int p1), .val (.int p2), .val (.int p3), .val (.int p4), .val (.int (3 : Int32)), .val (.int (own_q p1)), .val (.int (own_q p2)), .val (.int (own_q p3)), .val (.int (own_q p4)), .val (.ref b39), .val (.long ((((0 : Int64) + (((own_q p1).toInt64) * ((own_q p1).toInt64))) + (((own_q p2).toInt64) * ((own_q p2).toInt64))) + (((own_q p3).toInt64) * ((own_q p3).toInt64)))), .second, .val (.double (FP.l2d ((((0 : Int64) + (((own_q p1).toInt64) * ((own_q p1).toInt64))) + (((own_q p2).toInt64) * ((own_q p2).toInt64))) + (((own_q p3).toInt64) * ((own_q p3).toInt64))))), .second] [(.double (FP.l2d ((((0 : Int64) + (((own_q p1).toInt64) * ((own_q p1).toInt64))) + (((own_q p2).toInt64) * ((own_q p2).toInt64))) + (((own_q p3).toInt64) * ((own_q p3).toInt64))))), (.double (FP.l2d ((((0 : Int64) + (((own_q p1).toInt64) * ((own_q p1).toInt64))) + (((own_q p2).toInt64) * ((own_q p2).toInt64))) + (((own_q p3).toInt64) * ((own_q p3).toInt64)))))])) _
      refine XS.dcmpS X55.here hx rfl (hb hby at_240) rfl (dcmpV_self (nn_w rfl) _) ?_
      show Steps p.tables e below (T55.setTop (mkF m 241 #[.val (.int p0), .val (.int p1), .val (.int p2), .val (.int p3), .val (.int p4), .val (.int (3 : Int32)), .val (.int (own_q p1)), .val (.int (own_q p2)), .val (.int (own_q p3)), .val (.int (own_q p4)), .val (.ref b39), .val (.long ((((0 : Int64) + (((own_q p1).toInt64) * ((own_q p1).toInt64))) + (((own_q p2).toInt64) * ((own_q p2).toInt64))) + (((own_q p3).toInt64) * ((own_q p3).toInt64)))), .second, .val (.double (FP.l2d ((((0 : Int64) + (((own_q p1).toInt64) * ((own_q p1).toInt64))) + (((own_q p2).toInt64) * ((own_q p2).toInt64))) + (((own_q p3).toInt64) * ((own_q p3).toInt64))))), .second] [(.int (0 : Int32))])) _
      refine XS.ifNo X55.here hx rfl (hb hby at_241) rfl ((if0 _ _).trans (teq (by decide : (0 : Int32) = (0 : Int32))).2) ?_
      show Steps p.tables e below (T55.setTop (mkF m 244 #[.val (.int p0), .val (.int p1), .val (.int p2), .val (.int p3), .val (.int p4), .val (.int (3 : Int32)), .val (.int (own_q p1)), .val (.int (own_q p2)), .val (.int (own_q p3)), .val (.int (own_q p4)), .val (.ref b39), .val (.long ((((0 : Int64) + (((own_q p1).toInt64) * ((own_q p1).toInt64))) + (((own_q p2).toInt64) * ((own_q p2).toInt64))) + (((own_q p3).toInt64) * ((own_q p3).toInt64)))), .second, .val (.double (FP.l2d ((((0 : Int64) + (((own_q p1).toInt64) * ((own_q p1).toInt64))) + (((own_q p2).toInt64) * ((own_q p2).toInt64))) + (((own_q p3).toInt64) * ((own_q p3).toInt64))))), .second] [])) _
      refine XS.iconst X55.here hx rfl (hb hby at_244) ?_
      show Steps p.tables e below (T55.setTop (mkF m 245 #[.val (.int p0), .val (.int p1), .val (.int p2), .val (.int p3), .val (.int p4), .val (.int (3 : Int32)), .val (.int (own_q p1)), .val (.int (own_q p2)), .val (.int (own_q p3)), .val (.int (own_q p4)), .val (.ref b39), .val (.long ((((0 : Int64) + (((own_q p1).toInt64) * ((own_q p1).toInt64))) + (((own_q p2).toInt64) * ((own_q p2).toInt64))) + (((own_q p3).toInt64) * ((own_q p3).toInt64)))), .second, .val (.double (FP.l2d ((((0 : Int64) + (((own_q p1).toInt64) * ((own_q p1).toInt64))) + (((own_q p2).toInt64) * ((own_q p2).toInt64))) + (((own_q p3).toInt64) * ((own_q p3).toInt64))))), .second] [(.int (1 : Int32))])) _
      refine XS.goto X55.here hx rfl (pc0 := 245) (pc' := 249) rfl (hb hby at_245) (by decide) (by decide) ?_
      exact kt
    obtain ⟨fs, hr, hrun, hended, hW, hsame⟩ := X55.leave (v := (some (.int (1 : Int32)))) (fun h => by rw [Bd.returns] at h; cases h)
    refine ⟨_, _, pre57 _ ?_, hrun, hended, _, _, rfl, ?_, ⟨_, rfl⟩, hW, hsame.mono (by decide) (by decide)⟩
    · show Steps p.tables e below (T55.setTop (mkF m 249 #[.val (.int p0), .val (.int p1), .val (.int p2), .val (.int p3), .val (.int p4), .val (.int (3 : Int32)), .val (.int (own_q p1)), .val (.int (own_q p2)), .val (.int (own_q p3)), .val (.int (own_q p4)), .val (.ref b39), .val (.long ((((0 : Int64) + (((own_q p1).toInt64) * ((own_q p1).toInt64))) + (((own_q p2).toInt64) * ((own_q p2).toInt64))) + (((own_q p3).toInt64) * ((own_q p3).toInt64)))), .second, .val (.double (FP.l2d ((((0 : Int64) + (((own_q p1).toInt64) * ((own_q p1).toInt64))) + (((own_q p2).toInt64) * ((own_q p2).toInt64))) + (((own_q p3).toInt64) * ((own_q p3).toInt64))))), .second] [(.int (1 : Int32))])) _
      exact retN X55 hx (t := .boolean) Bd.returns (by simp) (hb hby at_249) hr
    · show Q0 Z p0 p1 p2 p3 p4 h0 n0 _ T55.heap _
      rw [he55]
      exact ⟨rfl, N55⟩
  · have pre58 : ∀ t, Steps p.tables e below (s₁.setTop (mkF m 125 #[.val (.int p0), .val (.int p1), .val (.int p2), .val (.int p3), .val (.int p4), .val (.int (4 : Int32)), .val (.int (own_q p1)), .val (.int (own_q p2)), .val (.int (own_q p3)), .val (.int (own_q p4)), .unset, .unset, .unset, .unset, .unset] [(.int (4 : Int32))])) t → Steps p.tables e below (s₁.setTop (entryFrame m #[(.int p0), (.int p1), (.int p2), (.int p3), (.int p4)] maxLocals)) t := fun t kt => by
      refine pre1 _ ?_
      show Steps p.tables e below (s₁.setTop (mkF m 31 #[.val (.int p0), .val (.int p1), .val (.int p2), .val (.int p3), .val (.int p4), .val (.int (own_n p0)), .val (.int (own_q p1)), .val (.int (own_q p2)), .val (.int (own_q p3)), .unset, .unset, .unset, .unset, .unset, .unset] [(.int (own_q p4))])) _
      refine XS.istore X0.here hx rfl (hb hby at_31) rfl (l' := #[.val (.int p0), .val (.int p1), .val (.int p2), .val (.int p3), .val (.int p4), .val (.int (own_n p0)), .val (.int (own_q p1)), .val (.int (own_q p2)), .val (.int (own_q p3)), .val (.int (own_q p4)), .unset, .unset, .unset, .unset, .unset]) rfl ?_
      show Steps p.tables e below (s₁.setTop (mkF m 33 #[.val (.int p0), .val (.int p1), .val (.int p2), .val (.int p3), .val (.int p4), .val (.int (own_n p0)), .val (.int (own_q p1)), .val (.int (own_q p2)), .val (.int (own_q p3)), .val (.int (own_q p4)), .unset, .unset, .unset, .unset, .unset] [])) _
      rw [show (own_n p0) = (4 : Int32) from hn]
      show Steps p.tables e below (s₁.setTop (mkF m 33 #[.val (.int p0), .val (.int p1), .val (.int p2), .val (.int p3), .val (.int p4), .val (.int (4 : Int32)), .val (.int (own_q p1)), .val (.int (own_q p2)), .val (.int (own_q p3)), .val (.int (own_q p4)), .unset, .unset, .unset, .unset, .unset] [])) _
      refine XS.iload X0.here hx rfl (hb hby at_33) rfl ?_
      show Steps p.tables e below (s₁.setTop (mkF m 35 #[.val (.int p0), .val (.int p1), .val (.int p2), .val (.int p3), .val (.int p4), .val (.int (4 : Int32)), .val (.int (own_q p1)), .val (.int (own_q p2)), .val (.int (own_q p3)), .val (.int (own_q p4)), .unset, .unset, .unset, .unset, .unset] [(.int (4 : Int32))])) _
      refine XS.ifYes X0.here hx rfl (pc0 := 35) (pc' := 46) rfl (hb hby at_35) rfl ((if0 _ _).trans (feq (by decide : ¬ ((4 : Int32) = (0 : Int32)))).2) (by decide) (by decide) ?_
      show Steps p.tables e below (s₁.setTop (mkF m 46 #[.val (.int p0), .val (.int p1), .val (.int p2), .val (.int p3), .val (.int p4), .val (.int (4 : Int32)), .val (.int (own_q p1)), .val (.int (own_q p2)), .val (.int (own_q p3)), .val (.int (own_q p4)), .unset, .unset, .unset, .unset, .unset] [])) _
      refine XS.iload X0.here hx rfl (hb hby at_46) rfl ?_
      show Steps p.tables e below (s₁.setTop (mkF m 48 #[.val (.int p0), .val (.int p1), .val (.int p2), .val (.int p3), .val (.int p4), .val (.int (4 : Int32)), .val (.int (own_q p1)), .val (.int (own_q p2)), .val (.int (own_q p3)), .val (.int (own_q p4)), .unset, .unset, .unset, .unset, .unset] [(.int (4 : Int32))])) _
      refine XS.iconst X0.here hx rfl (hb hby at_48) ?_
      show Steps p.tables e below (s₁.setTop (mkF m 49 #[.val (.int p0), .val (.int p1), .val (.int p2), .val (.int p3), .val (.int p4), .val (.int (4 : Int32)), .val (.int (own_q p1)), .val (.int (own_q p2)), .val (.int (own_q p3)), .val (.int (own_q p4)), .unset, .unset, .unset, .unset, .unset] [(.int (1 : Int32)), (.int (4 : Int32))])) _
      refine XS.icmpYes X0.here hx rfl (pc0 := 49) (pc' := 66) rfl (hb hby at_49) rfl (feq (by decide : ¬ ((4 : Int32) = (1 : Int32)))).2 (by decide) (by decide) ?_
      show Steps p.tables e below (s₁.setTop (mkF m 66 #[.val (.int p0), .val (.int p1), .val (.int p2), .val (.int p3), .val (.int p4), .val (.int (4 : Int32)), .val (.int (own_q p1)), .val (.int (own_q p2)), .val (.int (own_q p3)), .val (.int (own_q p4)), .unset, .unset, .unset, .unset, .unset] [])) _
      refine XS.iload X0.here hx rfl (hb hby at_66) rfl ?_
      show Steps p.tables e below (s₁.setTop (mkF m 68 #[.val (.int p0), .val (.int p1), .val (.int p2), .val (.int p3), .val (.int p4), .val (.int (4 : Int32)), .val (.int (own_q p1)), .val (.int (own_q p2)), .val (.int (own_q p3)), .val (.int (own_q p4)), .unset, .unset, .unset, .unset, .unset] [(.int (4 : Int32))])) _
      refine XS.iconst X0.here hx rfl (hb hby at_68) ?_
      show Steps p.tables e below (s₁.setTop (mkF m 69 #[.val (.int p0), .val (.int p1), .val (.int p2), .val (.int p3), .val (.int p4), .val (.int (4 : Int32)), .val (.int (own_q p1)), .val (.int (own_q p2)), .val (.int (own_q p3)), .val (.int (own_q p4)), .unset, .unset, .unset, .unset, .unset] [(.int (2 : Int32)), (.int (4 : Int32))])) _
      refine XS.icmpYes X0.here hx rfl (pc0 := 69) (pc' := 92) rfl (hb hby at_69) rfl (feq (by decide : ¬ ((4 : Int32) = (2 : Int32)))).2 (by decide) (by decide) ?_
      show Steps p.tables e below (s₁.setTop (mkF m 92 #[.val (.int p0), .val (.int p1), .val (.int p2), .val (.int p3), .val (.int p4), .val (.int (4 : Int32)), .val (.int (own_q p1)), .val (.int (own_q p2)), .val (.int (own_q p3)), .val (.int (own_q p4)), .unset, .unset, .unset, .unset, .unset] [])) _
      refine XS.iload X0.here hx rfl (hb hby at_92) rfl ?_
      show Steps p.tables e below (s₁.setTop (mkF m 94 #[.val (.int p0), .val (.int p1), .val (.int p2), .val (.int p3), .val (.int p4), .val (.int (4 : Int32)), .val (.int (own_q p1)), .val (.int (own_q p2)), .val (.int (own_q p3)), .val (.int (own_q p4)), .unset, .unset, .unset, .unset, .unset] [(.int (4 : Int32))])) _
      refine XS.iconst X0.here hx rfl (hb hby at_94) ?_
      show Steps p.tables e below (s₁.setTop (mkF m 95 #[.val (.int p0), .val (.int p1), .val (.int p2), .val (.int p3), .val (.int p4), .val (.int (4 : Int32)), .val (.int (own_q p1)), .val (.int (own_q p2)), .val (.int (own_q p3)), .val (.int (own_q p4)), .unset, .unset, .unset, .unset, .unset] [(.int (3 : Int32)), (.int (4 : Int32))])) _
      refine XS.icmpYes X0.here hx rfl (pc0 := 95) (pc' := 124) rfl (hb hby at_95) rfl (feq (by decide : ¬ ((4 : Int32) = (3 : Int32)))).2 (by decide) (by decide) ?_
      show Steps p.tables e below (s₁.setTop (mkF m 124 #[.val (.int p0), .val (.int p1), .val (.int p2), .val (.int p3), .val (.int p4), .val (.int (4 : Int32)), .val (.int (own_q p1)), .val (.int (own_q p2)), .val (.int (own_q p3)), .val (.int (own_q p4)), .unset, .unset, .unset, .unset, .unset] [])) _
      refine XS.iconst X0.here hx rfl (hb hby at_124) ?_
      exact kt
    obtain ⟨T59, h59, k59, X59, e59, E59, A59, st59⟩ := newP X0 hx hZ (hw _ (List.mem_of_getElem? (i := 2) rfl)) e0 (g := (mkF m 125 #[.val (.int p0), .val (.int p1), .val (.int p2), .val (.int p3), .val (.int p4), .val (.int (4 : Int32)), .val (.int (own_q p1)), .val (.int (own_q p2)), .val (.int (own_q p3)), .val (.int (own_q p4)), .unset, .unset, .unset, .unset, .unset] [(.int (4 : Int32))])) rfl (hb hby at_125) rfl (by decide) (cap := 4) (by decide) (by decide) (by decide) (by decide)
    obtain ⟨b59, gq59⟩ : ∃ z, z = h0.size := ⟨_, rfl⟩
    rw [← gq59] at A59 st59
    have gg_b59 : n0 ≤ b59 := Nat.le_trans Z0 (Nat.le_of_eq gq59.symm)
    have V59 : Arv Z h59 b59 k59 .double (4 : Int32) [(.double 0), (.double 0), (.double 0), (.double 0)] (.double 0) := (Arv.new A59 (by decide)).pad (pad_rep [] (.double 0) 4)
    have pre60 : ∀ t, Steps p.tables e below (T59.setTop (mkF m 127 #[.val (.int p0), .val (.int p1), .val (.int p2), .val (.int p3), .val (.int p4), .val (.int (4 : Int32)), .val (.int (own_q p1)), .val (.int (own_q p2)), .val (.int (own_q p3)), .val (.int (own_q p4)), .unset, .unset, .unset, .unset, .unset] [(.ref b59)])) t → Steps p.tables e below (s₁.setTop (entryFrame m #[(.int p0), (.int p1), (.int p2), (.int p3), (.int p4)] maxLocals)) t := fun t kt => pre58 _ (st59 _ kt)
    obtain ⟨cl61, Ar61, qk61, Sz61, Nn61, Hh61, Gg61⟩ := id V59
    have hin61 : ¬ ((0 : Int32) < 0 ∨ cl61.slots.size ≤ ((0 : Int32)).toNatClampNeg) := inb_of Sz61 ⟨by decide, by decide⟩
    have pre62 : ∀ t, Steps p.tables e below (T59.setTop (mkF m 132 #[.val (.int p0), .val (.int p1), .val (.int p2), .val (.int p3), .val (.int p4), .val (.int (4 : Int32)), .val (.int (own_q p1)), .val (.int (own_q p2)), .val (.int (own_q p3)), .val (.int (own_q p4)), .unset, .unset, .unset, .unset, .unset] [(.double (FP.i2d (own_q p1))), (.int (0 : Int32)), (.ref b59), (.ref b59)])) t → Steps p.tables e below (s₁.setTop (entryFrame m #[(.int p0), (.int p1), (.int p2), (.int p3), (.int p4)] maxLocals)) t := fun t kt => by
      refine pre60 _ ?_
      show Steps p.tables e below (T59.setTop (mkF m 127 #[.val (.int p0), .val (.int p1), .val (.int p2), .val (.int p3), .val (.int p4), .val (.int (4 : Int32)), .val (.int (own_q p1)), .val (.int (own_q p2)), .val (.int (own_q p3)), .val (.int (own_q p4)), .unset, .unset, .unset, .unset, .unset] [(.ref b59)])) _
      refine XS.dup X59.here hx rfl (hb hby at_127) rfl rfl ?_
      show Steps p.tables e below (T59.setTop (mkF m 128 #[.val (.int p0), .val (.int p1), .val (.int p2), .val (.int p3), .val (.int p4), .val (.int (4 : Int32)), .val (.int (own_q p1)), .val (.int (own_q p2)), .val (.int (own_q p3)), .val (.int (own_q p4)), .unset, .unset, .unset, .unset, .unset] [(.ref b59), (.ref b59)])) _
      refine XS.iconst X59.here hx rfl (hb hby at_128) ?_
      show Steps p.tables e below (T59.setTop (mkF m 129 #[.val (.int p0), .val (.int p1), .val (.int p2), .val (.int p3), .val (.int p4), .val (.int (4 : Int32)), .val (.int (own_q p1)), .val (.int (own_q p2)), .val (.int (own_q p3)), .val (.int (own_q p4)), .unset, .unset, .unset, .unset, .unset] [(.int (0 : Int32)), (.ref b59), (.ref b59)])) _
      refine XS.iload X59.here hx rfl (hb hby at_129) rfl ?_
      show Steps p.tables e below (T59.setTop (mkF m 131 #[.val (.int p0), .val (.int p1), .val (.int p2), .val (.int p3), .val (.int p4), .val (.int (4 : Int32)), .val (.int (own_q p1)), .val (.int (own_q p2)), .val (.int (own_q p3)), .val (.int (own_q p4)), .unset, .unset, .unset, .unset, .unset] [(.int (own_q p1)), (.int (0 : Int32)), (.ref b59), (.ref b59)])) _
      refine XS.i2dS X59.here hx rfl (hb hby at_131) rfl rfl ?_
      exact kt
    obtain ⟨T63, h63, X63, e63, W63, st63⟩ := stD X59 hx hZ e59 Ar61 (j := (0 : Int32)) hin61 (g := (mkF m 132 #[.val (.int p0), .val (.int p1), .val (.int p2), .val (.int p3), .val (.int p4), .val (.int (4 : Int32)), .val (.int (own_q p1)), .val (.int (own_q p2)), .val (.int (own_q p3)), .val (.int (own_q p4)), .unset, .unset, .unset, .unset, .unset] [(.double (FP.i2d (own_q p1))), (.int (0 : Int32)), (.ref b59), (.ref b59)])) rfl rfl (hb hby at_132)
    have V63 := Arv.set Ar61 qk61 Sz61 Nn61 Hh61 Gg61 rfl W63 0 rfl (Nat.le_of_ble_eq_true rfl)
    have V63' : Arv Z h63 b59 k59 .double (4 : Int32) [(.double (FP.i2d (own_q p1))), (.double 0), (.double 0), (.double 0)] (.double 0) := V63
    have N63 := Fr.snoc X63 N0 gg_b59
    have pre64 : ∀ t, Steps p.tables e below (T63.setTop (mkF m 133 #[.val (.int p0), .val (.int p1), .val (.int p2), .val (.int p3), .val (.int p4), .val (.int (4 : Int32)), .val (.int (own_q p1)), .val (.int (own_q p2)), .val (.int (own_q p3)), .val (.int (own_q p4)), .unset, .unset, .unset, .unset, .unset] [(.ref b59)])) t → Steps p.tables e below (s₁.setTop (entryFrame m #[(.int p0), (.int p1), (.int p2), (.int p3), (.int p4)] maxLocals)) t := fun t kt => pre62 _ (st63 _ kt)
    obtain ⟨cl65, Ar65, qk65, Sz65, Nn65, Hh65, Gg65⟩ := id V63'
    have hin65 : ¬ ((1 : Int32) < 0 ∨ cl65.slots.size ≤ ((1 : Int32)).toNatClampNeg) := inb_of Sz65 ⟨by decide, by decide⟩
    have pre66 : ∀ t, Steps p.tables e below (T63.setTop (mkF m 138 #[.val (.int p0), .val (.int p1), .val (.int p2), .val (.int p3), .val (.int p4), .val (.int (4 : Int32)), .val (.int (own_q p1)), .val (.int (own_q p2)), .val (.int (own_q p3)), .val (.int (own_q p4)), .unset, .unset, .unset, .unset, .unset] [(.double (FP.i2d (own_q p2))), (.int (1 : Int32)), (.ref b59), (.ref b59)])) t → Steps p.tables e below (s₁.setTop (entryFrame m #[(.int p0), (.int p1), (.int p2), (.int p3), (.int p4)] maxLocals)) t := fun t kt => by
      refine pre64 _ ?_
      show Steps p.tables e below (T63.setTop (mkF m 133 #[.val (.int p0), .val (.int p1), .val (.int p2), .val (.int p3), .val (.int p4), .val (.int (4 : Int32)), .val (.int (own_q p1)), .val (.int (own_q p2)), .val (.int (own_q p3)), .val (.int (own_q p4)), .unset, .unset, .unset, .unset, .unset] [(.ref b59)])) _
      refine XS.dup X63.here hx rfl (hb hby at_133) rfl rfl ?_
      show Steps p.tables e below (T63.setTop (mkF m 134 #[.val (.int p0), .val (.int p1), .val (.int p2), .val (.int p3), .val (.int p4), .val (.int (4 : Int32)), .val (.int (own_q p1)), .val (.int (own_q p2)), .val (.int (own_q p3)), .val (.int (own_q p4)), .unset, .unset, .unset, .unset, .unset] [(.ref b59), (.ref b59)])) _
      refine XS.iconst X63.here hx rfl (hb hby at_134) ?_
      show Steps p.tables e below (T63.setTop (mkF m 135 #[.val (.int p0), .val (.int p1), .val (.int p2), .val (.int p3), .val (.int p4), .val (.int (4 : Int32)), .val (.int (own_q p1)), .val (.int (own_q p2)), .val (.int (own_q p3)), .val (.int (own_q p4)), .unset, .unset, .unset, .unset, .unset] [(.int (1 : Int32)), (.ref b59), (.ref b59)])) _
      refine XS.iload X63.here hx rfl (hb hby at_135) rfl ?_
      show Steps p.tables e below (T63.setTop (mkF m 137 #[.val (.int p0), .val (.int p1), .val (.int p2), .val (.int p3), .val (.int p4), .val (.int (4 : Int32)), .val (.int (own_q p1)), .val (.int (own_q p2)), .val (.int (own_q p3)), .val (.int (own_q p4)), .unset, .unset, .unset, .unset, .unset] [(.int (own_q p2)), (.int (1 : Int32)), (.ref b59), (.ref b59)])) _
      refine XS.i2dS X63.here hx rfl (hb hby at_137) rfl rfl ?_
      exact kt
    obtain ⟨T67, h67, X67, e67, W67, st67⟩ := stD X63 hx hZ e63 Ar65 (j := (1 : Int32)) hin65 (g := (mkF m 138 #[.val (.int p0), .val (.int p1), .val (.int p2), .val (.int p3), .val (.int p4), .val (.int (4 : Int32)), .val (.int (own_q p1)), .val (.int (own_q p2)), .val (.int (own_q p3)), .val (.int (own_q p4)), .unset, .unset, .unset, .unset, .unset] [(.double (FP.i2d (own_q p2))), (.int (1 : Int32)), (.ref b59), (.ref b59)])) rfl rfl (hb hby at_138)
    have V67 := Arv.set Ar65 qk65 Sz65 Nn65 Hh65 Gg65 rfl W67 1 rfl (Nat.le_of_ble_eq_true rfl)
    have V67' : Arv Z h67 b59 k59 .double (4 : Int32) [(.double (FP.i2d (own_q p1))), (.double (FP.i2d (own_q p2))), (.double 0), (.double 0)] (.double 0) := V67
    have N67 := Fr.snoc X67 N63 gg_b59
    have pre68 : ∀ t, Steps p.tables e below (T67.setTop (mkF m 139 #[.val (.int p0), .val (.int p1), .val (.int p2), .val (.int p3), .val (.int p4), .val (.int (4 : Int32)), .val (.int (own_q p1)), .val (.int (own_q p2)), .val (.int (own_q p3)), .val (.int (own_q p4)), .unset, .unset, .unset, .unset, .unset] [(.ref b59)])) t → Steps p.tables e below (s₁.setTop (entryFrame m #[(.int p0), (.int p1), (.int p2), (.int p3), (.int p4)] maxLocals)) t := fun t kt => pre66 _ (st67 _ kt)
    obtain ⟨cl69, Ar69, qk69, Sz69, Nn69, Hh69, Gg69⟩ := id V67'
    have hin69 : ¬ ((2 : Int32) < 0 ∨ cl69.slots.size ≤ ((2 : Int32)).toNatClampNeg) := inb_of Sz69 ⟨by decide, by decide⟩
    have pre70 : ∀ t, Steps p.tables e below (T67.setTop (mkF m 144 #[.val (.int p0), .val (.int p1), .val (.int p2), .val (.int p3), .val (.int p4), .val (.int (4 : Int32)), .val (.int (own_q p1)), .val (.int (own_q p2)), .val (.int (own_q p3)), .val (.int (own_q p4)), .unset, .unset, .unset, .unset, .unset] [(.double (FP.i2d (own_q p3))), (.int (2 : Int32)), (.ref b59), (.ref b59)])) t → Steps p.tables e below (s₁.setTop (entryFrame m #[(.int p0), (.int p1), (.int p2), (.int p3), (.int p4)] maxLocals)) t := fun t kt => by
      refine pre68 _ ?_
      show Steps p.tables e below (T67.setTop (mkF m 139 #[.val (.int p0), .val (.int p1), .val (.int p2), .val (.int p3), .val (.int p4), .val (.int (4 : Int32)), .val (.int (own_q p1)), .val (.int (own_q p2)), .val (.int (own_q p3)), .val (.int (own_q p4)), .unset, .unset, .unset, .unset, .unset] [(.ref b59)])) _
      refine XS.dup X67.here hx rfl (hb hby at_139) rfl rfl ?_
      show Steps p.tables e below (T67.setTop (mkF m 140 #[.val (.int p0), .val (.int p1), .val (.int p2), .val (.int p3), .val (.int p4), .val (.int (4 : Int32)), .val (.int (own_q p1)), .val (.int (own_q p2)), .val (.int (own_q p3)), .val (.int (own_q p4)), .unset, .unset, .unset, .unset, .unset] [(.ref b59), (.ref b59)])) _
      refine XS.iconst X67.here hx rfl (hb hby at_140) ?_
      show Steps p.tables e below (T67.setTop (mkF m 141 #[.val (.int p0), .val (.int p1), .val (.int p2), .val (.int p3), .val (.int p4), .val (.int (4 : Int32)), .val (.int (own_q p1)), .val (.int (own_q p2)), .val (.int (own_q p3)), .val (.int (own_q p4)), .unset, .unset, .unset, .unset, .unset] [(.int (2 : Int32)), (.ref b59), (.ref b59)])) _
      refine XS.iload X67.here hx rfl (hb hby at_141) rfl ?_
      show Steps p.tables e below (T67.setTop (mkF m 143 #[.val (.int p0), .val (.int p1), .val (.int p2), .val (.int p3), .val (.int p4), .val (.int (4 : Int32)), .val (.int (own_q p1)), .val (.int (own_q p2)), .val (.int (own_q p3)), .val (.int (own_q p4)), .unset, .unset, .unset, .unset, .unset] [(.int (own_q p3)), (.int (2 : Int32)), (.ref b59), (.ref b59)])) _
      refine XS.i2dS X67.here hx rfl (hb hby at_143) rfl rfl ?_
      exact kt
    obtain ⟨T71, h71, X71, e71, W71, st71⟩ := stD X67 hx hZ e67 Ar69 (j := (2 : Int32)) hin69 (g := (mkF m 144 #[.val (.int p0), .val (.int p1), .val (.int p2), .val (.int p3), .val (.int p4), .val (.int (4 : Int32)), .val (.int (own_q p1)), .val (.int (own_q p2)), .val (.int (own_q p3)), .val (.int (own_q p4)), .unset, .unset, .unset, .unset, .unset] [(.double (FP.i2d (own_q p3))), (.int (2 : Int32)), (.ref b59), (.ref b59)])) rfl rfl (hb hby at_144)
    have V71 := Arv.set Ar69 qk69 Sz69 Nn69 Hh69 Gg69 rfl W71 2 rfl (Nat.le_of_ble_eq_true rfl)
    have V71' : Arv Z h71 b59 k59 .double (4 : Int32) [(.double (FP.i2d (own_q p1))), (.double (FP.i2d (own_q p2))), (.double (FP.i2d (own_q p3))), (.double 0)] (.double 0) := V71
    have N71 := Fr.snoc X71 N67 gg_b59
    have pre72 : ∀ t, Steps p.tables e below (T71.setTop (mkF m 145 #[.val (.int p0), .val (.int p1), .val (.int p2), .val (.int p3), .val (.int p4), .val (.int (4 : Int32)), .val (.int (own_q p1)), .val (.int (own_q p2)), .val (.int (own_q p3)), .val (.int (own_q p4)), .unset, .unset, .unset, .unset, .unset] [(.ref b59)])) t → Steps p.tables e below (s₁.setTop (entryFrame m #[(.int p0), (.int p1), (.int p2), (.int p3), (.int p4)] maxLocals)) t := fun t kt => pre70 _ (st71 _ kt)
    obtain ⟨cl73, Ar73, qk73, Sz73, Nn73, Hh73, Gg73⟩ := id V71'
    have hin73 : ¬ ((3 : Int32) < 0 ∨ cl73.slots.size ≤ ((3 : Int32)).toNatClampNeg) := inb_of Sz73 ⟨by decide, by decide⟩
    have pre74 : ∀ t, Steps p.tables e below (T71.setTop (mkF m 150 #[.val (.int p0), .val (.int p1), .val (.int p2), .val (.int p3), .val (.int p4), .val (.int (4 : Int32)), .val (.int (own_q p1)), .val (.int (own_q p2)), .val (.int (own_q p3)), .val (.int (own_q p4)), .unset, .unset, .unset, .unset, .unset] [(.double (FP.i2d (own_q p4))), (.int (3 : Int32)), (.ref b59), (.ref b59)])) t → Steps p.tables e below (s₁.setTop (entryFrame m #[(.int p0), (.int p1), (.int p2), (.int p3), (.int p4)] maxLocals)) t := fun t kt => by
      refine pre72 _ ?_
      show Steps p.tables e below (T71.setTop (mkF m 145 #[.val (.int p0), .val (.int p1), .val (.int p2), .val (.int p3), .val (.int p4), .val (.int (4 : Int32)), .val (.int (own_q p1)), .val (.int (own_q p2)), .val (.int (own_q p3)), .val (.int (own_q p4)), .unset, .unset, .unset, .unset, .unset] [(.ref b59)])) _
      refine XS.dup X71.here hx rfl (hb hby at_145) rfl rfl ?_
      show Steps p.tables e below (T71.setTop (mkF m 146 #[.val (.int p0), .val (.int p1), .val (.int p2), .val (.int p3), .val (.int p4), .val (.int (4 : Int32)), .val (.int (own_q p1)), .val (.int (own_q p2)), .val (.int (own_q p3)), .val (.int (own_q p4)), .unset, .unset, .unset, .unset, .unset] [(.ref b59), (.ref b59)])) _
      refine XS.iconst X71.here hx rfl (hb hby at_146) ?_
      show Steps p.tables e below (T71.setTop (mkF m 147 #[.val (.int p0), .val (.int p1), .val (.int p2), .val (.int p3), .val (.int p4), .val (.int (4 : Int32)), .val (.int (own_q p1)), .val (.int (own_q p2)), .val (.int (own_q p3)), .val (.int (own_q p4)), .unset, .unset, .unset, .unset, .unset] [(.int (3 : Int32)), (.ref b59), (.ref b59)])) _
      refine XS.iload X71.here hx rfl (hb hby at_147) rfl ?_
      show Steps p.tables e below (T71.setTop (mkF m 149 #[.val (.int p0), .val (.int p1), .val (.int p2), .val (.int p3), .val (.int p4), .val (.int (4 : Int32)), .val (.int (own_q p1)), .val (.int (own_q p2)), .val (.int (own_q p3)), .val (.int (own_q p4)), .unset, .unset, .unset, .unset, .unset] [(.int (own_q p4)), (.int (3 : Int32)), (.ref b59), (.ref b59)])) _
      refine XS.i2dS X71.here hx rfl (hb hby at_149) rfl rfl ?_
      exact kt
    obtain ⟨T75, h75, X75, e75, W75, st75⟩ := stD X71 hx hZ e71 Ar73 (j := (3 : Int32)) hin73 (g := (mkF m 150 #[.val (.int p0), .val (.int p1), .val (.int p2), .val (.int p3), .val (.int p4), .val (.int (4 : Int32)), .val (.int (own_q p1)), .val (.int (own_q p2)), .val (.int (own_q p3)), .val (.int (own_q p4)), .unset, .unset, .unset, .unset, .unset] [(.double (FP.i2d (own_q p4))), (.int (3 : Int32)), (.ref b59), (.ref b59)])) rfl rfl (hb hby at_150)
    have V75 := Arv.set Ar73 qk73 Sz73 Nn73 Hh73 Gg73 rfl W75 3 rfl (Nat.le_of_ble_eq_true rfl)
    have V75' : Arv Z h75 b59 k59 .double (4 : Int32) [(.double (FP.i2d (own_q p1))), (.double (FP.i2d (own_q p2))), (.double (FP.i2d (own_q p3))), (.double (FP.i2d (own_q p4)))] (.double 0) := V75
    have N75 := Fr.snoc X75 N71 gg_b59
    have pre76 : ∀ t, Steps p.tables e below (T75.setTop (mkF m 151 #[.val (.int p0), .val (.int p1), .val (.int p2), .val (.int p3), .val (.int p4), .val (.int (4 : Int32)), .val (.int (own_q p1)), .val (.int (own_q p2)), .val (.int (own_q p3)), .val (.int (own_q p4)), .unset, .unset, .unset, .unset, .unset] [(.ref b59)])) t → Steps p.tables e below (s₁.setTop (entryFrame m #[(.int p0), (.int p1), (.int p2), (.int p3), (.int p4)] maxLocals)) t := fun t kt => pre74 _ (st75 _ kt)
    have z77 : n0 ≤ h75.size := (Nat.le_trans (Nat.le_trans (Nat.le_trans (Nat.le_trans (Nat.le_trans Z0 E59.1) (Keep.of_wr W63).1) (Keep.of_wr W67).1) (Keep.of_wr W71).1) (Keep.of_wr W75).1)
    have pre78 : ∀ t, Steps p.tables e below (T75.setTop (mkF m 230 #[.val (.int p0), .val (.int p1), .val (.int p2), .val (.int p3), .val (.int p4), .val (.int (4 : Int32)), .val (.int (own_q p1)), .val (.int (own_q p2)), .val (.int (own_q p3)), .val (.int (own_q p4)), .val (.ref b59), .val (.long (((((0 : Int64) + (((own_q p1).toInt64) * ((own_q p1).toInt64))) + (((own_q p2).toInt64) * ((own_q p2).toInt64))) + (((own_q p3).toInt64) * ((own_q p3).toInt64))) + (((own_q p4).toInt64) * ((own_q p4).toInt64)))), .second, .unset, .unset] [(.ref b59)])) t → Steps p.tables e below (s₁.setTop (entryFrame m #[(.int p0), (.int p1), (.int p2), (.int p3), (.int p4)] maxLocals)) t := fun t kt => by
      refine pre76 _ ?_
      show Steps p.tables e below (T75.setTop (mkF m 151 #[.val (.int p0), .val (.int p1), .val (.int p2), .val (.int p3), .val (.int p4), .val (.int (4 : Int32)), .val (.int (own_q p1)), .val (.int (own_q p2)), .val (.int (own_q p3)), .val (.int (own_q p4)), .unset, .unset, .unset, .unset, .unset] [(.ref b59)])) _
      refine XS.astore X75.here hx rfl (hb hby at_151) rfl rfl (l' := #[.val (.int p0), .val (.int p1), .val (.int p2), .val (.int p3), .val (.int p4), .val (.int (4 : Int32)), .val (.int (own_q p1)), .val (.int (own_q p2)), .val (.int (own_q p3)), .val (.int (own_q p4)), .val (.ref b59), .unset, .unset, .unset, .unset]) rfl ?_
      show Steps p.tables e below (T75.setTop (mkF m 153 #[.val (.int p0), .val (.int p1), .val (.int p2), .val (.int p3), .val (.int p4), .val (.int (4 : Int32)), .val (.int (own_q p1)), .val (.int (own_q p2)), .val (.int (own_q p3)), .val (.int (own_q p4)), .val (.ref b59), .unset, .unset, .unset, .unset] [])) _
      refine XS.lconst X75.here hx rfl (hb hby at_153) ?_
      show Steps p.tables e below (T75.setTop (mkF m 154 #[.val (.int p0), .val (.int p1), .val (.int p2), .val (.int p3), .val (.int p4), .val (.int (4 : Int32)), .val (.int (own_q p1)), .val (.int (own_q p2)), .val (.int (own_q p3)), .val (.int (own_q p4)), .val (.ref b59), .unset, .unset, .unset, .unset] [(.long (0 : Int64))])) _
      refine XS.lstore X75.here hx rfl (hb hby at_154) rfl (l' := #[.val (.int p0), .val (.int p1), .val (.int p2), .val (.int p3), .val (.int p4), .val (.int (4 : Int32)), .val (.int (own_q p1)), .val (.int (own_q p2)), .val (.int (own_q p3)), .val (.int (own_q p4)), .val (.ref b59), .val (.long (0 : Int64)), .second, .unset, .unset]) rfl ?_
      show Steps p.tables e below (T75.setTop (mkF m 156 #[.val (.int p0), .val (.int p1), .val (.int p2), .val (.int p3), .val (.int p4), .val (.int (4 : Int32)), .val (.int (own_q p1)), .val (.int (own_q p2)), .val (.int (own_q p3)), .val (.int (own_q p4)), .val (.ref b59), .val (.long (0 : Int64)), .second, .unset, .unset] [])) _
      refine XS.iload X75.here hx rfl (hb hby at_156) rfl ?_
      show Steps p.tables e below (T75.setTop (mkF m 158 #[.val (.int p0), .val (.int p1), .val (.int p2), .val (.int p3), .val (.int p4), .val (.int (4 : Int32)), .val (.int (own_q p1)), .val (.int (own_q p2)), .val (.int (own_q p3)), .val (.int (own_q p4)), .val (.ref b59), .val (.long (0 : Int64)), .second, .unset, .unset] [(.int (4 : Int32))])) _
      refine XS.iconst X75.here hx rfl (hb hby at_158) ?_
      show Steps p.tables e below (T75.setTop (mkF m 159 #[.val (.int p0), .val (.int p1), .val (.int p2), .val (.int p3), .val (.int p4), .val (.int (4 : Int32)), .val (.int (own_q p1)), .val (.int (own_q p2)), .val (.int (own_q p3)), .val (.int (own_q p4)), .val (.ref b59), .val (.long (0 : Int64)), .second, .unset, .unset] [(.int (1 : Int32)), (.int (4 : Int32))])) _
      refine XS.icmpNo X75.here hx rfl (hb hby at_159) rfl (flt (by decide : ¬ ((4 : Int32) < (1 : Int32)))).1 ?_
      show Steps p.tables e below (T75.setTop (mkF m 162 #[.val (.int p0), .val (.int p1), .val (.int p2), .val (.int p3), .val (.int p4), .val (.int (4 : Int32)), .val (.int (own_q p1)), .val (.int (own_q p2)), .val (.int (own_q p3)), .val (.int (own_q p4)), .val (.ref b59), .val (.long (0 : Int64)), .second, .unset, .unset] [])) _
      refine XS.lload X75.here hx rfl (hb hby at_162) rfl ?_
      show Steps p.tables e below (T75.setTop (mkF m 164 #[.val (.int p0), .val (.int p1), .val (.int p2), .val (.int p3), .val (.int p4), .val (.int (4 : Int32)), .val (.int (own_q p1)), .val (.int (own_q p2)), .val (.int (own_q p3)), .val (.int (own_q p4)), .val (.ref b59), .val (.long (0 : Int64)), .second, .unset, .unset] [(.long (0 : Int64))])) _
      refine XS.iload X75.here hx rfl (hb hby at_164) rfl ?_
      show Steps p.tables e below (T75.setTop (mkF m 166 #[.val (.int p0), .val (.int p1), .val (.int p2), .val (.int p3), .val (.int p4), .val (.int (4 : Int32)), .val (.int (own_q p1)), .val (.int (own_q p2)), .val (.int (own_q p3)), .val (.int (own_q p4)), .val (.ref b59), .val (.long (0 : Int64)), .second, .unset, .unset] [(.int (own_q p1)), (.long (0 : Int64))])) _
      refine XS.i2l X75.here hx rfl (hb hby at_166) rfl ?_
      show Steps p.tables e below (T75.setTop (mkF m 167 #[.val (.int p0), .val (.int p1), .val (.int p2), .val (.int p3), .val (.int p4), .val (.int (4 : Int32)), .val (.int (own_q p1)), .val (.int (own_q p2)), .val (.int (own_q p3)), .val (.int (own_q p4)), .val (.ref b59), .val (.long (0 : Int64)), .second, .unset, .unset] [(.long ((own_q p1).toInt64)), (.long (0 : Int64))])) _
      refine XS.iload X75.here hx rfl (hb hby at_167) rfl ?_
      show Steps p.tables e below (T75.setTop (mkF m 169 #[.val (.int p0), .val (.int p1), .val (.int p2), .val (.int p3), .val (.int p4), .val (.int (4 : Int32)), .val (.int (own_q p1)), .val (.int (own_q p2)), .val (.int (own_q p3)), .val (.int (own_q p4)), .val (.ref b59), .val (.long (0 : Int64)), .second, .unset, .unset] [(.int (own_q p1)), (.long ((own_q p1).toInt64)), (.long (0 : Int64))])) _
      refine XS.i2l X75.here hx rfl (hb hby at_169) rfl ?_
      show Steps p.tables e below (T75.setTop (mkF m 170 #[.val (.int p0), .val (.int p1), .val (.int p2), .val (.int p3), .val (.int p4), .val (.int (4 : Int32)), .val (.int (own_q p1)), .val (.int (own_q p2)), .val (.int (own_q p3)), .val (.int (own_q p4)), .val (.ref b59), .val (.long (0 : Int64)), .second, .unset, .unset] [(.long ((own_q p1).toInt64)), (.long ((own_q p1).toInt64)), (.long (0 : Int64))])) _
      refine XS.lmul X75.here hx rfl (hb hby at_170) rfl ?_
      show Steps p.tables e below (T75.setTop (mkF m 171 #[.val (.int p0), .val (.int p1), .val (.int p2), .val (.int p3), .val (.int p4), .val (.int (4 : Int32)), .val (.int (own_q p1)), .val (.int (own_q p2)), .val (.int (own_q p3)), .val (.int (own_q p4)), .val (.ref b59), .val (.long (0 : Int64)), .second, .unset, .unset] [(.long (((own_q p1).toInt64) * ((own_q p1).toInt64))), (.long (0 : Int64))])) _
      refine XS.ladd X75.here hx rfl (hb hby at_171) rfl ?_
      show Steps p.tables e below (T75.setTop (mkF m 172 #[.val (.int p0), .val (.int p1), .val (.int p2), .val (.int p3), .val (.int p4), .val (.int (4 : Int32)), .val (.int (own_q p1)), .val (.int (own_q p2)), .val (.int (own_q p3)), .val (.int (own_q p4)), .val (.ref b59), .val (.long (0 : Int64)), .second, .unset, .unset] [(.long ((0 : Int64) + (((own_q p1).toInt64) * ((own_q p1).toInt64))))])) _
      refine XS.lstore X75.here hx rfl (hb hby at_172) rfl (l' := #[.val (.int p0), .val (.int p1), .val (.int p2), .val (.int p3), .val (.int p4), .val (.int (4 : Int32)), .val (.int (own_q p1)), .val (.int (own_q p2)), .val (.int (own_q p3)), .val (.int (own_q p4)), .val (.ref b59), .val (.long ((0 : Int64) + (((own_q p1).toInt64) * ((own_q p1).toInt64)))), .second, .unset, .unset]) rfl ?_
      show Steps p.tables e below (T75.setTop (mkF m 174 #[.val (.int p0), .val (.int p1), .val (.int p2), .val (.int p3), .val (.int p4), .val (.int (4 : Int32)), .val (.int (own_q p1)), .val (.int (own_q p2)), .val (.int (own_q p3)), .val (.int (own_q p4)), .val (.ref b59), .val (.long ((0 : Int64) + (((own_q p1).toInt64) * ((own_q p1).toInt64)))), .second, .unset, .unset] [])) _
      refine XS.iload X75.here hx rfl (hb hby at_174) rfl ?_
      show Steps p.tables e below (T75.setTop (mkF m 176 #[.val (.int p0), .val (.int p1), .val (.int p2), .val (.int p3), .val (.int p4), .val (.int (4 : Int32)), .val (.int (own_q p1)), .val (.int (own_q p2)), .val (.int (own_q p3)), .val (.int (own_q p4)), .val (.ref b59), .val (.long ((0 : Int64) + (((own_q p1).toInt64) * ((own_q p1).toInt64)))), .second, .unset, .unset] [(.int (4 : Int32))])) _
      refine XS.iconst X75.here hx rfl (hb hby at_176) ?_
      show Steps p.tables e below (T75.setTop (mkF m 177 #[.val (.int p0), .val (.int p1), .val (.int p2), .val (.int p3), .val (.int p4), .val (.int (4 : Int32)), .val (.int (own_q p1)), .val (.int (own_q p2)), .val (.int (own_q p3)), .val (.int (own_q p4)), .val (.ref b59), .val (.long ((0 : Int64) + (((own_q p1).toInt64) * ((own_q p1).toInt64)))), .second, .unset, .unset] [(.int (2 : Int32)), (.int (4 : Int32))])) _
      refine XS.icmpNo X75.here hx rfl (hb hby at_177) rfl (flt (by decide : ¬ ((4 : Int32) < (2 : Int32)))).1 ?_
      show Steps p.tables e below (T75.setTop (mkF m 180 #[.val (.int p0), .val (.int p1), .val (.int p2), .val (.int p3), .val (.int p4), .val (.int (4 : Int32)), .val (.int (own_q p1)), .val (.int (own_q p2)), .val (.int (own_q p3)), .val (.int (own_q p4)), .val (.ref b59), .val (.long ((0 : Int64) + (((own_q p1).toInt64) * ((own_q p1).toInt64)))), .second, .unset, .unset] [])) _
      refine XS.lload X75.here hx rfl (hb hby at_180) rfl ?_
      show Steps p.tables e below (T75.setTop (mkF m 182 #[.val (.int p0), .val (.int p1), .val (.int p2), .val (.int p3), .val (.int p4), .val (.int (4 : Int32)), .val (.int (own_q p1)), .val (.int (own_q p2)), .val (.int (own_q p3)), .val (.int (own_q p4)), .val (.ref b59), .val (.long ((0 : Int64) + (((own_q p1).toInt64) * ((own_q p1).toInt64)))), .second, .unset, .unset] [(.long ((0 : Int64) + (((own_q p1).toInt64) * ((own_q p1).toInt64))))])) _
      refine XS.iload X75.here hx rfl (hb hby at_182) rfl ?_
      show Steps p.tables e below (T75.setTop (mkF m 184 #[.val (.int p0), .val (.int p1), .val (.int p2), .val (.int p3), .val (.int p4), .val (.int (4 : Int32)), .val (.int (own_q p1)), .val (.int (own_q p2)), .val (.int (own_q p3)), .val (.int (own_q p4)), .val (.ref b59), .val (.long ((0 : Int64) + (((own_q p1).toInt64) * ((own_q p1).toInt64)))), .second, .unset, .unset] [(.int (own_q p2)), (.long ((0 : Int64) + (((own_q p1).toInt64) * ((own_q p1).toInt64))))])) _
      refine XS.i2l X75.here hx rfl (hb hby at_184) rfl ?_
      show Steps p.tables e below (T75.setTop (mkF m 185 #[.val (.int p0), .val (.int p1), .val (.int p2), .val (.int p3), .val (.int p4), .val (.int (4 : Int32)), .val (.int (own_q p1)), .val (.int (own_q p2)), .val (.int (own_q p3)), .val (.int (own_q p4)), .val (.ref b59), .val (.long ((0 : Int64) + (((own_q p1).toInt64) * ((own_q p1).toInt64)))), .second, .unset, .unset] [(.long ((own_q p2).toInt64)), (.long ((0 : Int64) + (((own_q p1).toInt64) * ((own_q p1).toInt64))))])) _
      refine XS.iload X75.here hx rfl (hb hby at_185) rfl ?_
      show Steps p.tables e below (T75.setTop (mkF m 187 #[.val (.int p0), .val (.int p1), .val (.int p2), .val (.int p3), .val (.int p4), .val (.int (4 : Int32)), .val (.int (own_q p1)), .val (.int (own_q p2)), .val (.int (own_q p3)), .val (.int (own_q p4)), .val (.ref b59), .val (.long ((0 : Int64) + (((own_q p1).toInt64) * ((own_q p1).toInt64)))), .second, .unset, .unset] [(.int (own_q p2)), (.long ((own_q p2).toInt64)), (.long ((0 : Int64) + (((own_q p1).toInt64) * ((own_q p1).toInt64))))])) _
      refine XS.i2l X75.here hx rfl (hb hby at_187) rfl ?_
      show Steps p.tables e below (T75.setTop (mkF m 188 #[.val (.int p0), .val (.int p1), .val (.int p2), .val (.int p3), .val (.int p4), .val (.int (4 : Int32)), .val (.int (own_q p1)), .val (.int (own_q p2)), .val (.int (own_q p3)), .val (.int (own_q p4)), .val (.ref b59), .val (.long ((0 : Int64) + (((own_q p1).toInt64) * ((own_q p1).toInt64)))), .second, .unset, .unset] [(.long ((own_q p2).toInt64)), (.long ((own_q p2).toInt64)), (.long ((0 : Int64) + (((own_q p1).toInt64) * ((own_q p1).toInt64))))])) _
      refine XS.lmul X75.here hx rfl (hb hby at_188) rfl ?_
      show Steps p.tables e below (T75.setTop (mkF m 189 #[.val (.int p0), .val (.int p1), .val (.int p2), .val (.int p3), .val (.int p4), .val (.int (4 : Int32)), .val (.int (own_q p1)), .val (.int (own_q p2)), .val (.int (own_q p3)), .val (.int (own_q p4)), .val (.ref b59), .val (.long ((0 : Int64) + (((own_q p1).toInt64) * ((own_q p1).toInt64)))), .second, .unset, .unset] [(.long (((own_q p2).toInt64) * ((own_q p2).toInt64))), (.long ((0 : Int64) + (((own_q p1).toInt64) * ((own_q p1).toInt64))))])) _
      refine XS.ladd X75.here hx rfl (hb hby at_189) rfl ?_
      show Steps p.tables e below (T75.setTop (mkF m 190 #[.val (.int p0), .val (.int p1), .val (.int p2), .val (.int p3), .val (.int p4), .val (.int (4 : Int32)), .val (.int (own_q p1)), .val (.int (own_q p2)), .val (.int (own_q p3)), .val (.int (own_q p4)), .val (.ref b59), .val (.long ((0 : Int64) + (((own_q p1).toInt64) * ((own_q p1).toInt64)))), .second, .unset, .unset] [(.long (((0 : Int64) + (((own_q p1).toInt64) * ((own_q p1).toInt64))) + (((own_q p2).toInt64) * ((own_q p2).toInt64))))])) _
      refine XS.lstore X75.here hx rfl (hb hby at_190) rfl (l' := #[.val (.int p0), .val (.int p1), .val (.int p2), .val (.int p3), .val (.int p4), .val (.int (4 : Int32)), .val (.int (own_q p1)), .val (.int (own_q p2)), .val (.int (own_q p3)), .val (.int (own_q p4)), .val (.ref b59), .val (.long (((0 : Int64) + (((own_q p1).toInt64) * ((own_q p1).toInt64))) + (((own_q p2).toInt64) * ((own_q p2).toInt64)))), .second, .unset, .unset]) rfl ?_
      show Steps p.tables e below (T75.setTop (mkF m 192 #[.val (.int p0), .val (.int p1), .val (.int p2), .val (.int p3), .val (.int p4), .val (.int (4 : Int32)), .val (.int (own_q p1)), .val (.int (own_q p2)), .val (.int (own_q p3)), .val (.int (own_q p4)), .val (.ref b59), .val (.long (((0 : Int64) + (((own_q p1).toInt64) * ((own_q p1).toInt64))) + (((own_q p2).toInt64) * ((own_q p2).toInt64)))), .second, .unset, .unset] [])) _
      refine XS.iload X75.here hx rfl (hb hby at_192) rfl ?_
      show Steps p.tables e below (T75.setTop (mkF m 194 #[.val (.int p0), .val (.int p1), .val (.int p2), .val (.int p3), .val (.int p4), .val (.int (4 : Int32)), .val (.int (own_q p1)), .val (.int (own_q p2)), .val (.int (own_q p3)), .val (.int (own_q p4)), .val (.ref b59), .val (.long (((0 : Int64) + (((own_q p1).toInt64) * ((own_q p1).toInt64))) + (((own_q p2).toInt64) * ((own_q p2).toInt64)))), .second, .unset, .unset] [(.int (4 : Int32))])) _
      refine XS.iconst X75.here hx rfl (hb hby at_194) ?_
      show Steps p.tables e below (T75.setTop (mkF m 195 #[.val (.int p0), .val (.int p1), .val (.int p2), .val (.int p3), .val (.int p4), .val (.int (4 : Int32)), .val (.int (own_q p1)), .val (.int (own_q p2)), .val (.int (own_q p3)), .val (.int (own_q p4)), .val (.ref b59), .val (.long (((0 : Int64) + (((own_q p1).toInt64) * ((own_q p1).toInt64))) + (((own_q p2).toInt64) * ((own_q p2).toInt64)))), .second, .unset, .unset] [(.int (3 : Int32)), (.int (4 : Int32))])) _
      refine XS.icmpNo X75.here hx rfl (hb hby at_195) rfl (flt (by decide : ¬ ((4 : Int32) < (3 : Int32)))).1 ?_
      show Steps p.tables e below (T75.setTop (mkF m 198 #[.val (.int p0), .val (.int p1), .val (.int p2), .val (.int p3), .val (.int p4), .val (.int (4 : Int32)), .val (.int (own_q p1)), .val (.int (own_q p2)), .val (.int (own_q p3)), .val (.int (own_q p4)), .val (.ref b59), .val (.long (((0 : Int64) + (((own_q p1).toInt64) * ((own_q p1).toInt64))) + (((own_q p2).toInt64) * ((own_q p2).toInt64)))), .second, .unset, .unset] [])) _
      refine XS.lload X75.here hx rfl (hb hby at_198) rfl ?_
      show Steps p.tables e below (T75.setTop (mkF m 200 #[.val (.int p0), .val (.int p1), .val (.int p2), .val (.int p3), .val (.int p4), .val (.int (4 : Int32)), .val (.int (own_q p1)), .val (.int (own_q p2)), .val (.int (own_q p3)), .val (.int (own_q p4)), .val (.ref b59), .val (.long (((0 : Int64) + (((own_q p1).toInt64) * ((own_q p1).toInt64))) + (((own_q p2).toInt64) * ((own_q p2).toInt64)))), .second, .unset, .unset] [(.long (((0 : Int64) + (((own_q p1).toInt64) * ((own_q p1).toInt64))) + (((own_q p2).toInt64) * ((own_q p2).toInt64))))])) _
      refine XS.iload X75.here hx rfl (hb hby at_200) rfl ?_
      show Steps p.tables e below (T75.setTop (mkF m 202 #[.val (.int p0), .val (.int p1), .val (.int p2), .val (.int p3), .val (.int p4), .val (.int (4 : Int32)), .val (.int (own_q p1)), .val (.int (own_q p2)), .val (.int (own_q p3)), .val (.int (own_q p4)), .val (.ref b59), .val (.long (((0 : Int64) + (((own_q p1).toInt64) * ((own_q p1).toInt64))) + (((own_q p2).toInt64) * ((own_q p2).toInt64)))), .second, .unset, .unset] [(.int (own_q p3)), (.long (((0 : Int64) + (((own_q p1).toInt64) * ((own_q p1).toInt64))) + (((own_q p2).toInt64) * ((own_q p2).toInt64))))])) _
      refine XS.i2l X75.here hx rfl (hb hby at_202) rfl ?_
      show Steps p.tables e below (T75.setTop (mkF m 203 #[.val (.int p0), .val (.int p1), .val (.int p2), .val (.int p3), .val (.int p4), .val (.int (4 : Int32)), .val (.int (own_q p1)), .val (.int (own_q p2)), .val (.int (own_q p3)), .val (.int (own_q p4)), .val (.ref b59), .val (.long (((0 : Int64) + (((own_q p1).toInt64) * ((own_q p1).toInt64))) + (((own_q p2).toInt64) * ((own_q p2).toInt64)))), .second, .unset, .unset] [(.long ((own_q p3).toInt64)), (.long (((0 : Int64) + (((own_q p1).toInt64) * ((own_q p1).toInt64))) + (((own_q p2).toInt64) * ((own_q p2).toInt64))))])) _
      refine XS.iload X75.here hx rfl (hb hby at_203) rfl ?_
      show Steps p.tables e below (T75.setTop (mkF m 205 #[.val (.int p0), .val (.int p1), .val (.int p2), .val (.int p3), .val (.int p4), .val (.int (4 : Int32)), .val (.int (own_q p1)), .val (.int (own_q p2)), .val (.int (own_q p3)), .val (.int (own_q p4)), .val (.ref b59), .val (.long (((0 : Int64) + (((own_q p1).toInt64) * ((own_q p1).toInt64))) + (((own_q p2).toInt64) * ((own_q p2).toInt64)))), .second, .unset, .unset] [(.int (own_q p3)), (.long ((own_q p3).toInt64)), (.long (((0 : Int64) + (((own_q p1).toInt64) * ((own_q p1).toInt64))) + (((own_q p2).toInt64) * ((own_q p2).toInt64))))])) _
      refine XS.i2l X75.here hx rfl (hb hby at_205) rfl ?_
      show Steps p.tables e below (T75.setTop (mkF m 206 #[.val (.int p0), .val (.int p1), .val (.int p2), .val (.int p3), .val (.int p4), .val (.int (4 : Int32)), .val (.int (own_q p1)), .val (.int (own_q p2)), .val (.int (own_q p3)), .val (.int (own_q p4)), .val (.ref b59), .val (.long (((0 : Int64) + (((own_q p1).toInt64) * ((own_q p1).toInt64))) + (((own_q p2).toInt64) * ((own_q p2).toInt64)))), .second, .unset, .unset] [(.long ((own_q p3).toInt64)), (.long ((own_q p3).toInt64)), (.long (((0 : Int64) + (((own_q p1).toInt64) * ((own_q p1).toInt64))) + (((own_q p2).toInt64) * ((own_q p2).toInt64))))])) _
      refine XS.lmul X75.here hx rfl (hb hby at_206) rfl ?_
      show Steps p.tables e below (T75.setTop (mkF m 207 #[.val (.int p0), .val (.int p1), .val (.int p2), .val (.int p3), .val (.int p4), .val (.int (4 : Int32)), .val (.int (own_q p1)), .val (.int (own_q p2)), .val (.int (own_q p3)), .val (.int (own_q p4)), .val (.ref b59), .val (.long (((0 : Int64) + (((own_q p1).toInt64) * ((own_q p1).toInt64))) + (((own_q p2).toInt64) * ((own_q p2).toInt64)))), .second, .unset, .unset] [(.long (((own_q p3).toInt64) * ((own_q p3).toInt64))), (.long (((0 : Int64) + (((own_q p1).toInt64) * ((own_q p1).toInt64))) + (((own_q p2).toInt64) * ((own_q p2).toInt64))))])) _
      refine XS.ladd X75.here hx rfl (hb hby at_207) rfl ?_
      show Steps p.tables e below (T75.setTop (mkF m 208 #[.val (.int p0), .val (.int p1), .val (.int p2), .val (.int p3), .val (.int p4), .val (.int (4 : Int32)), .val (.int (own_q p1)), .val (.int (own_q p2)), .val (.int (own_q p3)), .val (.int (own_q p4)), .val (.ref b59), .val (.long (((0 : Int64) + (((own_q p1).toInt64) * ((own_q p1).toInt64))) + (((own_q p2).toInt64) * ((own_q p2).toInt64)))), .second, .unset, .unset] [(.long ((((0 : Int64) + (((own_q p1).toInt64) * ((own_q p1).toInt64))) + (((own_q p2).toInt64) * ((own_q p2).toInt64))) + (((own_q p3).toInt64) * ((own_q p3).toInt64))))])) _
      refine XS.lstore X75.here hx rfl (hb hby at_208) rfl (l' := #[.val (.int p0), .val (.int p1), .val (.int p2), .val (.int p3), .val (.int p4), .val (.int (4 : Int32)), .val (.int (own_q p1)), .val (.int (own_q p2)), .val (.int (own_q p3)), .val (.int (own_q p4)), .val (.ref b59), .val (.long ((((0 : Int64) + (((own_q p1).toInt64) * ((own_q p1).toInt64))) + (((own_q p2).toInt64) * ((own_q p2).toInt64))) + (((own_q p3).toInt64) * ((own_q p3).toInt64)))), .second, .unset, .unset]) rfl ?_
      show Steps p.tables e below (T75.setTop (mkF m 210 #[.val (.int p0), .val (.int p1), .val (.int p2), .val (.int p3), .val (.int p4), .val (.int (4 : Int32)), .val (.int (own_q p1)), .val (.int (own_q p2)), .val (.int (own_q p3)), .val (.int (own_q p4)), .val (.ref b59), .val (.long ((((0 : Int64) + (((own_q p1).toInt64) * ((own_q p1).toInt64))) + (((own_q p2).toInt64) * ((own_q p2).toInt64))) + (((own_q p3).toInt64) * ((own_q p3).toInt64)))), .second, .unset, .unset] [])) _
      refine XS.iload X75.here hx rfl (hb hby at_210) rfl ?_
      show Steps p.tables e below (T75.setTop (mkF m 212 #[.val (.int p0), .val (.int p1), .val (.int p2), .val (.int p3), .val (.int p4), .val (.int (4 : Int32)), .val (.int (own_q p1)), .val (.int (own_q p2)), .val (.int (own_q p3)), .val (.int (own_q p4)), .val (.ref b59), .val (.long ((((0 : Int64) + (((own_q p1).toInt64) * ((own_q p1).toInt64))) + (((own_q p2).toInt64) * ((own_q p2).toInt64))) + (((own_q p3).toInt64) * ((own_q p3).toInt64)))), .second, .unset, .unset] [(.int (4 : Int32))])) _
      refine XS.iconst X75.here hx rfl (hb hby at_212) ?_
      show Steps p.tables e below (T75.setTop (mkF m 213 #[.val (.int p0), .val (.int p1), .val (.int p2), .val (.int p3), .val (.int p4), .val (.int (4 : Int32)), .val (.int (own_q p1)), .val (.int (own_q p2)), .val (.int (own_q p3)), .val (.int (own_q p4)), .val (.ref b59), .val (.long ((((0 : Int64) + (((own_q p1).toInt64) * ((own_q p1).toInt64))) + (((own_q p2).toInt64) * ((own_q p2).toInt64))) + (((own_q p3).toInt64) * ((own_q p3).toInt64)))), .second, .unset, .unset] [(.int (4 : Int32)), (.int (4 : Int32))])) _
      refine XS.icmpNo X75.here hx rfl (hb hby at_213) rfl (flt (by decide : ¬ ((4 : Int32) < (4 : Int32)))).1 ?_
      show Steps p.tables e below (T75.setTop (mkF m 216 #[.val (.int p0), .val (.int p1), .val (.int p2), .val (.int p3), .val (.int p4), .val (.int (4 : Int32)), .val (.int (own_q p1)), .val (.int (own_q p2)), .val (.int (own_q p3)), .val (.int (own_q p4)), .val (.ref b59), .val (.long ((((0 : Int64) + (((own_q p1).toInt64) * ((own_q p1).toInt64))) + (((own_q p2).toInt64) * ((own_q p2).toInt64))) + (((own_q p3).toInt64) * ((own_q p3).toInt64)))), .second, .unset, .unset] [])) _
      refine XS.lload X75.here hx rfl (hb hby at_216) rfl ?_
      show Steps p.tables e below (T75.setTop (mkF m 218 #[.val (.int p0), .val (.int p1), .val (.int p2), .val (.int p3), .val (.int p4), .val (.int (4 : Int32)), .val (.int (own_q p1)), .val (.int (own_q p2)), .val (.int (own_q p3)), .val (.int (own_q p4)), .val (.ref b59), .val (.long ((((0 : Int64) + (((own_q p1).toInt64) * ((own_q p1).toInt64))) + (((own_q p2).toInt64) * ((own_q p2).toInt64))) + (((own_q p3).toInt64) * ((own_q p3).toInt64)))), .second, .unset, .unset] [(.long ((((0 : Int64) + (((own_q p1).toInt64) * ((own_q p1).toInt64))) + (((own_q p2).toInt64) * ((own_q p2).toInt64))) + (((own_q p3).toInt64) * ((own_q p3).toInt64))))])) _
      refine XS.iload X75.here hx rfl (hb hby at_218) rfl ?_
      show Steps p.tables e below (T75.setTop (mkF m 220 #[.val (.int p0), .val (.int p1), .val (.int p2), .val (.int p3), .val (.int p4), .val (.int (4 : Int32)), .val (.int (own_q p1)), .val (.int (own_q p2)), .val (.int (own_q p3)), .val (.int (own_q p4)), .val (.ref b59), .val (.long ((((0 : Int64) + (((own_q p1).toInt64) * ((own_q p1).toInt64))) + (((own_q p2).toInt64) * ((own_q p2).toInt64))) + (((own_q p3).toInt64) * ((own_q p3).toInt64)))), .second, .unset, .unset] [(.int (own_q p4)), (.long ((((0 : Int64) + (((own_q p1).toInt64) * ((own_q p1).toInt64))) + (((own_q p2).toInt64) * ((own_q p2).toInt64))) + (((own_q p3).toInt64) * ((own_q p3).toInt64))))])) _
      refine XS.i2l X75.here hx rfl (hb hby at_220) rfl ?_
      show Steps p.tables e below (T75.setTop (mkF m 221 #[.val (.int p0), .val (.int p1), .val (.int p2), .val (.int p3), .val (.int p4), .val (.int (4 : Int32)), .val (.int (own_q p1)), .val (.int (own_q p2)), .val (.int (own_q p3)), .val (.int (own_q p4)), .val (.ref b59), .val (.long ((((0 : Int64) + (((own_q p1).toInt64) * ((own_q p1).toInt64))) + (((own_q p2).toInt64) * ((own_q p2).toInt64))) + (((own_q p3).toInt64) * ((own_q p3).toInt64)))), .second, .unset, .unset] [(.long ((own_q p4).toInt64)), (.long ((((0 : Int64) + (((own_q p1).toInt64) * ((own_q p1).toInt64))) + (((own_q p2).toInt64) * ((own_q p2).toInt64))) + (((own_q p3).toInt64) * ((own_q p3).toInt64))))])) _
      refine XS.iload X75.here hx rfl (hb hby at_221) rfl ?_
      show Steps p.tables e below (T75.setTop (mkF m 223 #[.val (.int p0), .val (.int p1), .val (.int p2), .val (.int p3), .val (.int p4), .val (.int (4 : Int32)), .val (.int (own_q p1)), .val (.int (own_q p2)), .val (.int (own_q p3)), .val (.int (own_q p4)), .val (.ref b59), .val (.long ((((0 : Int64) + (((own_q p1).toInt64) * ((own_q p1).toInt64))) + (((own_q p2).toInt64) * ((own_q p2).toInt64))) + (((own_q p3).toInt64) * ((own_q p3).toInt64)))), .second, .unset, .unset] [(.int (own_q p4)), (.long ((own_q p4).toInt64)), (.long ((((0 : Int64) + (((own_q p1).toInt64) * ((own_q p1).toInt64))) + (((own_q p2).toInt64) * ((own_q p2).toInt64))) + (((own_q p3).toInt64) * ((own_q p3).toInt64))))])) _
      refine XS.i2l X75.here hx rfl (hb hby at_223) rfl ?_
      show Steps p.tables e below (T75.setTop (mkF m 224 #[.val (.int p0), .val (.int p1), .val (.int p2), .val (.int p3), .val (.int p4), .val (.int (4 : Int32)), .val (.int (own_q p1)), .val (.int (own_q p2)), .val (.int (own_q p3)), .val (.int (own_q p4)), .val (.ref b59), .val (.long ((((0 : Int64) + (((own_q p1).toInt64) * ((own_q p1).toInt64))) + (((own_q p2).toInt64) * ((own_q p2).toInt64))) + (((own_q p3).toInt64) * ((own_q p3).toInt64)))), .second, .unset, .unset] [(.long ((own_q p4).toInt64)), (.long ((own_q p4).toInt64)), (.long ((((0 : Int64) + (((own_q p1).toInt64) * ((own_q p1).toInt64))) + (((own_q p2).toInt64) * ((own_q p2).toInt64))) + (((own_q p3).toInt64) * ((own_q p3).toInt64))))])) _
      refine XS.lmul X75.here hx rfl (hb hby at_224) rfl ?_
      show Steps p.tables e below (T75.setTop (mkF m 225 #[.val (.int p0), .val (.int p1), .val (.int p2), .val (.int p3), .val (.int p4), .val (.int (4 : Int32)), .val (.int (own_q p1)), .val (.int (own_q p2)), .val (.int (own_q p3)), .val (.int (own_q p4)), .val (.ref b59), .val (.long ((((0 : Int64) + (((own_q p1).toInt64) * ((own_q p1).toInt64))) + (((own_q p2).toInt64) * ((own_q p2).toInt64))) + (((own_q p3).toInt64) * ((own_q p3).toInt64)))), .second, .unset, .unset] [(.long (((own_q p4).toInt64) * ((own_q p4).toInt64))), (.long ((((0 : Int64) + (((own_q p1).toInt64) * ((own_q p1).toInt64))) + (((own_q p2).toInt64) * ((own_q p2).toInt64))) + (((own_q p3).toInt64) * ((own_q p3).toInt64))))])) _
      refine XS.ladd X75.here hx rfl (hb hby at_225) rfl ?_
      show Steps p.tables e below (T75.setTop (mkF m 226 #[.val (.int p0), .val (.int p1), .val (.int p2), .val (.int p3), .val (.int p4), .val (.int (4 : Int32)), .val (.int (own_q p1)), .val (.int (own_q p2)), .val (.int (own_q p3)), .val (.int (own_q p4)), .val (.ref b59), .val (.long ((((0 : Int64) + (((own_q p1).toInt64) * ((own_q p1).toInt64))) + (((own_q p2).toInt64) * ((own_q p2).toInt64))) + (((own_q p3).toInt64) * ((own_q p3).toInt64)))), .second, .unset, .unset] [(.long (((((0 : Int64) + (((own_q p1).toInt64) * ((own_q p1).toInt64))) + (((own_q p2).toInt64) * ((own_q p2).toInt64))) + (((own_q p3).toInt64) * ((own_q p3).toInt64))) + (((own_q p4).toInt64) * ((own_q p4).toInt64))))])) _
      refine XS.lstore X75.here hx rfl (hb hby at_226) rfl (l' := #[.val (.int p0), .val (.int p1), .val (.int p2), .val (.int p3), .val (.int p4), .val (.int (4 : Int32)), .val (.int (own_q p1)), .val (.int (own_q p2)), .val (.int (own_q p3)), .val (.int (own_q p4)), .val (.ref b59), .val (.long (((((0 : Int64) + (((own_q p1).toInt64) * ((own_q p1).toInt64))) + (((own_q p2).toInt64) * ((own_q p2).toInt64))) + (((own_q p3).toInt64) * ((own_q p3).toInt64))) + (((own_q p4).toInt64) * ((own_q p4).toInt64)))), .second, .unset, .unset]) rfl ?_
      show Steps p.tables e below (T75.setTop (mkF m 228 #[.val (.int p0), .val (.int p1), .val (.int p2), .val (.int p3), .val (.int p4), .val (.int (4 : Int32)), .val (.int (own_q p1)), .val (.int (own_q p2)), .val (.int (own_q p3)), .val (.int (own_q p4)), .val (.ref b59), .val (.long (((((0 : Int64) + (((own_q p1).toInt64) * ((own_q p1).toInt64))) + (((own_q p2).toInt64) * ((own_q p2).toInt64))) + (((own_q p3).toInt64) * ((own_q p3).toInt64))) + (((own_q p4).toInt64) * ((own_q p4).toInt64)))), .second, .unset, .unset] [])) _
      refine XS.aload X75.here hx rfl (hb hby at_228) rfl rfl ?_
      exact kt
    obtain ⟨_, _, ⟨T79, L79, kc79, nc79⟩, -, X79, ⟨Lc79, hQ79, l79, y79, z79⟩, st79⟩ := Jvm.LawKit.callS X75 hx (y := (⟨"com/example/vidura/vidura/stats/Values", "sumOfSquares", "([D)D"⟩ : MethodName)) hown (mvT hZ (hw _ (List.mem_of_getElem? (i := 3) rfl))) (mvT hZ (hw _ (List.mem_of_getElem? (i := 4) rfl))) (mvT hZ (hw _ (List.mem_of_getElem? (i := 5) rfl))) (mvT hZ (hw _ (List.mem_of_getElem? (i := 6) rfl))) (by decide) (backOf (W := 0) (rm1m4 l Z a0 hw [] b59 k59 (own_q p1) (own_q p2) (own_q p3) (own_q p4) h75 n0 z77 V75' (own_q_sm p1) (own_q_sm p2) (own_q_sm p3) (own_q_sm p4)) hZ (hw _ (List.mem_of_getElem? (i := 6) rfl)) (hw _ (List.mem_of_getElem? (i := 5) rfl)) (by decide) (by decide)) (g := (mkF m 230 #[.val (.int p0), .val (.int p1), .val (.int p2), .val (.int p3), .val (.int p4), .val (.int (4 : Int32)), .val (.int (own_q p1)), .val (.int (own_q p2)), .val (.int (own_q p3)), .val (.int (own_q p4)), .val (.ref b59), .val (.long (((((0 : Int64) + (((own_q p1).toInt64) * ((own_q p1).toInt64))) + (((own_q p2).toInt64) * ((own_q p2).toInt64))) + (((own_q p3).toInt64) * ((own_q p3).toInt64))) + (((own_q p4).toInt64) * ((own_q p4).toInt64)))), .second, .unset, .unset] [(.ref b59)])) rfl (by rw [hml]; rfl) (argsL := [(.ref b59)]) (rest := []) (lenOf pd_0 rfl) rfl (by show 2 * 0 + _ ≤ _; exact Nat.le_of_eq rfl) (hb hby at_230) (fun _ _ => ⟨rfl, e75, (by decide : 1 + 0 ≤ _), (by decide : 4 + 0 ≤ _)⟩)
    dsimp only [Pt.U, Pt.locs, Pt.cells, Pt.slots] at X79 l79 y79 z79 st79 hQ79
    subst l79 y79 z79
    obtain ⟨rfl, N79q, he79⟩ := hQ79
    have N79 := Fr.app N75 N79q
    have pre80 : ∀ t, Steps p.tables e below (T79.setTop (mkF m 233 #[.val (.int p0), .val (.int p1), .val (.int p2), .val (.int p3), .val (.int p4), .val (.int (4 : Int32)), .val (.int (own_q p1)), .val (.int (own_q p2)), .val (.int (own_q p3)), .val (.int (own_q p4)), .val (.ref b59), .val (.long (((((0 : Int64) + (((own_q p1).toInt64) * ((own_q p1).toInt64))) + (((own_q p2).toInt64) * ((own_q p2).toInt64))) + (((own_q p3).toInt64) * ((own_q p3).toInt64))) + (((own_q p4).toInt64) * ((own_q p4).toInt64)))), .second, .unset, .unset] [(.double (FP.l2d (((((0 : Int64) + (((own_q p1).toInt64) * ((own_q p1).toInt64))) + (((own_q p2).toInt64) * ((own_q p2).toInt64))) + (((own_q p3).toInt64) * ((own_q p3).toInt64))) + (((own_q p4).toInt64) * ((own_q p4).toInt64)))))])) t → Steps p.tables e below (s₁.setTop (entryFrame m #[(.int p0), (.int p1), (.int p2), (.int p3), (.int p4)] maxLocals)) t := fun t kt => pre78 _ (st79 _ kt)
    have pre81 : ∀ t, Steps p.tables e below (T79.setTop (mkF m 249 #[.val (.int p0), .val (.int p1), .val (.int p2), .val (.int p3), .val (.int p4), .val (.int (4 : Int32)), .val (.int (own_q p1)), .val (.int (own_q p2)), .val (.int (own_q p3)), .val (.int (own_q p4)), .val (.ref b59), .val (.long (((((0 : Int64) + (((own_q p1).toInt64) * ((own_q p1).toInt64))) + (((own_q p2).toInt64) * ((own_q p2).toInt64))) + (((own_q p3).toInt64) * ((own_q p3).toInt64))) + (((own_q p4).toInt64) * ((own_q p4).toInt64)))), .second, .val (.double (FP.l2d (((((0 : Int64) + (((own_q p1).toInt64) * ((own_q p1).toInt64))) + (((own_q p2).toInt64) * ((own_q p2).toInt64))) + (((own_q p3).toInt64) * ((own_q p3).toInt64))) + (((own_q p4).toInt64) * ((own_q p4).toInt64))))), .second] [(.int (1 : Int32))])) t → Steps p.tables e below (s₁.setTop (entryFrame m #[(.int p0), (.int p1), (.int p2), (.int p3), (.int p4)] maxLocals)) t := fun t kt => by
      refine pre80 _ ?_
      show Steps p.tables e below (T79.setTop (mkF m 233 #[.val (.int p0), .val (.int p1), .val (.int p2), .val (.int p3), .val (.int p4), .val (.int (4 : Int32)), .val (.int (own_q p1)), .val (.int (own_q p2)), .val (.int (own_q p3)), .val (.int (own_q p4)), .val (.ref b59), .val (.long (((((0 : Int64) + (((own_q p1).toInt64) * ((own_q p1).toInt64))) + (((own_q p2).toInt64) * ((own_q p2).toInt64))) + (((own_q p3).toInt64) * ((own_q p3).toInt64))) + (((own_q p4).toInt64) * ((own_q p4).toInt64)))), .second, .unset, .unset] [(.double (FP.l2d (((((0 : Int64) + (((own_q p1).toInt64) * ((own_q p1).toInt64))) + (((own_q p2).toInt64) * ((own_q p2).toInt64))) + (((own_q p3).toInt64) * ((own_q p3).toInt64))) + (((own_q p4).toInt64) * ((own_q p4).toInt64)))))])) _
      refine XS.dstore X79.here hx rfl (hb hby at_233) rfl (l' := #[.val (.int p0), .val (.int p1), .val (.int p2), .val (.int p3), .val (.int p4), .val (.int (4 : Int32)), .val (.int (own_q p1)), .val (.int (own_q p2)), .val (.int (own_q p3)), .val (.int (own_q p4)), .val (.ref b59), .val (.long (((((0 : Int64) + (((own_q p1).toInt64) * ((own_q p1).toInt64))) + (((own_q p2).toInt64) * ((own_q p2).toInt64))) + (((own_q p3).toInt64) * ((own_q p3).toInt64))) + (((own_q p4).toInt64) * ((own_q p4).toInt64)))), .second, .val (.double (FP.l2d (((((0 : Int64) + (((own_q p1).toInt64) * ((own_q p1).toInt64))) + (((own_q p2).toInt64) * ((own_q p2).toInt64))) + (((own_q p3).toInt64) * ((own_q p3).toInt64))) + (((own_q p4).toInt64) * ((own_q p4).toInt64))))), .second]) rfl ?_
      show Steps p.tables e below (T79.setTop (mkF m 235 #[.val (.int p0), .val (.int p1), .val (.int p2), .val (.int p3), .val (.int p4), .val (.int (4 : Int32)), .val (.int (own_q p1)), .val (.int (own_q p2)), .val (.int (own_q p3)), .val (.int (own_q p4)), .val (.ref b59), .val (.long (((((0 : Int64) + (((own_q p1).toInt64) * ((own_q p1).toInt64))) + (((own_q p2).toInt64) * ((own_q p2).toInt64))) + (((own_q p3).toInt64) * ((own_q p3).toInt64))) + (((own_q p4).toInt64) * ((own_q p4).toInt64)))), .second, .val (.double (FP.l2d (((((0 : Int64) + (((own_q p1).toInt64) * ((own_q p1).toInt64))) + (((own_q p2).toInt64) * ((own_q p2).toInt64))) + (((own_q p3).toInt64) * ((own_q p3).toInt64))) + (((own_q p4).toInt64) * ((own_q p4).toInt64))))), .second] [])) _
      refine XS.dload X79.here hx rfl (hb hby at_235) rfl ?_
      show Steps p.tables e below (T79.setTop (mkF m 237 #[.val (.int p0), .val (.int p1), .val (.int p2), .val (.int p3), .val (.int p4), .val (.int (4 : Int32)), .val (.int (own_q p1)), .val (.int (own_q p2)), .val (.int (own_q p3)), .val (.int (own_q p4)), .val (.ref b59), .val (.long (((((0 : Int64) + (((own_q p1).toInt64) * ((own_q p1).toInt64))) + (((own_q p2).toInt64) * ((own_q p2).toInt64))) + (((own_q p3).toInt64) * ((own_q p3).toInt64))) + (((own_q p4).toInt64) * ((own_q p4).toInt64)))), .second, .val (.double (FP.l2d (((((0 : Int64) + (((own_q p1).toInt64) * ((own_q p1).toInt64))) + (((own_q p2).toInt64) * ((own_q p2).toInt64))) + (((own_q p3).toInt64) * ((own_q p3).toInt64))) + (((own_q p4).toInt64) * ((own_q p4).toInt64))))), .second] [(.double (FP.l2d (((((0 : Int64) + (((own_q p1).toInt64) * ((own_q p1).toInt64))) + (((own_q p2).toInt64) * ((own_q p2).toInt64))) + (((own_q p3).toInt64) * ((own_q p3).toInt64))) + (((own_q p4).toInt64) * ((own_q p4).toInt64)))))])) _
      refine XS.lload X79.here hx rfl (hb hby at_237) rfl ?_
      show Steps p.tables e below (T79.setTop (mkF m 239 #[.val (.int p0), .val (.int p1), .val (.int p2), .val (.int p3), .val (.int p4), .val (.int (4 : Int32)), .val (.int (own_q p1)), .val (.int (own_q p2)), .val (.int (own_q p3)), .val (.int (own_q p4)), .val (.ref b59), .val (.long (((((0 : Int64) + (((own_q p1).toInt64) * ((own_q p1).toInt64))) + (((own_q p2).toInt64) * ((own_q p2).toInt64))) + (((own_q p3).toInt64) * ((own_q p3).toInt64))) + (((own_q p4).toInt64) * ((own_q p4).toInt64)))), .second, .val (.double (FP.l2d (((((0 : Int64) + (((own_q p1).toInt64) * ((own_q p1).toInt64))) + (((own_q p2).toInt64) * ((own_q p2).toInt64))) + (((own_q p3).toInt64) * ((own_q p3).toInt64))) + (((own_q p4).toInt64) * ((own_q p4).toInt64))))), .second] [(.long (((((0 : Int64) + (((own_q p1).toInt64) * ((own_q p1).toInt64))) + (((own_q p2).toInt64) * ((own_q p2).toInt64))) + (((own_q p3).toInt64) * ((own_q p3).toInt64))) + (((own_q p4).toInt64) * ((own_q p4).toInt64)))), (.double (FP.l2d (((((0 : Int64) + (((own_q p1).toInt64) * ((own_q p1).toInt64))) + (((own_q p2).toInt64) * ((own_q p2).toInt64))) + (((own_q p3).toInt64) * ((own_q p3).toInt64))) + (((own_q p4).toInt64) * ((own_q p4).toInt64)))))])) _
      refine XS.l2dS X79.here hx rfl (hb hby at_239) rfl rfl ?_
      show Steps p.tables e below (T79.setTop (mkF m 240 #[.val (.int p0), .val (.int p1), .val (.int p2), .val (.int p3), .val (.int p4), .val (.int (4 : Int32)), .val (.int (own_q p1)), .val (.int (own_q p2)), .val (.int (own_q p3)), .val (.int (own_q p4)), .val (.ref b59), .val (.long (((((0 : Int64) + (((own_q p1).toInt64) * ((own_q p1).toInt64))) + (((own_q p2).toInt64) * ((own_q p2).toInt64))) + (((own_q p3).toInt64) * ((own_q p3).toInt64))) + (((own_q p4).toInt64) * ((own_q p4).toInt64)))), .second, .val (.double (FP.l2d (((((0 : Int64) + (((own_q p1).toInt64) * ((own_q p1).toInt64))) + (((own_q p2).toInt64) * ((own_q p2).toInt64))) + (((own_q p3).toInt64) * ((own_q p3).toInt64))) + (((own_q p4).toInt64) * ((own_q p4).toInt64))))), .second] [(.double (FP.l2d (((((0 : Int64) + (((own_q p1).toInt64) * ((own_q p1).toInt64))) + (((own_q p2).toInt64) * ((own_q p2).toInt64))) + (((own_q p3).toInt64) * ((own_q p3).toInt64))) + (((own_q p4).toInt64) * ((own_q p4).toInt64))))), (.double (FP.l2d (((((0 : Int64) + (((own_q p1).toInt64) * ((own_q p1).toInt64))) + (((own_q p2).toInt64) * ((own_q p2).toInt64))) + (((own_q p3).toInt64) * ((own_q p3).toInt64))) + (((own_q p4).toInt64) * ((own_q p4).toInt64)))))])) _
      refine XS.dcmpS X79.here hx rfl (hb hby at_240) rfl (dcmpV_self (nn_w rfl) _) ?_
      show Steps p.tables e below (T79.setTop (mkF m 241 #[.val (.int p0), .val (.int p1), .val (.int p2), .val (.int p3), .val (.int p4), .val (.int (4 : Int32)), .val (.int (own_q p1)), .val (.int (own_q p2)), .val (.int (own_q p3)), .val (.int (own_q p4)), .val (.ref b59), .val (.long (((((0 : Int64) + (((own_q p1).toInt64) * ((own_q p1).toInt64))) + (((own_q p2).toInt64) * ((own_q p2).toInt64))) + (((own_q p3).toInt64) * ((own_q p3).toInt64))) + (((own_q p4).toInt64) * ((own_q p4).toInt64)))), .second, .val (.double (FP.l2d (((((0 : Int64) + (((own_q p1).toInt64) * ((own_q p1).toInt64))) + (((own_q p2).toInt64) * ((own_q p2).toInt64))) + (((own_q p3).toInt64) * ((own_q p3).toInt64))) + (((own_q p4).toInt64) * ((own_q p4).toInt64))))), .second] [(.int (0 : Int32))])) _
      refine XS.ifNo X79.here hx rfl (hb hby at_241) rfl ((if0 _ _).trans (teq (by decide : (0 : Int32) = (0 : Int32))).2) ?_
      show Steps p.tables e below (T79.setTop (mkF m 244 #[.val (.int p0), .val (.int p1), .val (.int p2), .val (.int p3), .val (.int p4), .val (.int (4 : Int32)), .val (.int (own_q p1)), .val (.int (own_q p2)), .val (.int (own_q p3)), .val (.int (own_q p4)), .val (.ref b59), .val (.long (((((0 : Int64) + (((own_q p1).toInt64) * ((own_q p1).toInt64))) + (((own_q p2).toInt64) * ((own_q p2).toInt64))) + (((own_q p3).toInt64) * ((own_q p3).toInt64))) + (((own_q p4).toInt64) * ((own_q p4).toInt64)))), .second, .val (.double (FP.l2d (((((0 : Int64) + (((own_q p1).toInt64) * ((own_q p1).toInt64))) + (((own_q p2).toInt64) * ((own_q p2).toInt64))) + (((own_q p3).toInt64) * ((own_q p3).toInt64))) + (((own_q p4).toInt64) * ((own_q p4).toInt64))))), .second] [])) _
      refine XS.iconst X79.here hx rfl (hb hby at_244) ?_
      show Steps p.tables e below (T79.setTop (mkF m 245 #[.val (.int p0), .val (.int p1), .val (.int p2), .val (.int p3), .val (.int p4), .val (.int (4 : Int32)), .val (.int (own_q p1)), .val (.int (own_q p2)), .val (.int (own_q p3)), .val (.int (own_q p4)), .val (.ref b59), .val (.long (((((0 : Int64) + (((own_q p1).toInt64) * ((own_q p1).toInt64))) + (((own_q p2).toInt64) * ((own_q p2).toInt64))) + (((own_q p3).toInt64) * ((own_q p3).toInt64))) + (((own_q p4).toInt64) * ((own_q p4).toInt64)))), .second, .val (.double (FP.l2d (((((0 : Int64) + (((own_q p1).toInt64) * ((own_q p1).toInt64))) + (((own_q p2).toInt64) * ((own_q p2).toInt64))) + (((own_q p3).toInt64) * ((own_q p3).toInt64))) + (((own_q p4).toInt64) * ((own_q p4).toInt64))))), .second] [(.int (1 : Int32))])) _
      refine XS.goto X79.here hx rfl (pc0 := 245) (pc' := 249) rfl (hb hby at_245) (by decide) (by decide) ?_
      exact kt
    obtain ⟨fs, hr, hrun, hended, hW, hsame⟩ := X79.leave (v := (some (.int (1 : Int32)))) (fun h => by rw [Bd.returns] at h; cases h)
    refine ⟨_, _, pre81 _ ?_, hrun, hended, _, _, rfl, ?_, ⟨_, rfl⟩, hW, hsame.mono (by decide) (by decide)⟩
    · show Steps p.tables e below (T79.setTop (mkF m 249 #[.val (.int p0), .val (.int p1), .val (.int p2), .val (.int p3), .val (.int p4), .val (.int (4 : Int32)), .val (.int (own_q p1)), .val (.int (own_q p2)), .val (.int (own_q p3)), .val (.int (own_q p4)), .val (.ref b59), .val (.long (((((0 : Int64) + (((own_q p1).toInt64) * ((own_q p1).toInt64))) + (((own_q p2).toInt64) * ((own_q p2).toInt64))) + (((own_q p3).toInt64) * ((own_q p3).toInt64))) + (((own_q p4).toInt64) * ((own_q p4).toInt64)))), .second, .val (.double (FP.l2d (((((0 : Int64) + (((own_q p1).toInt64) * ((own_q p1).toInt64))) + (((own_q p2).toInt64) * ((own_q p2).toInt64))) + (((own_q p3).toInt64) * ((own_q p3).toInt64))) + (((own_q p4).toInt64) * ((own_q p4).toInt64))))), .second] [(.int (1 : Int32))])) _
      exact retN X79 hx (t := .boolean) Bd.returns (by simp) (hb hby at_249) hr
    · show Q0 Z p0 p1 p2 p3 p4 h0 n0 _ T79.heap _
      rw [he79]
      exact ⟨rfl, N79⟩
set_option maxRecDepth 65536 in
set_option maxHeartbeats 40000000 in
theorem comes_1 {Post : Tables → Env → Array Value → State → Outcome → State → Prop} (hpost : ∀ tb e args s v u, (limb_1_1.after args s (.returned v) u = true ∧ limb_1_2.after args s (.returned v) u = true ∧ True) → FrameEnd s (.returned v) u (Jvm.fieldLocs frame_1_writes args s ++ Jvm.arrayLocs frame_1_arrays args s ++ Jvm.staticLocs frame_1_statics s) 16 128 → Post tb e args s (.returned v) u) :
    ArmFor flags0 classFile x code maxLocals ret World_1 tables_1 room_1 Calls_1 rest_1 Pre_1 Post := by
  intro l hfl _ _ p e ha hc hk s m args below hf hA hF happ hP
  obtain ⟨hcalls, hrest, hpre⟩ := hP
  obtain ⟨-, -, -, hnamed, -, -, -, hat⟩ := (Spec.applies_iff hf).mp happ
  obtain ⟨hg, hn⟩ := and_e (Cond.before_iff.mp (show (Jvm.Cond.and given_1 narrow_1).before args s = true from hpre))
  obtain ⟨gc, g0⟩ := and_e hg
  obtain ⟨gg0, g1⟩ := and_e g0
  obtain ⟨gg1, g2⟩ := and_e g1
  obtain ⟨gg2, g3⟩ := and_e g2
  obtain ⟨gg3, g4⟩ := and_e g3
  obtain ⟨w0, w1, w2, w3, w4, rfl⟩ : ∃ w0 w1 w2 w3 w4 : Value, args = #[w0, w1, w2, w3, w4] := by
    have hs : args.size = 5 := by simpa [Cond.value, given_1] using gc
    obtain ⟨L⟩ := args
    match L, hs with
    | [w0, w1, w2, w3, w4], _ => exact ⟨w0, w1, w2, w3, w4, rfl⟩
  have hw := fun d (hd : d ∈ tables_1) => atoms_spec (ws := Jvm.Cond.code x code maxLocals ret :: tables_1) hat d (List.mem_cons_of_mem _ hd)
  have hfit : Fit s := fun {y c} hc i hi => by
    obtain ⟨ha, rfl⟩ := Array.getElem?_eq_some_iff.mp hc
    have q := List.all_eq_true.mp ((Array.all_eq_true_iff_forall_mem.mp hF) _ (Array.getElem_mem ha)) i (List.mem_range.mpr hi)
    simpa [Array.getElem?_eq_getElem hi] using q
  obtain ⟨i0, ei0⟩ := is_v gg0
  obtain rfl : w0 = (.int i0) := Option.some.inj ei0
  obtain ⟨i1, ei1⟩ := is_v gg1
  obtain rfl : w1 = (.int i1) := Option.some.inj ei1
  obtain ⟨i2, ei2⟩ := is_v gg2
  obtain rfl : w2 = (.int i2) := Option.some.inj ei2
  obtain ⟨i3, ei3⟩ := is_v gg3
  obtain rfl : w3 = (.int i3) := Option.some.inj ei3
  obtain ⟨i4, ei4⟩ := is_v g4
  obtain rfl : w4 = (.int i4) := Option.some.inj ei4
  obtain ⟨n, o, h1, h2, h3, _, L, rfl, ⟨rfl, N⟩, hq⟩ := rm0 l s _ hw tables_1 i0 i1 i2 i3 i4  s.heap s.heap.size (Nat.le_refl _)  p e ha hc hk s m _ below hf ((Spec.applies_iff_loose hf).mp happ).1 ⟨rfl, State.Warmed39.refl s, rfl⟩ trivial
  refine ⟨n, _, h1, h2, h3, hpost _ _ _ _ _ _ ⟨Cond.after_iff.mpr rfl, Cond.after_iff.mpr (eq_i res_at (Term.int_eval (1)) rfl), trivial⟩ ⟨hq.1, hq.2.1, (hq.2.2.sift fun y hy => Or.inr (N y hy)).mono (by decide) (by decide)⟩⟩
theorem main_1_1 : Claimed_1_1 := comes_1 fun _ _ _ _ _ _ h hF => ⟨h.1, hF⟩
theorem main_1_2 : Claimed_1_2 := comes_1 fun _ _ _ _ _ _ h hF => ⟨h.2.1, hF⟩
end Jvm.Pilot.@@N@@
namespace Jvm.Pilot.@@N@@
open Jvm Jvm.ClassFile Sem Op Lib Jvm.Free Jvm.Stand Jvm.Pilot.@@N@@.Jvm.D
/-! MADE BY PROGRAM (witnessworld.py) out of the Statement's table words and the real class files: 11 classes; the members and pool entries that the words name. The judged class is class 1, her method 1. -/
namespace start1
open Jvm.ClassFile
def u (s : String) : CpInfo := .utf8 (stringToUtf16 s)
/-- a pool by its gaps: so many unusable entries, then the entry; so many at the end -/
def gap : Nat → List CpInfo → List CpInfo
  | 0, r => r
  | n + 1, r => .unusable :: gap n r
def poolList (es : List (Nat × CpInfo)) (last : Nat) : List CpInfo := es.foldr (fun e r => gap e.1 (e.2 :: r)) (gap last [])
def pool (es : List (Nat × CpInfo)) (last : Nat) : Array CpInfo := ⟨poolList es last⟩
def fileOf (pool : Array CpInfo) (this : Nat) (attrs : Array Attribute := #[]) (ms : Array MethodInfo := #[]) (fl : Nat := 33) (sup : Nat := 0) (ifs : Array Nat := #[]) (fds : Array FieldInfo := #[]) : ClassFile where
  minorVersion := 0
  majorVersion := 65
  constantPool := pool
  accessFlags := fl
  thisClass := this
  superClass := sup
  interfaces := ifs
  fields := fds
  methods := ms
  attributes := attrs
def plain (name : String) (sup : Option ClassId) : Class where
  name := name
  kind := .ordinary
  loader := none
  accessFlags := 33
  super := sup
  interfaces := #[]
  cf := none
  fields := #[]
  methods := #[]
  instanceTypes := #[]
  staticTypes := #[]
  resolved := #[]
  callSites := []
  init := .initialized
  statics := none
  mirror := none

def pool0 : Array CpInfo := pool [(5, u "<init>"), (0, u "()V"), (1, .class_ 10), (1, u "java/lang/Object")] 113

def k0m0 : Method := { name := "<init>", desc := "()V", sig := { parameters := [], returnType := none }, accessFlags := 1, code := none }
/-- java/lang/Object -/
def k0 : Class := { plain "java/lang/Object" none with
  accessFlags := 33
  interfaces := #[]
  cf := some (fileOf pool0 8 #[] #[{ accessFlags := 1, nameIndex := 5, descriptorIndex := 6, attributes := #[] }] 33 0 #[] #[])
  fields := #[]
  methods := #[k0m0]
  instanceTypes := #[]
  staticTypes := #[]
  resolved := Array.replicate 124 none
  statics := none }

def pool1 : Array CpInfo := pool [(2, .class_ 4), (1, u "java/lang/Object"), (0, u "<init>"), (0, u "()V"), (0, .integer 2147483647), (0, .integer 33554432), (0, .methodref 10 11), (0, .class_ 12), (0, .nameAndType 13 14), (0, u "com/example/vidura/vidura/stats/Values"), (0, u "sumOfSquares"), (0, u "([D)D"), (0, .class_ 16), (0, u "com/example/vidura/vidura/stats/ValuesSumOfSquaresPinLaw"), (2, u "law"), (0, u "(IIIII)Z")] 5

def k1m0 : Method := { name := "<init>", desc := "()V", sig := { parameters := [], returnType := none }, accessFlags := 2, code := none }
def k1c1 : Code := { maxStack := 6, maxLocals := 15, code := code, exceptionTable := #[], attributes := #[] }
def k1m1 : Method := { name := "law", desc := "(IIIII)Z", sig := { parameters := [.int, .int, .int, .int, .int], returnType := some .boolean }, accessFlags := 9, code := some k1c1 }
/-- com/example/vidura/vidura/stats/ValuesSumOfSquaresPinLaw -/
def k1 : Class := { plain "com/example/vidura/vidura/stats/ValuesSumOfSquaresPinLaw" (some 0) with
  accessFlags := 49
  interfaces := #[]
  cf := some (fileOf pool1 15 #[] #[{ accessFlags := 2, nameIndex := 5, descriptorIndex := 6, attributes := #[] }, { accessFlags := 9, nameIndex := 19, descriptorIndex := 20, attributes := #[] }] 49 2 #[] #[])
  fields := #[]
  methods := #[k1m0, k1m1]
  instanceTypes := #[]
  staticTypes := #[]
  resolved := Array.replicate 26 none
  statics := none }

def pool2 : Array CpInfo := pool [(2, .class_ 4), (1, u "java/lang/Object"), (0, u "<init>"), (0, u "()V"), (19, .class_ 28), (1, u "com/example/vidura/vidura/stats/Values"), (7, u "sumOfSquares"), (0, u "([D)D")] 17

def k2m0 : Method := { name := "<init>", desc := "()V", sig := { parameters := [], returnType := none }, accessFlags := 2, code := none }
def k2c1 : Code := { maxStack := 6, maxLocals := 8, code := prog_125_method_5_code, exceptionTable := #[], attributes := #[] }
def k2m1 : Method := { name := "sumOfSquares", desc := "([D)D", sig := { parameters := [(.array .double)], returnType := some .double }, accessFlags := 8, code := some k2c1 }
/-- com/example/vidura/vidura/stats/Values -/
def k2 : Class := { plain "com/example/vidura/vidura/stats/Values" (some 0) with
  accessFlags := 48
  interfaces := #[]
  cf := some (fileOf pool2 26 #[] #[{ accessFlags := 2, nameIndex := 5, descriptorIndex := 6, attributes := #[] }, { accessFlags := 8, nameIndex := 36, descriptorIndex := 37, attributes := #[] }] 48 2 #[] #[])
  fields := #[]
  methods := #[k2m0, k2m1]
  instanceTypes := #[]
  staticTypes := #[]
  resolved := Array.replicate 55 none
  statics := none }

def pool3 : Array CpInfo := pool [(1, u "java/lang/Cloneable"), (0, .class_ 1), (0, u "java/lang/Object"), (0, .class_ 3)] 3

/-- java/lang/Cloneable -/
def k3 : Class := { plain "java/lang/Cloneable" (some 0) with
  accessFlags := 1537
  interfaces := #[]
  cf := some (fileOf pool3 2 #[] #[] 1537 4 #[] #[])
  fields := #[]
  methods := #[]
  instanceTypes := #[]
  staticTypes := #[]
  resolved := Array.replicate 8 none
  statics := none }

def pool4 : Array CpInfo := pool [(1, u "java/io/Serializable"), (0, .class_ 1), (0, u "java/lang/Object"), (0, .class_ 3)] 3

/-- java/io/Serializable -/
def k4 : Class := { plain "java/io/Serializable" (some 0) with
  accessFlags := 1537
  interfaces := #[]
  cf := some (fileOf pool4 2 #[] #[] 1537 4 #[] #[])
  fields := #[]
  methods := #[]
  instanceTypes := #[]
  staticTypes := #[]
  resolved := Array.replicate 8 none
  statics := none }

/-- the primitive byte -/
def k5 : Class := { plain "byte" none with kind := .primitive 'B', accessFlags := 0x411 }
/-- [B -/
def k6 : Class := { plain "[B" (some 0) with kind := .array 5 .byte, interfaces := #[3, 4], accessFlags := 1041 }

/-- the primitive double -/
def k7 : Class := { plain "double" none with kind := .primitive 'D', accessFlags := 0x411 }
/-- [D -/
def k8 : Class := { plain "[D" (some 0) with kind := .array 7 .double, interfaces := #[3, 4], accessFlags := 1041 }

/-- the primitive int -/
def k9 : Class := { plain "int" none with kind := .primitive 'I', accessFlags := 0x411 }
/-- [I -/
def k10 : Class := { plain "[I" (some 0) with kind := .array 9 .int, interfaces := #[3, 4], accessFlags := 1041 }

def heap : Heap := #[]
def classes : Array Class := #[k0, k1, k2, k3, k4, k5, k6, k7, k8, k9, k10]
def interned : List (Array UInt16 × Addr) := []
def slotsUsed : Nat := 0
def theMethod : MethodId := ⟨1, 1⟩
def args0 : Array Value := #[.int 5, .int 5, .int 5, .int 5, .int 5]
def aboutOver (below : List Frame) : State where
  vm := { classes := classes, interned := interned.toArray }
  heap := heap
  slotsUsed := slotsUsed
  threads := #[{ frames := .invoking theMethod args0 :: below }]
def below0 : List Frame := [.native { method := ⟨0, 0⟩, args := #[] }]
def about1 : State := aboutOver below0
def p0 : Program := .bare "" "" ""
def e0 : Env := launch0.env 0 0 0
theorem w_frames : about1.frames = Frame.invoking theMethod args0 :: below0 := rfl
set_option maxRecDepth 65536 in
theorem w_args : argsFit about1.vm theMethod args0 = true := by decide +kernel
set_option maxRecDepth 65536 in
theorem w_heap : heapFits about1 = true := by decide +kernel
set_option maxRecDepth 65536 in
theorem w_runnable : about1.curStatus? = some .runnable := by decide +kernel
set_option maxRecDepth 65536 in
theorem w_alone : about1.alone = true := by decide +kernel
set_option maxRecDepth 65536 in
theorem w_named : about1.methodNamed? x = some theMethod := by decide +kernel
set_option maxRecDepth 65536 in
theorem w_hears : about1.hears theMethod below0 = true := by decide +kernel
set_option maxRecDepth 65536 in
theorem w_ripe : about1.ripe theMethod args0 below0 = true := by decide +kernel
theorem w_running : about1.status = .running := rfl
set_option maxRecDepth 65536 in
theorem w_room : about1.hasRoom e0.platform room_1 = true :=
  launch0.hasRoom_least _ room_1 (by decide +kernel) (by decide +kernel) (by decide +kernel) (by decide +kernel) (by decide +kernel) (by decide +kernel)
theorem allAtoms_all (ts : List Jvm.Cond) (a : Array Jvm.Value) (st : Jvm.State) : (allAtoms ts).before a st = ts.all (fun c => c.before a st) := by
  induction ts with
  | nil => rfl
  | cons c t ih =>
    show (Jvm.Cond.and c (allAtoms t)).before a st = _
    rw [Jvm.Cond.before_and, ih, List.all_cons]
def words1 : List Jvm.Cond := Jvm.Cond.code x code maxLocals ret :: tables_1
/-- a 'code' word, met by the world's own term for the bytes: nothing is compared byte by byte -/
theorem code_word {y : MethodName} {bytes : ByteArray} {mx : Nat} {rt : Option FieldType} {a : Array Value} {s : State} {m : MethodId} {meth : Method} {c : Code} (h1 : s.methodNamed? y = some m) (h2 : s.vm.method? m = some meth) (h3 : meth.code = some c) (h4 : c.code = bytes)
    (h5 : (c.maxLocals == mx && c.exceptionTable.isEmpty && decide (c.maxStack ≤ mostOperands) && decide (meth.sig.returnType = rt) && !meth.locks && decide (parseMethodDescriptor y.desc = some meth.sig)) = true) : (Jvm.Cond.code y bytes mx rt).before a s = true := by
  simp only [Bool.and_eq_true, beq_iff_eq, Bool.not_eq_true', decide_eq_true_eq] at h5
  obtain ⟨⟨⟨⟨⟨g1, g2⟩, g3⟩, g4⟩, g5⟩, g6⟩ := h5
  simp [Cond.before, Cond.holds, Cond.value, h1, h2, h3, h4, g1, g2, g3, g4, g5, g6]
def isCode : Jvm.Cond → Bool
  | .code _ _ _ _ => true
  | _ => false
theorem all_split {L : List Jvm.Cond} {P : Jvm.Cond → Bool} (h1 : L.all (fun c => isCode c || P c) = true) (h2 : ∀ c ∈ L.filter isCode, P c = true) : L.all P = true := by
  refine List.all_eq_true.mpr fun c hc => ?_
  have h := List.all_eq_true.mp h1 c hc
  rcases Bool.eq_false_or_eq_true (isCode c) with hi | hi
  · exact h2 c (List.mem_filter.mpr ⟨hc, hi⟩)
  · simpa [hi] using h
set_option maxRecDepth 65536 in
theorem w_c0 : (Jvm.Cond.code x code maxLocals ret).before args0 about1 = true := code_word (m := ⟨1, 1⟩) (meth := k1m1) (c := k1c1) (by decide +kernel) rfl rfl rfl (by decide +kernel)
set_option maxRecDepth 65536 in
theorem w_c1 : (Jvm.Cond.code ({ cls := "com/example/vidura/vidura/stats/Values", name := "sumOfSquares", desc := "([D)D" } : Jvm.MethodName) prog_125_method_5_code (8 : Nat) (Option.some Jvm.ClassFile.FieldType.double)).before args0 about1 = true := code_word (m := ⟨2, 1⟩) (meth := k2m1) (c := k2c1) (by decide +kernel) rfl rfl rfl (by decide +kernel)
def codes1 : List Jvm.Cond := [Jvm.Cond.code x code maxLocals ret, Jvm.Cond.code ({ cls := "com/example/vidura/vidura/stats/Values", name := "sumOfSquares", desc := "([D)D" } : Jvm.MethodName) prog_125_method_5_code (8 : Nat) (Option.some Jvm.ClassFile.FieldType.double)]
set_option maxRecDepth 65536 in
theorem codes_eq : words1.filter isCode = codes1 := rfl
theorem w_codes : ∀ c ∈ words1.filter isCode, c.before args0 about1 = true := by
  rw [codes_eq]
  intro c hc
  simp only [codes1, List.mem_cons, List.not_mem_nil, or_false] at hc
  rcases hc with rfl | rfl
  · exact w_c0
  · exact w_c1
set_option maxRecDepth 65536 in
theorem w_t1 : words1.all (fun c => isCode c || c.before args0 about1) = true := by decide +kernel
theorem w_tables : (allAtoms (Jvm.Cond.code x code maxLocals ret :: tables_1)).before args0 about1 = true := by
  rw [allAtoms_all]
  show words1.all (fun c => c.before args0 about1) = true
  refine all_split ?_ w_codes
  rw [w_t1]
set_option maxRecDepth 65536 in
theorem w_case : (Jvm.Cond.and given_1 narrow_1).before args0 about1 = true := by decide +kernel
theorem w_applies : (headSpec (Jvm.Cond.code x code maxLocals ret :: tables_1) room_1).applies x e0.platform about1 = true :=
  (Spec.applies_iff w_frames).mpr ⟨w_running, w_runnable, w_alone, w_named, w_hears, w_ripe, w_room, w_tables⟩
theorem atStart : AtStart classFile x code maxLocals ret World_1 tables_1 room_1 Calls_1 rest_1 Pre_1 launch0 p0 e0 about1 theMethod args0 below0 :=
  ⟨lists_1, trivial, launch0.admits_env _ _ _, launch0.least_env, fairChoices_fair.cas, fairChoices_fair.clock, w_frames, w_args, w_heap, w_applies, trivial, trivial, w_case⟩
end start1
theorem witness_1 : WitnessClaimed_1 := ⟨start1.p0, start1.e0, start1.about1, start1.theMethod, start1.args0, start1.below0, start1.atStart⟩
end Jvm.Pilot.@@N@@
