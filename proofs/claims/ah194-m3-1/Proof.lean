import JvmDerived
import JvmDerived.Pilot.@@N@@Statement
import JvmDerived.Pilot.@@N@@Code
set_option linter.unusedVariables false
set_option linter.unusedSimpArgs false
namespace Jvm.RoadKit
open Sem ClassFile Op Lib Jvm.Stand Jvm.Free Jvm.LawKit
section New
variable {p : Program} {l : Launch} {e : Env} {R : Room} {s : State} {m : MethodId} {args : Array Value} {below : List Frame} {meth : Method} {c : Code} {T : State} {locs : List Loc} {cells slots : Nat}
theorem retI (X : Stand p l e R s m args below meth c T locs cells slots) (hx : p.tables.exec = Jvm.exec) {pc : Nat} {Ls : Array Slot} {z : Int32} {rest : List Value} (hret : meth.sig.returnType = some .int) (hd : decode c.code pc = .ok (.ireturn, 1)) {fs : List Frame}
    (hl : ∀ (f : JFrame) (acts : List Action), f.method = m → f.locked = none → f.entered = [] → (doReturn e (T.setTop f) acts (some (.int z))).1 = T.setFrames fs) : Steps p.tables e below (T.setTop (mkF m pc Ls (.int z :: rest))) (T.setFrames fs) := by
  have hm' : T.vm.method? m = some meth := X.method'
  have hn : narrow .int (.int z) = .int z := rfl
  show Steps p.tables e below (T.setTop { method := m, pc := pc, locals := Ls, stack := _ :: rest, locked := none }) _
  jvm_step X.here [X.here.top, hx, hd, hm', hret, hn]
  first | (intro acts; rw [hl _ acts rfl rfl rfl]) | rw [hl _ _ rfl rfl rfl]
  exact Steps.refl _
end New
end Jvm.RoadKit
namespace Jvm.Pilot.@@N@@
open Jvm Jvm.ClassFile Sem Op Lib Jvm.Free Jvm.Stand Jvm.LawKit Jvm.RoadKit Bundle Jvm.Pilot.@@N@@.Jvm.D

def own_b (s k : Int32) : Int32 := ((s >>> (k &&& 31)) &&& (1 : Int32))
def own_u (x s i : Int32) : UInt64 := if own_b s (i + (3 : Int32)) = (0 : Int32) then FP.i2d x else (0 : UInt64)
def own_v (x s i : Int32) : UInt64 := if own_b s i = (0 : Int32) then own_u x s i else FP.dneg (own_u x s i)
def own_r (v : UInt64) : UInt64 := FP.dadd v (0 : UInt64)
theorem own_neg {v : UInt64} (h : Fl.Fin64 v) : Fl.Fin64 (FP.dneg v) := by
  have e : (v ^^^ 0x8000000000000000) &&& 0x7fffffffffffffff = v &&& 0x7fffffffffffffff := by
    apply UInt64.toBitVec_inj.mp
    simp only [UInt64.toBitVec_and, UInt64.toBitVec_xor]
    ext i hi
    simp only [BitVec.getElem_and, BitVec.getElem_xor]
    by_cases q : i = 63
    · subst q
      have : (UInt64.toBitVec 0x7fffffffffffffff)[63] = false := by decide +revert
      rw [this, Bool.and_false, Bool.and_false]
    · have : (UInt64.toBitVec 0x8000000000000000)[i] = false := by
        have hall : ∀ j : Fin 63, (UInt64.toBitVec 0x8000000000000000).getLsbD j.val = false := by decide +kernel
        have := hall ⟨i, by omega⟩
        rwa [← BitVec.getLsbD_eq_getElem]
      rw [this, Bool.xor_false]
  show (v ^^^ 0x8000000000000000) &&& 0x7fffffffffffffff < 0x7ff0000000000000
  rw [e]
  exact h
theorem own_u_fin (x s i : Int32) : Fl.Fin64 (own_u x s i) := by
  unfold own_u
  split
  · exact Fl.i2d_fin x
  · exact (by decide : (0 : UInt64) &&& 0x7fffffffffffffff < 0x7ff0000000000000)
theorem own_v_fin (x s i : Int32) : Fl.Fin64 (own_v x s i) := by
  unfold own_v
  split
  · exact own_u_fin x s i
  · exact own_neg (own_u_fin x s i)
theorem own_0_fin : Fl.Fin64 (0 : UInt64) := (by decide : (0 : UInt64) &&& 0x7fffffffffffffff < 0x7ff0000000000000)
theorem own_1_fin : Fl.Fin64 (4607182418800017408 : UInt64) := (by decide : (4607182418800017408 : UInt64) &&& 0x7fffffffffffffff < 0x7ff0000000000000)
theorem own_1_nz : Fl.Nz64 (4607182418800017408 : UInt64) := (by decide : (4607182418800017408 : UInt64) &&& 0x7fffffffffffffff ≠ 0)
theorem own_r_nn {v : UInt64} (h : Fl.Fin64 v) : Fl.NoNaN64 (FP.dadd v (0 : UInt64)) := Fl.dadd_out h.noNaN own_0_fin
theorem own_r_eq {v : UInt64} (h : Fl.Fin64 v) : (v = 9223372036854775808 ∧ own_r v = 0) ∨ own_r v = v := by
  by_cases q : v = 9223372036854775808
  · subst q
    exact Or.inl ⟨rfl, by unfold own_r; decide +kernel⟩
  · refine Or.inr ?_
    exact FP.Core.dadd_zero ((FP.Core.notNaN_iff v).mp (Fl.noNaN64_no.mp h.noNaN)) q
theorem own_A {v : UInt64} (h : Fl.Fin64 v) (o : CmpOp) : cmpValue (FP.dcmp (own_r v) v) o = (0 : Int32) := by
  rcases own_r_eq h with ⟨e1, e2⟩ | e
  · rw [e2, e1]
    cases o <;> decide +kernel
  · rw [e]
    exact dcmpV_self h.noNaN o
theorem own_1v {v : UInt64} (h : Fl.Fin64 v) : Fl.NoNaN64 (FP.ddiv (4607182418800017408 : UInt64) v) := Fl.ddiv_out0 own_1_fin own_1_nz h.noNaN
theorem own_1r {v : UInt64} (h : Fl.Fin64 v) : Fl.NoNaN64 (FP.ddiv (4607182418800017408 : UInt64) (own_r v)) := Fl.ddiv_out0 own_1_fin own_1_nz (own_r_nn h)
theorem own_zero {v : UInt64} (h : Fl.Fin64 v) (q : cmpValue (FP.dcmp v (0 : UInt64)) .l = (0 : Int32)) : v = 0 ∨ v = 9223372036854775808 := by
  have hn := (FP.Core.notNaN_iff v).mp (Fl.noNaN64_no.mp h.noNaN)
  have h0 : FP.Core.val64 0 ≠ .nan := (FP.Core.notNaN_iff 0).mp (Fl.noNaN64_no.mp own_0_fin.noNaN)
  have e : FP.dcmp v (0 : UInt64) = some .eq := by
    rw [cmpV_l] at q
    cases hc : FP.dcmp v (0 : UInt64) with
    | none => rw [hc] at q; exact absurd q (by decide)
    | some o =>
      rw [hc] at q
      cases o
      · exact absurd q (by decide)
      · rfl
      · exact absurd q (by decide)
  have k := (FP.Core.dcmp_eq_key hn h0).mp e
  have k0 : FP.Core.dkey 0 = 0 := by decide +kernel
  rw [k0] at k
  have hl := v.toNat_lt
  unfold FP.Core.dkey at k
  have hv : v.toNat % 2 ^ 63 = 0 := by
    first
    | (split at k <;> omega)
    | omega
  have : v.toNat = 0 ∨ v.toNat = 9223372036854775808 := by omega
  rcases this with t | t
  · exact Or.inl (UInt64.toNat_inj.mp t)
  · exact Or.inr (UInt64.toNat_inj.mp t)
theorem own_C {v : UInt64} (h : Fl.Fin64 v) (q : cmpValue (FP.dcmp v (0 : UInt64)) .l = (0 : Int32)) : cmpValue (FP.dcmp (0 : UInt64) (FP.ddiv (4607182418800017408 : UInt64) (own_r v))) .g = (-1 : Int32) := by
  rcases own_zero h q with rfl | rfl <;> (unfold own_r; decide +kernel)
def own_n (p : Int32) : Int32 := (p &&& (3 : Int32))
theorem own_nf (p : Int32) : own_n p = (0 : Int32) ∨ own_n p = (1 : Int32) ∨ own_n p = (2 : Int32) ∨ own_n p = (3 : Int32) := by
  have h : (p &&& (3 : Int32)).toBitVec.toNat ≤ 3 := by
    rw [Int32.toBitVec_and, BitVec.toNat_and]
    exact Nat.le_trans Nat.and_le_right (by decide)
  have e : ∀ n : Nat, (p &&& (3 : Int32)).toBitVec.toNat = n → n < 4 → own_n p = Int32.ofNat n := fun n q hn => by
    apply Int32.toBitVec_inj.mp
    apply BitVec.eq_of_toNat_eq
    show (p &&& (3 : Int32)).toBitVec.toNat = (BitVec.ofNat 32 n).toNat
    rw [q, BitVec.toNat_ofNat, Nat.mod_eq_of_lt (by omega)]
  rcases (by omega : (p &&& (3 : Int32)).toBitVec.toNat = 0 ∨ (p &&& (3 : Int32)).toBitVec.toNat = 1 ∨ (p &&& (3 : Int32)).toBitVec.toNat = 2 ∨ (p &&& (3 : Int32)).toBitVec.toNat = 3) with q | q | q | q
  · exact Or.inl (e 0 q (by decide))
  · exact Or.inr (Or.inl (e 1 q (by decide)))
  · exact Or.inr (Or.inr (Or.inl (e 2 q (by decide))))
  · exact Or.inr (Or.inr (Or.inr (e 3 q (by decide))))
theorem pn_0 : plainName "com/example/vidura/vidura/stats/ValuesSignedZeroFreePinLaw" = true := by first | (simp [plainName, overriddenIn]; done) | decide +kernel
theorem ef_1 (m : MethodId) (p1 : Int32) (p2 : Int32) (p3 : Int32) : entryFrame m #[(.int p1), (.int p2), (.int p3)] 5 = (mkF m 0 #[.val (.int p1), .val (.int p2), .val (.int p3), .unset, .unset] []) := by first | (simp [entryFrame, mkF, argsToLocals, Value.category]; done) | rfl
theorem d1_0 : decode method_2_code 0 = .ok (.iload_n 1, 1) := by decide +kernel
theorem d1_1 : decode method_2_code 1 = .ok (.iload_n 2, 1) := by decide +kernel
theorem d1_2 : decode method_2_code 2 = .ok (.iconst 3, 1) := by decide +kernel
theorem d1_3 : decode method_2_code 3 = .ok (.iadd, 1) := by decide +kernel
theorem d1_4 : decode method_2_code 4 = .ok (.ishr, 1) := by decide +kernel
theorem d1_5 : decode method_2_code 5 = .ok (.iconst 1, 1) := by decide +kernel
theorem d1_6 : decode method_2_code 6 = .ok (.iand, 1) := by decide +kernel
theorem d1_7 : decode method_2_code 7 = .ok (.ifCond .eq 7, 3) := by decide +kernel
theorem d1_14 : decode method_2_code 14 = .ok (.iload_n 0, 1) := by decide +kernel
theorem d1_15 : decode method_2_code 15 = .ok (.i2d, 1) := by decide +kernel
theorem d1_10 : decode method_2_code 10 = .ok (.dconst 0, 1) := by decide +kernel
theorem d1_11 : decode method_2_code 11 = .ok (.goto 5, 3) := by decide +kernel
theorem d1_16 : decode method_2_code 16 = .ok (.dstore_n 3, 1) := by decide +kernel
theorem d1_17 : decode method_2_code 17 = .ok (.iload_n 1, 1) := by decide +kernel
theorem d1_18 : decode method_2_code 18 = .ok (.iload_n 2, 1) := by decide +kernel
theorem d1_19 : decode method_2_code 19 = .ok (.ishr, 1) := by decide +kernel
theorem d1_20 : decode method_2_code 20 = .ok (.iconst 1, 1) := by decide +kernel
theorem d1_21 : decode method_2_code 21 = .ok (.iand, 1) := by decide +kernel
theorem d1_22 : decode method_2_code 22 = .ok (.ifCond .eq 6, 3) := by decide +kernel
theorem d1_25 : decode method_2_code 25 = .ok (.dload_n 3, 1) := by decide +kernel
theorem d1_26 : decode method_2_code 26 = .ok (.dneg, 1) := by decide +kernel
theorem d1_27 : decode method_2_code 27 = .ok (.dstore_n 3, 1) := by decide +kernel
theorem d1_28 : decode method_2_code 28 = .ok (.dload_n 3, 1) := by decide +kernel
theorem d1_29 : decode method_2_code 29 = .ok (.dreturn, 1) := by decide +kernel
def Q1 (Z : State) (p1 : Int32) (p2 : Int32) (p3 : Int32) (h0 : Heap) (n0 : Nat) (v : Option Value) (h : Heap) (L : List Loc) : Prop := v = some (.double (own_v p1 p2 p3)) ∧ Fr n0 L ∧ h = h0
set_option maxRecDepth 65536 in
set_option maxHeartbeats 40000000 in
theorem rm1 (l : Launch) (Z : State) (a0 : Array Value) (hw : ∀ d ∈ tables_1, d.before a0 Z = true) (ws : List Jvm.Cond) (p1 : Int32) (p2 : Int32) (p3 : Int32) (h0 : Heap) (n0 : Nat) (Z0 : n0 ≤ h0.size) :
    MetFree l (⟨"com/example/vidura/vidura/stats/ValuesSignedZeroFreePinLaw", "value", "(III)D"⟩ : MethodName) (head1 (Jvm.Cond.code (⟨"com/example/vidura/vidura/stats/ValuesSignedZeroFreePinLaw", "value", "(III)D"⟩ : MethodName) method_2_code 5 (some .double) :: ws) ({ frames := 0, cells := 0, slots := 0, locals := 0 } : Room)) (fun a U => a = #[(.int p1), (.int p2), (.int p3)] ∧ Z.Warmed39 U.vm ∧ U.heap = h0) (fun _ _ _ _ _ => True) (fun _ U o U' => ∃ v L, o = .returned v ∧ Q1 Z p1 p2 p3 h0 n0 v U'.heap L ∧ FrameEnd U o U' L ({ frames := 0, cells := 0, slots := 0, locals := 0 } : Room).cells ({ frames := 0, cells := 0, slots := 0, locals := 0 } : Room).slots) := by
  refine MetFree.of_bodySF (plainFor_of_name pn_0) hisR ?_
  intro p e s m args below meth c s₁ Bd hml0 hP hK
  obtain ⟨rfl, hZ, hh⟩ := hP
  have hx := Bd.exec
  have hby := Bd.bytes
  have hml : c.maxLocals = 5 := hml0
  have hown : s.vm.findClass "com/example/vidura/vidura/stats/ValuesSignedZeroFreePinLaw" = some m.cls := findClass_of_methodNamed Bd.named
  have hnm := (name_of_methodNamed Bd.named Bd.method).1
  have X0 : Stand p l e ({ frames := 0, cells := 0, slots := 0, locals := 0 } : Room) s m #[(.int p1), (.int p2), (.int p3)] below meth c s₁ [] 0 0 := Stand.of_body Bd
  have e0 : s₁.heap = h0 := by rw [← hh, Bd.state]; rfl
  have N0 := Fr.nil n0
  have pre0 : ∀ t, Steps p.tables e below (s₁.setTop (mkF m 0 #[.val (.int p1), .val (.int p2), .val (.int p3), .unset, .unset] [])) t → Steps p.tables e below (s₁.setTop (entryFrame m #[(.int p1), (.int p2), (.int p3)] 5)) t := fun t k => castTop (ef_1 m p1 p2 p3) k
  have pre1 : ∀ t, Steps p.tables e below (s₁.setTop (mkF m 7 #[.val (.int p1), .val (.int p2), .val (.int p3), .unset, .unset] [(.int (own_b p2 (p3 + (3 : Int32))))])) t → Steps p.tables e below (s₁.setTop (entryFrame m #[(.int p1), (.int p2), (.int p3)] 5)) t := fun t kt => by
    refine pre0 _ ?_
    show Steps p.tables e below (s₁.setTop (mkF m 0 #[.val (.int p1), .val (.int p2), .val (.int p3), .unset, .unset] [])) _
    refine XS.iloadN X0.here hx rfl (hb hby d1_0) rfl ?_
    show Steps p.tables e below (s₁.setTop (mkF m 1 #[.val (.int p1), .val (.int p2), .val (.int p3), .unset, .unset] [(.int p2)])) _
    refine XS.iloadN X0.here hx rfl (hb hby d1_1) rfl ?_
    show Steps p.tables e below (s₁.setTop (mkF m 2 #[.val (.int p1), .val (.int p2), .val (.int p3), .unset, .unset] [(.int p3), (.int p2)])) _
    refine XS.iconst X0.here hx rfl (hb hby d1_2) ?_
    show Steps p.tables e below (s₁.setTop (mkF m 3 #[.val (.int p1), .val (.int p2), .val (.int p3), .unset, .unset] [(.int (3 : Int32)), (.int p3), (.int p2)])) _
    refine XS.iadd X0.here hx rfl (hb hby d1_3) rfl ?_
    show Steps p.tables e below (s₁.setTop (mkF m 4 #[.val (.int p1), .val (.int p2), .val (.int p3), .unset, .unset] [(.int (p3 + (3 : Int32))), (.int p2)])) _
    refine XS.ishr X0.here hx rfl (hb hby d1_4) rfl ?_
    show Steps p.tables e below (s₁.setTop (mkF m 5 #[.val (.int p1), .val (.int p2), .val (.int p3), .unset, .unset] [(.int (p2 >>> ((p3 + (3 : Int32)) &&& 31)))])) _
    refine XS.iconst X0.here hx rfl (hb hby d1_5) ?_
    show Steps p.tables e below (s₁.setTop (mkF m 6 #[.val (.int p1), .val (.int p2), .val (.int p3), .unset, .unset] [(.int (1 : Int32)), (.int (p2 >>> ((p3 + (3 : Int32)) &&& 31)))])) _
    refine XS.iand X0.here hx rfl (hb hby d1_6) rfl ?_
    show Steps p.tables e below (s₁.setTop (mkF m 7 #[.val (.int p1), .val (.int p2), .val (.int p3), .unset, .unset] [(.int (own_b p2 (p3 + (3 : Int32))))])) _
    exact kt
  have pre2 : ∀ t, Steps p.tables e below (s₁.setTop (mkF m 16 #[.val (.int p1), .val (.int p2), .val (.int p3), .unset, .unset] [(.double (own_u p1 p2 p3))])) t → Steps p.tables e below (s₁.setTop (entryFrame m #[(.int p1), (.int p2), (.int p3)] 5)) t := fun t kt => by
    by_cases c1 : (own_b p2 (p3 + (3 : Int32))) = (0 : Int32)
    · have pre3 : ∀ t, Steps p.tables e below (s₁.setTop (mkF m 16 #[.val (.int p1), .val (.int p2), .val (.int p3), .unset, .unset] [(.double (FP.i2d p1))])) t → Steps p.tables e below (s₁.setTop (entryFrame m #[(.int p1), (.int p2), (.int p3)] 5)) t := fun t kt => by
        refine pre1 _ ?_
        show Steps p.tables e below (s₁.setTop (mkF m 7 #[.val (.int p1), .val (.int p2), .val (.int p3), .unset, .unset] [(.int (own_b p2 (p3 + (3 : Int32))))])) _
        refine XS.ifYes X0.here hx rfl (pc0 := 7) (pc' := 14) rfl (hb hby d1_7) rfl ((if0 _ _).trans (teq (c1 : (own_b p2 (p3 + (3 : Int32))) = (0 : Int32))).1) (by decide) (by decide) ?_
        show Steps p.tables e below (s₁.setTop (mkF m 14 #[.val (.int p1), .val (.int p2), .val (.int p3), .unset, .unset] [])) _
        refine XS.iloadN X0.here hx rfl (hb hby d1_14) rfl ?_
        show Steps p.tables e below (s₁.setTop (mkF m 15 #[.val (.int p1), .val (.int p2), .val (.int p3), .unset, .unset] [(.int p1)])) _
        refine XS.i2dS X0.here hx rfl (hb hby d1_15) rfl rfl ?_
        exact kt
      rw [show (own_u p1 p2 p3) = (FP.i2d p1) from if_pos c1] at kt
      exact pre3 _ kt
    · have pre4 : ∀ t, Steps p.tables e below (s₁.setTop (mkF m 16 #[.val (.int p1), .val (.int p2), .val (.int p3), .unset, .unset] [(.double (0 : UInt64))])) t → Steps p.tables e below (s₁.setTop (entryFrame m #[(.int p1), (.int p2), (.int p3)] 5)) t := fun t kt => by
        refine pre1 _ ?_
        show Steps p.tables e below (s₁.setTop (mkF m 7 #[.val (.int p1), .val (.int p2), .val (.int p3), .unset, .unset] [(.int (own_b p2 (p3 + (3 : Int32))))])) _
        refine XS.ifNo X0.here hx rfl (hb hby d1_7) rfl ((if0 _ _).trans (feq (c1 : ¬ ((own_b p2 (p3 + (3 : Int32))) = (0 : Int32)))).1) ?_
        show Steps p.tables e below (s₁.setTop (mkF m 10 #[.val (.int p1), .val (.int p2), .val (.int p3), .unset, .unset] [])) _
        refine XS.dconst0 X0.here hx rfl (hb hby d1_10) rfl ?_
        show Steps p.tables e below (s₁.setTop (mkF m 11 #[.val (.int p1), .val (.int p2), .val (.int p3), .unset, .unset] [(.double (0 : UInt64))])) _
        refine XS.goto X0.here hx rfl (pc0 := 11) (pc' := 16) rfl (hb hby d1_11) (by decide) (by decide) ?_
        exact kt
      rw [show (own_u p1 p2 p3) = (0 : UInt64) from if_neg c1] at kt
      exact pre4 _ kt
  have pre5 : ∀ t, Steps p.tables e below (s₁.setTop (mkF m 22 #[.val (.int p1), .val (.int p2), .val (.int p3), .val (.double (own_u p1 p2 p3)), .second] [(.int (own_b p2 p3))])) t → Steps p.tables e below (s₁.setTop (entryFrame m #[(.int p1), (.int p2), (.int p3)] 5)) t := fun t kt => by
    refine pre2 _ ?_
    show Steps p.tables e below (s₁.setTop (mkF m 16 #[.val (.int p1), .val (.int p2), .val (.int p3), .unset, .unset] [(.double (own_u p1 p2 p3))])) _
    refine XS.dstoreN X0.here hx rfl (hb hby d1_16) rfl (l' := #[.val (.int p1), .val (.int p2), .val (.int p3), .val (.double (own_u p1 p2 p3)), .second]) rfl ?_
    show Steps p.tables e below (s₁.setTop (mkF m 17 #[.val (.int p1), .val (.int p2), .val (.int p3), .val (.double (own_u p1 p2 p3)), .second] [])) _
    refine XS.iloadN X0.here hx rfl (hb hby d1_17) rfl ?_
    show Steps p.tables e below (s₁.setTop (mkF m 18 #[.val (.int p1), .val (.int p2), .val (.int p3), .val (.double (own_u p1 p2 p3)), .second] [(.int p2)])) _
    refine XS.iloadN X0.here hx rfl (hb hby d1_18) rfl ?_
    show Steps p.tables e below (s₁.setTop (mkF m 19 #[.val (.int p1), .val (.int p2), .val (.int p3), .val (.double (own_u p1 p2 p3)), .second] [(.int p3), (.int p2)])) _
    refine XS.ishr X0.here hx rfl (hb hby d1_19) rfl ?_
    show Steps p.tables e below (s₁.setTop (mkF m 20 #[.val (.int p1), .val (.int p2), .val (.int p3), .val (.double (own_u p1 p2 p3)), .second] [(.int (p2 >>> (p3 &&& 31)))])) _
    refine XS.iconst X0.here hx rfl (hb hby d1_20) ?_
    show Steps p.tables e below (s₁.setTop (mkF m 21 #[.val (.int p1), .val (.int p2), .val (.int p3), .val (.double (own_u p1 p2 p3)), .second] [(.int (1 : Int32)), (.int (p2 >>> (p3 &&& 31)))])) _
    refine XS.iand X0.here hx rfl (hb hby d1_21) rfl ?_
    show Steps p.tables e below (s₁.setTop (mkF m 22 #[.val (.int p1), .val (.int p2), .val (.int p3), .val (.double (own_u p1 p2 p3)), .second] [(.int (own_b p2 p3))])) _
    exact kt
  have pre6 : ∀ t, Steps p.tables e below (s₁.setTop (mkF m 28 #[.val (.int p1), .val (.int p2), .val (.int p3), .val (.double (own_v p1 p2 p3)), .second] [])) t → Steps p.tables e below (s₁.setTop (entryFrame m #[(.int p1), (.int p2), (.int p3)] 5)) t := fun t kt => by
    by_cases c1 : (own_b p2 p3) = (0 : Int32)
    · have pre7 : ∀ t, Steps p.tables e below (s₁.setTop (mkF m 28 #[.val (.int p1), .val (.int p2), .val (.int p3), .val (.double (own_u p1 p2 p3)), .second] [])) t → Steps p.tables e below (s₁.setTop (entryFrame m #[(.int p1), (.int p2), (.int p3)] 5)) t := fun t kt => by
        refine pre5 _ ?_
        show Steps p.tables e below (s₁.setTop (mkF m 22 #[.val (.int p1), .val (.int p2), .val (.int p3), .val (.double (own_u p1 p2 p3)), .second] [(.int (own_b p2 p3))])) _
        refine XS.ifYes X0.here hx rfl (pc0 := 22) (pc' := 28) rfl (hb hby d1_22) rfl ((if0 _ _).trans (teq (c1 : (own_b p2 p3) = (0 : Int32))).1) (by decide) (by decide) ?_
        exact kt
      rw [show (own_v p1 p2 p3) = (own_u p1 p2 p3) from if_pos c1] at kt
      exact pre7 _ kt
    · have pre8 : ∀ t, Steps p.tables e below (s₁.setTop (mkF m 28 #[.val (.int p1), .val (.int p2), .val (.int p3), .val (.double (FP.dneg (own_u p1 p2 p3))), .second] [])) t → Steps p.tables e below (s₁.setTop (entryFrame m #[(.int p1), (.int p2), (.int p3)] 5)) t := fun t kt => by
        refine pre5 _ ?_
        show Steps p.tables e below (s₁.setTop (mkF m 22 #[.val (.int p1), .val (.int p2), .val (.int p3), .val (.double (own_u p1 p2 p3)), .second] [(.int (own_b p2 p3))])) _
        refine XS.ifNo X0.here hx rfl (hb hby d1_22) rfl ((if0 _ _).trans (feq (c1 : ¬ ((own_b p2 p3) = (0 : Int32)))).1) ?_
        show Steps p.tables e below (s₁.setTop (mkF m 25 #[.val (.int p1), .val (.int p2), .val (.int p3), .val (.double (own_u p1 p2 p3)), .second] [])) _
        refine XS.dloadN X0.here hx rfl (hb hby d1_25) rfl ?_
        show Steps p.tables e below (s₁.setTop (mkF m 26 #[.val (.int p1), .val (.int p2), .val (.int p3), .val (.double (own_u p1 p2 p3)), .second] [(.double (own_u p1 p2 p3))])) _
        refine XS.dnegS X0.here hx rfl (hb hby d1_26) rfl rfl ?_
        show Steps p.tables e below (s₁.setTop (mkF m 27 #[.val (.int p1), .val (.int p2), .val (.int p3), .val (.double (own_u p1 p2 p3)), .second] [(.double (FP.dneg (own_u p1 p2 p3)))])) _
        refine XS.dstoreN X0.here hx rfl (hb hby d1_27) rfl (l' := #[.val (.int p1), .val (.int p2), .val (.int p3), .val (.double (FP.dneg (own_u p1 p2 p3))), .second]) rfl ?_
        exact kt
      rw [show (own_v p1 p2 p3) = (FP.dneg (own_u p1 p2 p3)) from if_neg c1] at kt
      exact pre8 _ kt
  have pre9 : ∀ t, Steps p.tables e below (s₁.setTop (mkF m 29 #[.val (.int p1), .val (.int p2), .val (.int p3), .val (.double (own_v p1 p2 p3)), .second] [(.double (own_v p1 p2 p3))])) t → Steps p.tables e below (s₁.setTop (entryFrame m #[(.int p1), (.int p2), (.int p3)] 5)) t := fun t kt => by
    refine pre6 _ ?_
    show Steps p.tables e below (s₁.setTop (mkF m 28 #[.val (.int p1), .val (.int p2), .val (.int p3), .val (.double (own_v p1 p2 p3)), .second] [])) _
    refine XS.dloadN X0.here hx rfl (hb hby d1_28) rfl ?_
    exact kt
  obtain ⟨fs, hr, hrun, hended, hW, hsame⟩ := X0.leave (v := (some (.double (own_v p1 p2 p3)))) (fun h => by rw [Bd.returns] at h; cases h)
  refine ⟨_, _, pre9 _ ?_, hrun, hended, _, _, rfl, ?_, ⟨_, rfl⟩, hW, hsame.mono (by decide) (by decide)⟩
  · show Steps p.tables e below (s₁.setTop (mkF m 29 #[.val (.int p1), .val (.int p2), .val (.int p3), .val (.double (own_v p1 p2 p3)), .second] [(.double (own_v p1 p2 p3))])) _
    exact retOut X0 hx (t := .double) Bd.returns rfl (Or.inr (Or.inr (Or.inl ⟨rfl, rfl, _, rfl⟩))) (hb hby d1_29) hr
  · show Q1 Z p1 p2 p3 h0 n0 _ s₁.heap _
    rw [e0]
    exact ⟨rfl, N0, rfl⟩
theorem pn_1 : plainName "com/example/vidura/vidura/stats/Values" = true := by first | (simp [plainName, overriddenIn]; done) | decide +kernel
theorem ef_2m0 (m : MethodId) (a1 : Addr) : entryFrame m #[(.ref a1)] 3 = (mkF m 0 #[.val (.ref a1), .unset, .unset] []) := by first | (simp [entryFrame, mkF, argsToLocals, Value.category]; done) | rfl
theorem d2_0 : decode prog_125_method_6_code 0 = .ok (.aload_n 0, 1) := by decide +kernel
theorem d2_1 : decode prog_125_method_6_code 1 = .ok (.arraylength, 1) := by decide +kernel
theorem d2_2 : decode prog_125_method_6_code 2 = .ok (.newarray .double, 2) := by decide +kernel
theorem d2_4 : decode prog_125_method_6_code 4 = .ok (.astore_n 1, 1) := by decide +kernel
theorem d2_5 : decode prog_125_method_6_code 5 = .ok (.iconst 0, 1) := by decide +kernel
theorem d2_6 : decode prog_125_method_6_code 6 = .ok (.istore_n 2, 1) := by decide +kernel
theorem d2_7 : decode prog_125_method_6_code 7 = .ok (.iload_n 2, 1) := by decide +kernel
theorem d2_8 : decode prog_125_method_6_code 8 = .ok (.aload_n 0, 1) := by decide +kernel
theorem d2_9 : decode prog_125_method_6_code 9 = .ok (.arraylength, 1) := by decide +kernel
theorem d2_10 : decode prog_125_method_6_code 10 = .ok (.if_icmp .ge 17, 3) := by decide +kernel
theorem d2_27 : decode prog_125_method_6_code 27 = .ok (.aload_n 1, 1) := by decide +kernel
theorem d2_28 : decode prog_125_method_6_code 28 = .ok (.areturn, 1) := by decide +kernel
def Q2m0 (Z : State) (a1 : Addr) (k1 : ClassId) (h0 : Heap) (n0 : Nat) (v : Option Value) (h : Heap) (L : List Loc) : Prop := v = some (.ref h0.size) ∧ Fr n0 L ∧ Keep h0 h [] ∧ ∃ k : ClassId, Arv Z h h0.size k .double (0 : Int32) [] (.double 0)
set_option maxRecDepth 65536 in
set_option maxHeartbeats 40000000 in
theorem rm2m0 (l : Launch) (Z : State) (a0 : Array Value) (hw : ∀ d ∈ tables_1, d.before a0 Z = true) (ws : List Jvm.Cond) (a1 : Addr) (k1 : ClassId) (h0 : Heap) (n0 : Nat) (Z0 : n0 ≤ h0.size) (V1 : Arv Z h0 a1 k1 .double (0 : Int32) [] (.double 0)) :
    MetFree l (⟨"com/example/vidura/vidura/stats/Values", "signedZeroFree", "([D)[D"⟩ : MethodName) (head1 (Jvm.Cond.code (⟨"com/example/vidura/vidura/stats/Values", "signedZeroFree", "([D)[D"⟩ : MethodName) prog_125_method_6_code 3 (some (.array .double)) :: ws) ({ frames := 0, cells := 1, slots := 0, locals := 0 } : Room)) (fun a U => a = #[(.ref a1)] ∧ Z.Warmed39 U.vm ∧ U.heap = h0) (fun _ _ _ _ _ => True) (fun _ U o U' => ∃ v L, o = .returned v ∧ Q2m0 Z a1 k1 h0 n0 v U'.heap L ∧ FrameEnd U o U' L ({ frames := 0, cells := 1, slots := 0, locals := 0 } : Room).cells ({ frames := 0, cells := 1, slots := 0, locals := 0 } : Room).slots) := by
  refine MetFree.of_bodySF (plainFor_of_name pn_1) hisR ?_
  intro p e s m args below meth c s₁ Bd hml0 hP hK
  obtain ⟨rfl, hZ, hh⟩ := hP
  have hx := Bd.exec
  have hby := Bd.bytes
  have hml : c.maxLocals = 3 := hml0
  have hown : s.vm.findClass "com/example/vidura/vidura/stats/Values" = some m.cls := findClass_of_methodNamed Bd.named
  have hnm := (name_of_methodNamed Bd.named Bd.method).1
  have X0 : Stand p l e ({ frames := 0, cells := 1, slots := 0, locals := 0 } : Room) s m #[(.ref a1)] below meth c s₁ [] 0 0 := Stand.of_body Bd
  have e0 : s₁.heap = h0 := by rw [← hh, Bd.state]; rfl
  have N0 := Fr.nil n0
  have K0 : Keep h0 h0 [] := Keep.refl _ _
  have pre0 : ∀ t, Steps p.tables e below (s₁.setTop (mkF m 0 #[.val (.ref a1), .unset, .unset] [])) t → Steps p.tables e below (s₁.setTop (entryFrame m #[(.ref a1)] 3)) t := fun t k => castTop (ef_2m0 m a1) k
  have pre1 : ∀ t, Steps p.tables e below (s₁.setTop (mkF m 1 #[.val (.ref a1), .unset, .unset] [(.ref a1)])) t → Steps p.tables e below (s₁.setTop (entryFrame m #[(.ref a1)] 3)) t := fun t kt => by
    refine pre0 _ ?_
    show Steps p.tables e below (s₁.setTop (mkF m 0 #[.val (.ref a1), .unset, .unset] [])) _
    refine XS.aloadN X0.here hx rfl (hb hby d2_0) rfl rfl ?_
    exact kt
  obtain ⟨cl2, Ar2, qk2, Sz2, Nn2, Hh2, Gg2⟩ := id V1
  have pre3 : ∀ t, Steps p.tables e below (s₁.setTop (mkF m 2 #[.val (.ref a1), .unset, .unset] [(.int (0 : Int32))])) t → Steps p.tables e below (s₁.setTop (entryFrame m #[(.ref a1)] 3)) t := fun t kt => by
    refine pre1 _ ?_
    show Steps p.tables e below (s₁.setTop (mkF m 1 #[.val (.ref a1), .unset, .unset] [(.ref a1)])) _
    refine X0.arraylength hx (by rw [e0]; exact Ar2.1) (State.isArrayOf_alike hZ.alike Ar2.2.1) (g := (mkF m 1 #[.val (.ref a1), .unset, .unset] [(.ref a1)])) rfl rfl (hb hby d2_1) _ ?_
    rw [len_of Sz2 Nn2]
    exact kt
  obtain ⟨T4, h4, k4, X4, e4, E4, A4, st4⟩ := newP X0 hx hZ (hw _ (List.mem_of_getElem? (i := 4) rfl)) e0 (g := (mkF m 2 #[.val (.ref a1), .unset, .unset] [(.int (0 : Int32))])) rfl (hb hby d2_2) rfl (by decide) (cap := 0) (by decide) (by decide) (by decide) (by decide)
  obtain ⟨b4, gq4⟩ : ∃ z, z = h0.size := ⟨_, rfl⟩
  rw [← gq4] at A4 st4
  have gg_b4 : n0 ≤ b4 := Nat.le_trans Z0 (Nat.le_of_eq gq4.symm)
  have sz_b4 : h0.size ≤ b4 := Nat.le_trans K0.1 (Nat.le_of_eq gq4.symm)
  have V4 : Arv Z h4 b4 k4 .double (0 : Int32) [] (.double 0) := Arv.new A4 (by decide)
  have pre5 : ∀ t, Steps p.tables e below (T4.setTop (mkF m 4 #[.val (.ref a1), .unset, .unset] [(.ref b4)])) t → Steps p.tables e below (s₁.setTop (entryFrame m #[(.ref a1)] 3)) t := fun t kt => pre3 _ (st4 _ kt)
  have pre6 : ∀ t, Steps p.tables e below (T4.setTop (mkF m 9 #[.val (.ref a1), .val (.ref b4), .val (.int (0 : Int32))] [(.ref a1), (.int (0 : Int32))])) t → Steps p.tables e below (s₁.setTop (entryFrame m #[(.ref a1)] 3)) t := fun t kt => by
    refine pre5 _ ?_
    show Steps p.tables e below (T4.setTop (mkF m 4 #[.val (.ref a1), .unset, .unset] [(.ref b4)])) _
    refine XS.astoreN X4.here hx rfl (hb hby d2_4) rfl rfl (l' := #[.val (.ref a1), .val (.ref b4), .unset]) rfl ?_
    show Steps p.tables e below (T4.setTop (mkF m 5 #[.val (.ref a1), .val (.ref b4), .unset] [])) _
    refine XS.iconst X4.here hx rfl (hb hby d2_5) ?_
    show Steps p.tables e below (T4.setTop (mkF m 6 #[.val (.ref a1), .val (.ref b4), .unset] [(.int (0 : Int32))])) _
    refine XS.istoreN X4.here hx rfl (hb hby d2_6) rfl (l' := #[.val (.ref a1), .val (.ref b4), .val (.int (0 : Int32))]) rfl ?_
    show Steps p.tables e below (T4.setTop (mkF m 7 #[.val (.ref a1), .val (.ref b4), .val (.int (0 : Int32))] [])) _
    refine XS.iloadN X4.here hx rfl (hb hby d2_7) rfl ?_
    show Steps p.tables e below (T4.setTop (mkF m 8 #[.val (.ref a1), .val (.ref b4), .val (.int (0 : Int32))] [(.int (0 : Int32))])) _
    refine XS.aloadN X4.here hx rfl (hb hby d2_8) rfl rfl ?_
    exact kt
  have f7 := (V1.ext E4)
  obtain ⟨cl8, Ar8, qk8, Sz8, Nn8, Hh8, Gg8⟩ := id f7
  have k9 : Keep h0 h4 [] := (K0.ext E4)
  have pre10 : ∀ t, Steps p.tables e below (T4.setTop (mkF m 28 #[.val (.ref a1), .val (.ref b4), .val (.int (0 : Int32))] [(.ref b4)])) t → Steps p.tables e below (s₁.setTop (entryFrame m #[(.ref a1)] 3)) t := fun t kt => by
    refine pre6 _ ?_
    show Steps p.tables e below (T4.setTop (mkF m 9 #[.val (.ref a1), .val (.ref b4), .val (.int (0 : Int32))] [(.ref a1), (.int (0 : Int32))])) _
    refine X4.arraylength hx (by rw [e4]; exact Ar8.1) (State.isArrayOf_alike hZ.alike Ar8.2.1) (g := (mkF m 9 #[.val (.ref a1), .val (.ref b4), .val (.int (0 : Int32))] [(.ref a1), (.int (0 : Int32))])) rfl rfl (hb hby d2_9) _ ?_
    rw [len_of Sz8 Nn8]
    show Steps p.tables e below (T4.setTop (mkF m 10 #[.val (.ref a1), .val (.ref b4), .val (.int (0 : Int32))] [(.int (0 : Int32)), (.int (0 : Int32))])) _
    refine XS.icmpYes X4.here hx rfl (pc0 := 10) (pc' := 27) rfl (hb hby d2_10) rfl (flt (by decide : ¬ ((0 : Int32) < (0 : Int32)))).2.1 (by decide) (by decide) ?_
    show Steps p.tables e below (T4.setTop (mkF m 27 #[.val (.ref a1), .val (.ref b4), .val (.int (0 : Int32))] [])) _
    refine XS.aloadN X4.here hx rfl (hb hby d2_27) rfl rfl ?_
    exact kt
  obtain ⟨fs, hr, hrun, hended, hW, hsame⟩ := X4.leave (v := (some (.ref b4))) (fun h => by rw [Bd.returns] at h; cases h)
  refine ⟨_, _, pre10 _ ?_, hrun, hended, _, _, rfl, ?_, ⟨_, rfl⟩, hW, hsame.mono (by decide) (by decide)⟩
  · show Steps p.tables e below (T4.setTop (mkF m 28 #[.val (.ref a1), .val (.ref b4), .val (.int (0 : Int32))] [(.ref b4)])) _
    exact retOut X4 hx (t := (.array .double)) Bd.returns rfl (Or.inr (Or.inr (Or.inr (Or.inr ⟨rfl, rfl, rfl⟩)))) (hb hby d2_28) hr
  · show Q2m0 Z a1 k1 h0 n0 _ T4.heap _
    rw [e4]
    exact ⟨by rw [gq4], N0, k9, _, by rw [← gq4]; exact V4⟩
theorem ef_2m1 (m : MethodId) (a1 : Addr) : entryFrame m #[(.ref a1)] 3 = (mkF m 0 #[.val (.ref a1), .unset, .unset] []) := by first | (simp [entryFrame, mkF, argsToLocals, Value.category]; done) | rfl
theorem d2_13 : decode prog_125_method_6_code 13 = .ok (.aload_n 1, 1) := by decide +kernel
theorem d2_14 : decode prog_125_method_6_code 14 = .ok (.iload_n 2, 1) := by decide +kernel
theorem d2_15 : decode prog_125_method_6_code 15 = .ok (.aload_n 0, 1) := by decide +kernel
theorem d2_16 : decode prog_125_method_6_code 16 = .ok (.iload_n 2, 1) := by decide +kernel
theorem d2_17 : decode prog_125_method_6_code 17 = .ok (.daload, 1) := by decide +kernel
theorem d2_18 : decode prog_125_method_6_code 18 = .ok (.dconst 0, 1) := by decide +kernel
theorem d2_19 : decode prog_125_method_6_code 19 = .ok (.dadd, 1) := by decide +kernel
theorem d2_20 : decode prog_125_method_6_code 20 = .ok (.dastore, 1) := by decide +kernel
theorem d2_21 : decode prog_125_method_6_code 21 = .ok (.iinc 2 1, 3) := by decide +kernel
theorem d2_24 : decode prog_125_method_6_code 24 = .ok (.goto (-17), 3) := by decide +kernel
def Q2m1 (Z : State) (a1 : Addr) (k1 : ClassId) (x0 : UInt64) (h0 : Heap) (n0 : Nat) (v : Option Value) (h : Heap) (L : List Loc) : Prop := v = some (.ref h0.size) ∧ Fr n0 L ∧ Keep h0 h [] ∧ ∃ k : ClassId, Arv Z h h0.size k .double (1 : Int32) [(.double (own_r x0))] (.double 0)
set_option maxRecDepth 65536 in
set_option maxHeartbeats 40000000 in
theorem rm2m1 (l : Launch) (Z : State) (a0 : Array Value) (hw : ∀ d ∈ tables_1, d.before a0 Z = true) (ws : List Jvm.Cond) (a1 : Addr) (k1 : ClassId) (x0 : UInt64) (h0 : Heap) (n0 : Nat) (Z0 : n0 ≤ h0.size) (V1 : Arv Z h0 a1 k1 .double (1 : Int32) [(.double x0)] (.double 0)) (f0 : Fl.Fin64 x0) :
    MetFree l (⟨"com/example/vidura/vidura/stats/Values", "signedZeroFree", "([D)[D"⟩ : MethodName) (head1 (Jvm.Cond.code (⟨"com/example/vidura/vidura/stats/Values", "signedZeroFree", "([D)[D"⟩ : MethodName) prog_125_method_6_code 3 (some (.array .double)) :: ws) ({ frames := 0, cells := 1, slots := 1, locals := 0 } : Room)) (fun a U => a = #[(.ref a1)] ∧ Z.Warmed39 U.vm ∧ U.heap = h0) (fun _ _ _ _ _ => True) (fun _ U o U' => ∃ v L, o = .returned v ∧ Q2m1 Z a1 k1 x0 h0 n0 v U'.heap L ∧ FrameEnd U o U' L ({ frames := 0, cells := 1, slots := 1, locals := 0 } : Room).cells ({ frames := 0, cells := 1, slots := 1, locals := 0 } : Room).slots) := by
  refine MetFree.of_bodySF (plainFor_of_name pn_1) hisR ?_
  intro p e s m args below meth c s₁ Bd hml0 hP hK
  obtain ⟨rfl, hZ, hh⟩ := hP
  have hx := Bd.exec
  have hby := Bd.bytes
  have hml : c.maxLocals = 3 := hml0
  have hown : s.vm.findClass "com/example/vidura/vidura/stats/Values" = some m.cls := findClass_of_methodNamed Bd.named
  have hnm := (name_of_methodNamed Bd.named Bd.method).1
  have X0 : Stand p l e ({ frames := 0, cells := 1, slots := 1, locals := 0 } : Room) s m #[(.ref a1)] below meth c s₁ [] 0 0 := Stand.of_body Bd
  have e0 : s₁.heap = h0 := by rw [← hh, Bd.state]; rfl
  have N0 := Fr.nil n0
  have K0 : Keep h0 h0 [] := Keep.refl _ _
  have pre0 : ∀ t, Steps p.tables e below (s₁.setTop (mkF m 0 #[.val (.ref a1), .unset, .unset] [])) t → Steps p.tables e below (s₁.setTop (entryFrame m #[(.ref a1)] 3)) t := fun t k => castTop (ef_2m1 m a1) k
  have pre1 : ∀ t, Steps p.tables e below (s₁.setTop (mkF m 1 #[.val (.ref a1), .unset, .unset] [(.ref a1)])) t → Steps p.tables e below (s₁.setTop (entryFrame m #[(.ref a1)] 3)) t := fun t kt => by
    refine pre0 _ ?_
    show Steps p.tables e below (s₁.setTop (mkF m 0 #[.val (.ref a1), .unset, .unset] [])) _
    refine XS.aloadN X0.here hx rfl (hb hby d2_0) rfl rfl ?_
    exact kt
  obtain ⟨cl2, Ar2, qk2, Sz2, Nn2, Hh2, Gg2⟩ := id V1
  have pre3 : ∀ t, Steps p.tables e below (s₁.setTop (mkF m 2 #[.val (.ref a1), .unset, .unset] [(.int (1 : Int32))])) t → Steps p.tables e below (s₁.setTop (entryFrame m #[(.ref a1)] 3)) t := fun t kt => by
    refine pre1 _ ?_
    show Steps p.tables e below (s₁.setTop (mkF m 1 #[.val (.ref a1), .unset, .unset] [(.ref a1)])) _
    refine X0.arraylength hx (by rw [e0]; exact Ar2.1) (State.isArrayOf_alike hZ.alike Ar2.2.1) (g := (mkF m 1 #[.val (.ref a1), .unset, .unset] [(.ref a1)])) rfl rfl (hb hby d2_1) _ ?_
    rw [len_of Sz2 Nn2]
    exact kt
  obtain ⟨T4, h4, k4, X4, e4, E4, A4, st4⟩ := newP X0 hx hZ (hw _ (List.mem_of_getElem? (i := 4) rfl)) e0 (g := (mkF m 2 #[.val (.ref a1), .unset, .unset] [(.int (1 : Int32))])) rfl (hb hby d2_2) rfl (by decide) (cap := 1) (by decide) (by decide) (by decide) (by decide)
  obtain ⟨b4, gq4⟩ : ∃ z, z = h0.size := ⟨_, rfl⟩
  rw [← gq4] at A4 st4
  have gg_b4 : n0 ≤ b4 := Nat.le_trans Z0 (Nat.le_of_eq gq4.symm)
  have sz_b4 : h0.size ≤ b4 := Nat.le_trans K0.1 (Nat.le_of_eq gq4.symm)
  have V4 : Arv Z h4 b4 k4 .double (1 : Int32) [(.double 0)] (.double 0) := (Arv.new A4 (by decide)).pad (pad_rep [] (.double 0) 1)
  have pre5 : ∀ t, Steps p.tables e below (T4.setTop (mkF m 4 #[.val (.ref a1), .unset, .unset] [(.ref b4)])) t → Steps p.tables e below (s₁.setTop (entryFrame m #[(.ref a1)] 3)) t := fun t kt => pre3 _ (st4 _ kt)
  have pre6 : ∀ t, Steps p.tables e below (T4.setTop (mkF m 9 #[.val (.ref a1), .val (.ref b4), .val (.int (0 : Int32))] [(.ref a1), (.int (0 : Int32))])) t → Steps p.tables e below (s₁.setTop (entryFrame m #[(.ref a1)] 3)) t := fun t kt => by
    refine pre5 _ ?_
    show Steps p.tables e below (T4.setTop (mkF m 4 #[.val (.ref a1), .unset, .unset] [(.ref b4)])) _
    refine XS.astoreN X4.here hx rfl (hb hby d2_4) rfl rfl (l' := #[.val (.ref a1), .val (.ref b4), .unset]) rfl ?_
    show Steps p.tables e below (T4.setTop (mkF m 5 #[.val (.ref a1), .val (.ref b4), .unset] [])) _
    refine XS.iconst X4.here hx rfl (hb hby d2_5) ?_
    show Steps p.tables e below (T4.setTop (mkF m 6 #[.val (.ref a1), .val (.ref b4), .unset] [(.int (0 : Int32))])) _
    refine XS.istoreN X4.here hx rfl (hb hby d2_6) rfl (l' := #[.val (.ref a1), .val (.ref b4), .val (.int (0 : Int32))]) rfl ?_
    show Steps p.tables e below (T4.setTop (mkF m 7 #[.val (.ref a1), .val (.ref b4), .val (.int (0 : Int32))] [])) _
    refine XS.iloadN X4.here hx rfl (hb hby d2_7) rfl ?_
    show Steps p.tables e below (T4.setTop (mkF m 8 #[.val (.ref a1), .val (.ref b4), .val (.int (0 : Int32))] [(.int (0 : Int32))])) _
    refine XS.aloadN X4.here hx rfl (hb hby d2_8) rfl rfl ?_
    exact kt
  have f7 := (V1.ext E4)
  obtain ⟨cl8, Ar8, qk8, Sz8, Nn8, Hh8, Gg8⟩ := id f7
  have pre9 : ∀ t, Steps p.tables e below (T4.setTop (mkF m 17 #[.val (.ref a1), .val (.ref b4), .val (.int (0 : Int32))] [(.int (0 : Int32)), (.ref a1), (.int (0 : Int32)), (.ref b4)])) t → Steps p.tables e below (s₁.setTop (entryFrame m #[(.ref a1)] 3)) t := fun t kt => by
    refine pre6 _ ?_
    show Steps p.tables e below (T4.setTop (mkF m 9 #[.val (.ref a1), .val (.ref b4), .val (.int (0 : Int32))] [(.ref a1), (.int (0 : Int32))])) _
    refine X4.arraylength hx (by rw [e4]; exact Ar8.1) (State.isArrayOf_alike hZ.alike Ar8.2.1) (g := (mkF m 9 #[.val (.ref a1), .val (.ref b4), .val (.int (0 : Int32))] [(.ref a1), (.int (0 : Int32))])) rfl rfl (hb hby d2_9) _ ?_
    rw [len_of Sz8 Nn8]
    show Steps p.tables e below (T4.setTop (mkF m 10 #[.val (.ref a1), .val (.ref b4), .val (.int (0 : Int32))] [(.int (1 : Int32)), (.int (0 : Int32))])) _
    refine XS.icmpNo X4.here hx rfl (hb hby d2_10) rfl (tlt (by decide : (0 : Int32) < (1 : Int32))).2.1 ?_
    show Steps p.tables e below (T4.setTop (mkF m 13 #[.val (.ref a1), .val (.ref b4), .val (.int (0 : Int32))] [])) _
    refine XS.aloadN X4.here hx rfl (hb hby d2_13) rfl rfl ?_
    show Steps p.tables e below (T4.setTop (mkF m 14 #[.val (.ref a1), .val (.ref b4), .val (.int (0 : Int32))] [(.ref b4)])) _
    refine XS.iloadN X4.here hx rfl (hb hby d2_14) rfl ?_
    show Steps p.tables e below (T4.setTop (mkF m 15 #[.val (.ref a1), .val (.ref b4), .val (.int (0 : Int32))] [(.int (0 : Int32)), (.ref b4)])) _
    refine XS.aloadN X4.here hx rfl (hb hby d2_15) rfl rfl ?_
    show Steps p.tables e below (T4.setTop (mkF m 16 #[.val (.ref a1), .val (.ref b4), .val (.int (0 : Int32))] [(.ref a1), (.int (0 : Int32)), (.ref b4)])) _
    refine XS.iloadN X4.here hx rfl (hb hby d2_16) rfl ?_
    exact kt
  obtain ⟨cl10, Ar10, qk10, Sz10, Nn10, Hh10, Gg10⟩ := id f7
  have hin10 : ¬ ((0 : Int32) < 0 ∨ cl10.slots.size ≤ ((0 : Int32)).toNatClampNeg) := inb_of Sz10 ⟨by decide, by decide⟩
  have hat10 : cl10.slots[((0 : Int32)).toNatClampNeg]? = some (.double x0) := Hh10.at hin10 rfl
  obtain ⟨cl11, Ar11, qk11, Sz11, Nn11, Hh11, Gg11⟩ := id V4
  have hin11 : ¬ ((0 : Int32) < 0 ∨ cl11.slots.size ≤ ((0 : Int32)).toNatClampNeg) := inb_of Sz11 ⟨by decide, by decide⟩
  have pre12 : ∀ t, Steps p.tables e below (T4.setTop (mkF m 20 #[.val (.ref a1), .val (.ref b4), .val (.int (0 : Int32))] [(.double (own_r x0)), (.int (0 : Int32)), (.ref b4)])) t → Steps p.tables e below (s₁.setTop (entryFrame m #[(.ref a1)] 3)) t := fun t kt => by
    refine pre9 _ ?_
    show Steps p.tables e below (T4.setTop (mkF m 17 #[.val (.ref a1), .val (.ref b4), .val (.int (0 : Int32))] [(.int (0 : Int32)), (.ref a1), (.int (0 : Int32)), (.ref b4)])) _
    refine X4.daload hx (j := (0 : Int32)) (v := (.double x0)) (by rw [e4]; exact Ar10.1) (State.isArrayOf_alike hZ.alike Ar10.2.1) Ar10.2.2 hin10 hat10 (g := (mkF m 17 #[.val (.ref a1), .val (.ref b4), .val (.int (0 : Int32))] [(.int (0 : Int32)), (.ref a1), (.int (0 : Int32)), (.ref b4)])) rfl rfl (hb hby d2_17) _ ?_
    show Steps p.tables e below (T4.setTop (mkF m 18 #[.val (.ref a1), .val (.ref b4), .val (.int (0 : Int32))] [(.double x0), (.int (0 : Int32)), (.ref b4)])) _
    refine XS.dconst0 X4.here hx rfl (hb hby d2_18) rfl ?_
    show Steps p.tables e below (T4.setTop (mkF m 19 #[.val (.ref a1), .val (.ref b4), .val (.int (0 : Int32))] [(.double (0 : UInt64)), (.double x0), (.int (0 : Int32)), (.ref b4)])) _
    refine XS.daddS X4.here hx rfl (hb hby d2_19) rfl (own_r_nn f0) rfl ?_
    exact kt
  obtain ⟨T13, h13, X13, e13, W13, st13⟩ := stD X4 hx hZ e4 Ar11 (j := (0 : Int32)) hin11 (g := (mkF m 20 #[.val (.ref a1), .val (.ref b4), .val (.int (0 : Int32))] [(.double (own_r x0)), (.int (0 : Int32)), (.ref b4)])) rfl rfl (hb hby d2_20)
  have V13 := Arv.set Ar11 qk11 Sz11 Nn11 Hh11 Gg11 rfl W13 0 rfl (Nat.le_of_ble_eq_true rfl)
  have V13' : Arv Z h13 b4 k4 .double (1 : Int32) [(.double (own_r x0))] (.double 0) := V13
  have N13 := Fr.snoc X13 N0 gg_b4
  have pre14 : ∀ t, Steps p.tables e below (T13.setTop (mkF m 21 #[.val (.ref a1), .val (.ref b4), .val (.int (0 : Int32))] [])) t → Steps p.tables e below (s₁.setTop (entryFrame m #[(.ref a1)] 3)) t := fun t kt => pre12 _ (st13 _ kt)
  have pre15 : ∀ t, Steps p.tables e below (T13.setTop (mkF m 9 #[.val (.ref a1), .val (.ref b4), .val (.int (1 : Int32))] [(.ref a1), (.int (1 : Int32))])) t → Steps p.tables e below (s₁.setTop (entryFrame m #[(.ref a1)] 3)) t := fun t kt => by
    refine pre14 _ ?_
    show Steps p.tables e below (T13.setTop (mkF m 21 #[.val (.ref a1), .val (.ref b4), .val (.int (0 : Int32))] [])) _
    refine XS.iinc X13.here hx rfl (hb hby d2_21) rfl (l' := #[.val (.ref a1), .val (.ref b4), .val (.int ((0 : Int32) + (1 : Int32)))]) rfl ?_
    show Steps p.tables e below (T13.setTop (mkF m 24 #[.val (.ref a1), .val (.ref b4), .val (.int ((0 : Int32) + (1 : Int32)))] [])) _
    show Steps p.tables e below (T13.setTop (mkF m 24 #[.val (.ref a1), .val (.ref b4), .val (.int (1 : Int32))] [])) _
    refine XS.goto X13.here hx rfl (pc0 := 24) (pc' := 7) rfl (hb hby d2_24) (by decide) (by decide) ?_
    show Steps p.tables e below (T13.setTop (mkF m 7 #[.val (.ref a1), .val (.ref b4), .val (.int (1 : Int32))] [])) _
    refine XS.iloadN X13.here hx rfl (hb hby d2_7) rfl ?_
    show Steps p.tables e below (T13.setTop (mkF m 8 #[.val (.ref a1), .val (.ref b4), .val (.int (1 : Int32))] [(.int (1 : Int32))])) _
    refine XS.aloadN X13.here hx rfl (hb hby d2_8) rfl rfl ?_
    exact kt
  have f16 := (f7.other W13 (Nat.ne_of_lt (Nat.lt_of_lt_of_le V1.lt (Nat.le_of_eq gq4.symm))))
  obtain ⟨cl17, Ar17, qk17, Sz17, Nn17, Hh17, Gg17⟩ := id f16
  have k18 : Keep h0 h13 [] := ((K0.ext E4).wr W13 (Or.inr sz_b4))
  have pre19 : ∀ t, Steps p.tables e below (T13.setTop (mkF m 28 #[.val (.ref a1), .val (.ref b4), .val (.int (1 : Int32))] [(.ref b4)])) t → Steps p.tables e below (s₁.setTop (entryFrame m #[(.ref a1)] 3)) t := fun t kt => by
    refine pre15 _ ?_
    show Steps p.tables e below (T13.setTop (mkF m 9 #[.val (.ref a1), .val (.ref b4), .val (.int (1 : Int32))] [(.ref a1), (.int (1 : Int32))])) _
    refine X13.arraylength hx (by rw [e13]; exact Ar17.1) (State.isArrayOf_alike hZ.alike Ar17.2.1) (g := (mkF m 9 #[.val (.ref a1), .val (.ref b4), .val (.int (1 : Int32))] [(.ref a1), (.int (1 : Int32))])) rfl rfl (hb hby d2_9) _ ?_
    rw [len_of Sz17 Nn17]
    show Steps p.tables e below (T13.setTop (mkF m 10 #[.val (.ref a1), .val (.ref b4), .val (.int (1 : Int32))] [(.int (1 : Int32)), (.int (1 : Int32))])) _
    refine XS.icmpYes X13.here hx rfl (pc0 := 10) (pc' := 27) rfl (hb hby d2_10) rfl (flt (by decide : ¬ ((1 : Int32) < (1 : Int32)))).2.1 (by decide) (by decide) ?_
    show Steps p.tables e below (T13.setTop (mkF m 27 #[.val (.ref a1), .val (.ref b4), .val (.int (1 : Int32))] [])) _
    refine XS.aloadN X13.here hx rfl (hb hby d2_27) rfl rfl ?_
    exact kt
  obtain ⟨fs, hr, hrun, hended, hW, hsame⟩ := X13.leave (v := (some (.ref b4))) (fun h => by rw [Bd.returns] at h; cases h)
  refine ⟨_, _, pre19 _ ?_, hrun, hended, _, _, rfl, ?_, ⟨_, rfl⟩, hW, hsame.mono (by decide) (by decide)⟩
  · show Steps p.tables e below (T13.setTop (mkF m 28 #[.val (.ref a1), .val (.ref b4), .val (.int (1 : Int32))] [(.ref b4)])) _
    exact retOut X13 hx (t := (.array .double)) Bd.returns rfl (Or.inr (Or.inr (Or.inr (Or.inr ⟨rfl, rfl, rfl⟩)))) (hb hby d2_28) hr
  · show Q2m1 Z a1 k1 x0 h0 n0 _ T13.heap _
    rw [e13]
    exact ⟨by rw [gq4], N13, k18, _, by rw [← gq4]; exact V13'⟩
theorem ef_2m2 (m : MethodId) (a1 : Addr) : entryFrame m #[(.ref a1)] 3 = (mkF m 0 #[.val (.ref a1), .unset, .unset] []) := by first | (simp [entryFrame, mkF, argsToLocals, Value.category]; done) | rfl
def Q2m2 (Z : State) (a1 : Addr) (k1 : ClassId) (x0 : UInt64) (x1 : UInt64) (h0 : Heap) (n0 : Nat) (v : Option Value) (h : Heap) (L : List Loc) : Prop := v = some (.ref h0.size) ∧ Fr n0 L ∧ Keep h0 h [] ∧ ∃ k : ClassId, Arv Z h h0.size k .double (2 : Int32) [(.double (own_r x0)), (.double (own_r x1))] (.double 0)
set_option maxRecDepth 65536 in
set_option maxHeartbeats 40000000 in
theorem rm2m2 (l : Launch) (Z : State) (a0 : Array Value) (hw : ∀ d ∈ tables_1, d.before a0 Z = true) (ws : List Jvm.Cond) (a1 : Addr) (k1 : ClassId) (x0 : UInt64) (x1 : UInt64) (h0 : Heap) (n0 : Nat) (Z0 : n0 ≤ h0.size) (V1 : Arv Z h0 a1 k1 .double (2 : Int32) [(.double x0), (.double x1)] (.double 0)) (f0 : Fl.Fin64 x0) (f1 : Fl.Fin64 x1) :
    MetFree l (⟨"com/example/vidura/vidura/stats/Values", "signedZeroFree", "([D)[D"⟩ : MethodName) (head1 (Jvm.Cond.code (⟨"com/example/vidura/vidura/stats/Values", "signedZeroFree", "([D)[D"⟩ : MethodName) prog_125_method_6_code 3 (some (.array .double)) :: ws) ({ frames := 0, cells := 1, slots := 2, locals := 0 } : Room)) (fun a U => a = #[(.ref a1)] ∧ Z.Warmed39 U.vm ∧ U.heap = h0) (fun _ _ _ _ _ => True) (fun _ U o U' => ∃ v L, o = .returned v ∧ Q2m2 Z a1 k1 x0 x1 h0 n0 v U'.heap L ∧ FrameEnd U o U' L ({ frames := 0, cells := 1, slots := 2, locals := 0 } : Room).cells ({ frames := 0, cells := 1, slots := 2, locals := 0 } : Room).slots) := by
  refine MetFree.of_bodySF (plainFor_of_name pn_1) hisR ?_
  intro p e s m args below meth c s₁ Bd hml0 hP hK
  obtain ⟨rfl, hZ, hh⟩ := hP
  have hx := Bd.exec
  have hby := Bd.bytes
  have hml : c.maxLocals = 3 := hml0
  have hown : s.vm.findClass "com/example/vidura/vidura/stats/Values" = some m.cls := findClass_of_methodNamed Bd.named
  have hnm := (name_of_methodNamed Bd.named Bd.method).1
  have X0 : Stand p l e ({ frames := 0, cells := 1, slots := 2, locals := 0 } : Room) s m #[(.ref a1)] below meth c s₁ [] 0 0 := Stand.of_body Bd
  have e0 : s₁.heap = h0 := by rw [← hh, Bd.state]; rfl
  have N0 := Fr.nil n0
  have K0 : Keep h0 h0 [] := Keep.refl _ _
  have pre0 : ∀ t, Steps p.tables e below (s₁.setTop (mkF m 0 #[.val (.ref a1), .unset, .unset] [])) t → Steps p.tables e below (s₁.setTop (entryFrame m #[(.ref a1)] 3)) t := fun t k => castTop (ef_2m2 m a1) k
  have pre1 : ∀ t, Steps p.tables e below (s₁.setTop (mkF m 1 #[.val (.ref a1), .unset, .unset] [(.ref a1)])) t → Steps p.tables e below (s₁.setTop (entryFrame m #[(.ref a1)] 3)) t := fun t kt => by
    refine pre0 _ ?_
    show Steps p.tables e below (s₁.setTop (mkF m 0 #[.val (.ref a1), .unset, .unset] [])) _
    refine XS.aloadN X0.here hx rfl (hb hby d2_0) rfl rfl ?_
    exact kt
  obtain ⟨cl2, Ar2, qk2, Sz2, Nn2, Hh2, Gg2⟩ := id V1
  have pre3 : ∀ t, Steps p.tables e below (s₁.setTop (mkF m 2 #[.val (.ref a1), .unset, .unset] [(.int (2 : Int32))])) t → Steps p.tables e below (s₁.setTop (entryFrame m #[(.ref a1)] 3)) t := fun t kt => by
    refine pre1 _ ?_
    show Steps p.tables e below (s₁.setTop (mkF m 1 #[.val (.ref a1), .unset, .unset] [(.ref a1)])) _
    refine X0.arraylength hx (by rw [e0]; exact Ar2.1) (State.isArrayOf_alike hZ.alike Ar2.2.1) (g := (mkF m 1 #[.val (.ref a1), .unset, .unset] [(.ref a1)])) rfl rfl (hb hby d2_1) _ ?_
    rw [len_of Sz2 Nn2]
    exact kt
  obtain ⟨T4, h4, k4, X4, e4, E4, A4, st4⟩ := newP X0 hx hZ (hw _ (List.mem_of_getElem? (i := 4) rfl)) e0 (g := (mkF m 2 #[.val (.ref a1), .unset, .unset] [(.int (2 : Int32))])) rfl (hb hby d2_2) rfl (by decide) (cap := 2) (by decide) (by decide) (by decide) (by decide)
  obtain ⟨b4, gq4⟩ : ∃ z, z = h0.size := ⟨_, rfl⟩
  rw [← gq4] at A4 st4
  have gg_b4 : n0 ≤ b4 := Nat.le_trans Z0 (Nat.le_of_eq gq4.symm)
  have sz_b4 : h0.size ≤ b4 := Nat.le_trans K0.1 (Nat.le_of_eq gq4.symm)
  have V4 : Arv Z h4 b4 k4 .double (2 : Int32) [(.double 0), (.double 0)] (.double 0) := (Arv.new A4 (by decide)).pad (pad_rep [] (.double 0) 2)
  have pre5 : ∀ t, Steps p.tables e below (T4.setTop (mkF m 4 #[.val (.ref a1), .unset, .unset] [(.ref b4)])) t → Steps p.tables e below (s₁.setTop (entryFrame m #[(.ref a1)] 3)) t := fun t kt => pre3 _ (st4 _ kt)
  have pre6 : ∀ t, Steps p.tables e below (T4.setTop (mkF m 9 #[.val (.ref a1), .val (.ref b4), .val (.int (0 : Int32))] [(.ref a1), (.int (0 : Int32))])) t → Steps p.tables e below (s₁.setTop (entryFrame m #[(.ref a1)] 3)) t := fun t kt => by
    refine pre5 _ ?_
    show Steps p.tables e below (T4.setTop (mkF m 4 #[.val (.ref a1), .unset, .unset] [(.ref b4)])) _
    refine XS.astoreN X4.here hx rfl (hb hby d2_4) rfl rfl (l' := #[.val (.ref a1), .val (.ref b4), .unset]) rfl ?_
    show Steps p.tables e below (T4.setTop (mkF m 5 #[.val (.ref a1), .val (.ref b4), .unset] [])) _
    refine XS.iconst X4.here hx rfl (hb hby d2_5) ?_
    show Steps p.tables e below (T4.setTop (mkF m 6 #[.val (.ref a1), .val (.ref b4), .unset] [(.int (0 : Int32))])) _
    refine XS.istoreN X4.here hx rfl (hb hby d2_6) rfl (l' := #[.val (.ref a1), .val (.ref b4), .val (.int (0 : Int32))]) rfl ?_
    show Steps p.tables e below (T4.setTop (mkF m 7 #[.val (.ref a1), .val (.ref b4), .val (.int (0 : Int32))] [])) _
    refine XS.iloadN X4.here hx rfl (hb hby d2_7) rfl ?_
    show Steps p.tables e below (T4.setTop (mkF m 8 #[.val (.ref a1), .val (.ref b4), .val (.int (0 : Int32))] [(.int (0 : Int32))])) _
    refine XS.aloadN X4.here hx rfl (hb hby d2_8) rfl rfl ?_
    exact kt
  have f7 := (V1.ext E4)
  obtain ⟨cl8, Ar8, qk8, Sz8, Nn8, Hh8, Gg8⟩ := id f7
  have pre9 : ∀ t, Steps p.tables e below (T4.setTop (mkF m 17 #[.val (.ref a1), .val (.ref b4), .val (.int (0 : Int32))] [(.int (0 : Int32)), (.ref a1), (.int (0 : Int32)), (.ref b4)])) t → Steps p.tables e below (s₁.setTop (entryFrame m #[(.ref a1)] 3)) t := fun t kt => by
    refine pre6 _ ?_
    show Steps p.tables e below (T4.setTop (mkF m 9 #[.val (.ref a1), .val (.ref b4), .val (.int (0 : Int32))] [(.ref a1), (.int (0 : Int32))])) _
    refine X4.arraylength hx (by rw [e4]; exact Ar8.1) (State.isArrayOf_alike hZ.alike Ar8.2.1) (g := (mkF m 9 #[.val (.ref a1), .val (.ref b4), .val (.int (0 : Int32))] [(.ref a1), (.int (0 : Int32))])) rfl rfl (hb hby d2_9) _ ?_
    rw [len_of Sz8 Nn8]
    show Steps p.tables e below (T4.setTop (mkF m 10 #[.val (.ref a1), .val (.ref b4), .val (.int (0 : Int32))] [(.int (2 : Int32)), (.int (0 : Int32))])) _
    refine XS.icmpNo X4.here hx rfl (hb hby d2_10) rfl (tlt (by decide : (0 : Int32) < (2 : Int32))).2.1 ?_
    show Steps p.tables e below (T4.setTop (mkF m 13 #[.val (.ref a1), .val (.ref b4), .val (.int (0 : Int32))] [])) _
    refine XS.aloadN X4.here hx rfl (hb hby d2_13) rfl rfl ?_
    show Steps p.tables e below (T4.setTop (mkF m 14 #[.val (.ref a1), .val (.ref b4), .val (.int (0 : Int32))] [(.ref b4)])) _
    refine XS.iloadN X4.here hx rfl (hb hby d2_14) rfl ?_
    show Steps p.tables e below (T4.setTop (mkF m 15 #[.val (.ref a1), .val (.ref b4), .val (.int (0 : Int32))] [(.int (0 : Int32)), (.ref b4)])) _
    refine XS.aloadN X4.here hx rfl (hb hby d2_15) rfl rfl ?_
    show Steps p.tables e below (T4.setTop (mkF m 16 #[.val (.ref a1), .val (.ref b4), .val (.int (0 : Int32))] [(.ref a1), (.int (0 : Int32)), (.ref b4)])) _
    refine XS.iloadN X4.here hx rfl (hb hby d2_16) rfl ?_
    exact kt
  obtain ⟨cl10, Ar10, qk10, Sz10, Nn10, Hh10, Gg10⟩ := id f7
  have hin10 : ¬ ((0 : Int32) < 0 ∨ cl10.slots.size ≤ ((0 : Int32)).toNatClampNeg) := inb_of Sz10 ⟨by decide, by decide⟩
  have hat10 : cl10.slots[((0 : Int32)).toNatClampNeg]? = some (.double x0) := Hh10.at hin10 rfl
  obtain ⟨cl11, Ar11, qk11, Sz11, Nn11, Hh11, Gg11⟩ := id V4
  have hin11 : ¬ ((0 : Int32) < 0 ∨ cl11.slots.size ≤ ((0 : Int32)).toNatClampNeg) := inb_of Sz11 ⟨by decide, by decide⟩
  have pre12 : ∀ t, Steps p.tables e below (T4.setTop (mkF m 20 #[.val (.ref a1), .val (.ref b4), .val (.int (0 : Int32))] [(.double (own_r x0)), (.int (0 : Int32)), (.ref b4)])) t → Steps p.tables e below (s₁.setTop (entryFrame m #[(.ref a1)] 3)) t := fun t kt => by
    refine pre9 _ ?_
    show Steps p.tables e below (T4.setTop (mkF m 17 #[.val (.ref a1), .val (.ref b4), .val (.int (0 : Int32))] [(.int (0 : Int32)), (.ref a1), (.int (0 : Int32)), (.ref b4)])) _
    refine X4.daload hx (j := (0 : Int32)) (v := (.double x0)) (by rw [e4]; exact Ar10.1) (State.isArrayOf_alike hZ.alike Ar10.2.1) Ar10.2.2 hin10 hat10 (g := (mkF m 17 #[.val (.ref a1), .val (.ref b4), .val (.int (0 : Int32))] [(.int (0 : Int32)), (.ref a1), (.int (0 : Int32)), (.ref b4)])) rfl rfl (hb hby d2_17) _ ?_
    show Steps p.tables e below (T4.setTop (mkF m 18 #[.val (.ref a1), .val (.ref b4), .val (.int (0 : Int32))] [(.double x0), (.int (0 : Int32)), (.ref b4)])) _
    refine XS.dconst0 X4.here hx rfl (hb hby d2_18) rfl ?_
    show Steps p.tables e below (T4.setTop (mkF m 19 #[.val (.ref a1), .val (.ref b4), .val (.int (0 : Int32))] [(.double (0 : UInt64)), (.double x0), (.int (0 : Int32)), (.ref b4)])) _
    refine XS.daddS X4.here hx rfl (hb hby d2_19) rfl (own_r_nn f0) rfl ?_
    exact kt
  obtain ⟨T13, h13, X13, e13, W13, st13⟩ := stD X4 hx hZ e4 Ar11 (j := (0 : Int32)) hin11 (g := (mkF m 20 #[.val (.ref a1), .val (.ref b4), .val (.int (0 : Int32))] [(.double (own_r x0)), (.int (0 : Int32)), (.ref b4)])) rfl rfl (hb hby d2_20)
  have V13 := Arv.set Ar11 qk11 Sz11 Nn11 Hh11 Gg11 rfl W13 0 rfl (Nat.le_of_ble_eq_true rfl)
  have V13' : Arv Z h13 b4 k4 .double (2 : Int32) [(.double (own_r x0)), (.double 0)] (.double 0) := V13
  have N13 := Fr.snoc X13 N0 gg_b4
  have pre14 : ∀ t, Steps p.tables e below (T13.setTop (mkF m 21 #[.val (.ref a1), .val (.ref b4), .val (.int (0 : Int32))] [])) t → Steps p.tables e below (s₁.setTop (entryFrame m #[(.ref a1)] 3)) t := fun t kt => pre12 _ (st13 _ kt)
  have pre15 : ∀ t, Steps p.tables e below (T13.setTop (mkF m 9 #[.val (.ref a1), .val (.ref b4), .val (.int (1 : Int32))] [(.ref a1), (.int (1 : Int32))])) t → Steps p.tables e below (s₁.setTop (entryFrame m #[(.ref a1)] 3)) t := fun t kt => by
    refine pre14 _ ?_
    show Steps p.tables e below (T13.setTop (mkF m 21 #[.val (.ref a1), .val (.ref b4), .val (.int (0 : Int32))] [])) _
    refine XS.iinc X13.here hx rfl (hb hby d2_21) rfl (l' := #[.val (.ref a1), .val (.ref b4), .val (.int ((0 : Int32) + (1 : Int32)))]) rfl ?_
    show Steps p.tables e below (T13.setTop (mkF m 24 #[.val (.ref a1), .val (.ref b4), .val (.int ((0 : Int32) + (1 : Int32)))] [])) _
    show Steps p.tables e below (T13.setTop (mkF m 24 #[.val (.ref a1), .val (.ref b4), .val (.int (1 : Int32))] [])) _
    refine XS.goto X13.here hx rfl (pc0 := 24) (pc' := 7) rfl (hb hby d2_24) (by decide) (by decide) ?_
    show Steps p.tables e below (T13.setTop (mkF m 7 #[.val (.ref a1), .val (.ref b4), .val (.int (1 : Int32))] [])) _
    refine XS.iloadN X13.here hx rfl (hb hby d2_7) rfl ?_
    show Steps p.tables e below (T13.setTop (mkF m 8 #[.val (.ref a1), .val (.ref b4), .val (.int (1 : Int32))] [(.int (1 : Int32))])) _
    refine XS.aloadN X13.here hx rfl (hb hby d2_8) rfl rfl ?_
    exact kt
  have f16 := (f7.other W13 (Nat.ne_of_lt (Nat.lt_of_lt_of_le V1.lt (Nat.le_of_eq gq4.symm))))
  obtain ⟨cl17, Ar17, qk17, Sz17, Nn17, Hh17, Gg17⟩ := id f16
  have pre18 : ∀ t, Steps p.tables e below (T13.setTop (mkF m 17 #[.val (.ref a1), .val (.ref b4), .val (.int (1 : Int32))] [(.int (1 : Int32)), (.ref a1), (.int (1 : Int32)), (.ref b4)])) t → Steps p.tables e below (s₁.setTop (entryFrame m #[(.ref a1)] 3)) t := fun t kt => by
    refine pre15 _ ?_
    show Steps p.tables e below (T13.setTop (mkF m 9 #[.val (.ref a1), .val (.ref b4), .val (.int (1 : Int32))] [(.ref a1), (.int (1 : Int32))])) _
    refine X13.arraylength hx (by rw [e13]; exact Ar17.1) (State.isArrayOf_alike hZ.alike Ar17.2.1) (g := (mkF m 9 #[.val (.ref a1), .val (.ref b4), .val (.int (1 : Int32))] [(.ref a1), (.int (1 : Int32))])) rfl rfl (hb hby d2_9) _ ?_
    rw [len_of Sz17 Nn17]
    show Steps p.tables e below (T13.setTop (mkF m 10 #[.val (.ref a1), .val (.ref b4), .val (.int (1 : Int32))] [(.int (2 : Int32)), (.int (1 : Int32))])) _
    refine XS.icmpNo X13.here hx rfl (hb hby d2_10) rfl (tlt (by decide : (1 : Int32) < (2 : Int32))).2.1 ?_
    show Steps p.tables e below (T13.setTop (mkF m 13 #[.val (.ref a1), .val (.ref b4), .val (.int (1 : Int32))] [])) _
    refine XS.aloadN X13.here hx rfl (hb hby d2_13) rfl rfl ?_
    show Steps p.tables e below (T13.setTop (mkF m 14 #[.val (.ref a1), .val (.ref b4), .val (.int (1 : Int32))] [(.ref b4)])) _
    refine XS.iloadN X13.here hx rfl (hb hby d2_14) rfl ?_
    show Steps p.tables e below (T13.setTop (mkF m 15 #[.val (.ref a1), .val (.ref b4), .val (.int (1 : Int32))] [(.int (1 : Int32)), (.ref b4)])) _
    refine XS.aloadN X13.here hx rfl (hb hby d2_15) rfl rfl ?_
    show Steps p.tables e below (T13.setTop (mkF m 16 #[.val (.ref a1), .val (.ref b4), .val (.int (1 : Int32))] [(.ref a1), (.int (1 : Int32)), (.ref b4)])) _
    refine XS.iloadN X13.here hx rfl (hb hby d2_16) rfl ?_
    exact kt
  obtain ⟨cl19, Ar19, qk19, Sz19, Nn19, Hh19, Gg19⟩ := id f16
  have hin19 : ¬ ((1 : Int32) < 0 ∨ cl19.slots.size ≤ ((1 : Int32)).toNatClampNeg) := inb_of Sz19 ⟨by decide, by decide⟩
  have hat19 : cl19.slots[((1 : Int32)).toNatClampNeg]? = some (.double x1) := Hh19.at hin19 rfl
  obtain ⟨cl20, Ar20, qk20, Sz20, Nn20, Hh20, Gg20⟩ := id V13'
  have hin20 : ¬ ((1 : Int32) < 0 ∨ cl20.slots.size ≤ ((1 : Int32)).toNatClampNeg) := inb_of Sz20 ⟨by decide, by decide⟩
  have pre21 : ∀ t, Steps p.tables e below (T13.setTop (mkF m 20 #[.val (.ref a1), .val (.ref b4), .val (.int (1 : Int32))] [(.double (own_r x1)), (.int (1 : Int32)), (.ref b4)])) t → Steps p.tables e below (s₁.setTop (entryFrame m #[(.ref a1)] 3)) t := fun t kt => by
    refine pre18 _ ?_
    show Steps p.tables e below (T13.setTop (mkF m 17 #[.val (.ref a1), .val (.ref b4), .val (.int (1 : Int32))] [(.int (1 : Int32)), (.ref a1), (.int (1 : Int32)), (.ref b4)])) _
    refine X13.daload hx (j := (1 : Int32)) (v := (.double x1)) (by rw [e13]; exact Ar19.1) (State.isArrayOf_alike hZ.alike Ar19.2.1) Ar19.2.2 hin19 hat19 (g := (mkF m 17 #[.val (.ref a1), .val (.ref b4), .val (.int (1 : Int32))] [(.int (1 : Int32)), (.ref a1), (.int (1 : Int32)), (.ref b4)])) rfl rfl (hb hby d2_17) _ ?_
    show Steps p.tables e below (T13.setTop (mkF m 18 #[.val (.ref a1), .val (.ref b4), .val (.int (1 : Int32))] [(.double x1), (.int (1 : Int32)), (.ref b4)])) _
    refine XS.dconst0 X13.here hx rfl (hb hby d2_18) rfl ?_
    show Steps p.tables e below (T13.setTop (mkF m 19 #[.val (.ref a1), .val (.ref b4), .val (.int (1 : Int32))] [(.double (0 : UInt64)), (.double x1), (.int (1 : Int32)), (.ref b4)])) _
    refine XS.daddS X13.here hx rfl (hb hby d2_19) rfl (own_r_nn f1) rfl ?_
    exact kt
  obtain ⟨T22, h22, X22, e22, W22, st22⟩ := stD X13 hx hZ e13 Ar20 (j := (1 : Int32)) hin20 (g := (mkF m 20 #[.val (.ref a1), .val (.ref b4), .val (.int (1 : Int32))] [(.double (own_r x1)), (.int (1 : Int32)), (.ref b4)])) rfl rfl (hb hby d2_20)
  have V22 := Arv.set Ar20 qk20 Sz20 Nn20 Hh20 Gg20 rfl W22 1 rfl (Nat.le_of_ble_eq_true rfl)
  have V22' : Arv Z h22 b4 k4 .double (2 : Int32) [(.double (own_r x0)), (.double (own_r x1))] (.double 0) := V22
  have N22 := Fr.snoc X22 N13 gg_b4
  have pre23 : ∀ t, Steps p.tables e below (T22.setTop (mkF m 21 #[.val (.ref a1), .val (.ref b4), .val (.int (1 : Int32))] [])) t → Steps p.tables e below (s₁.setTop (entryFrame m #[(.ref a1)] 3)) t := fun t kt => pre21 _ (st22 _ kt)
  have pre24 : ∀ t, Steps p.tables e below (T22.setTop (mkF m 9 #[.val (.ref a1), .val (.ref b4), .val (.int (2 : Int32))] [(.ref a1), (.int (2 : Int32))])) t → Steps p.tables e below (s₁.setTop (entryFrame m #[(.ref a1)] 3)) t := fun t kt => by
    refine pre23 _ ?_
    show Steps p.tables e below (T22.setTop (mkF m 21 #[.val (.ref a1), .val (.ref b4), .val (.int (1 : Int32))] [])) _
    refine XS.iinc X22.here hx rfl (hb hby d2_21) rfl (l' := #[.val (.ref a1), .val (.ref b4), .val (.int ((1 : Int32) + (1 : Int32)))]) rfl ?_
    show Steps p.tables e below (T22.setTop (mkF m 24 #[.val (.ref a1), .val (.ref b4), .val (.int ((1 : Int32) + (1 : Int32)))] [])) _
    show Steps p.tables e below (T22.setTop (mkF m 24 #[.val (.ref a1), .val (.ref b4), .val (.int (2 : Int32))] [])) _
    refine XS.goto X22.here hx rfl (pc0 := 24) (pc' := 7) rfl (hb hby d2_24) (by decide) (by decide) ?_
    show Steps p.tables e below (T22.setTop (mkF m 7 #[.val (.ref a1), .val (.ref b4), .val (.int (2 : Int32))] [])) _
    refine XS.iloadN X22.here hx rfl (hb hby d2_7) rfl ?_
    show Steps p.tables e below (T22.setTop (mkF m 8 #[.val (.ref a1), .val (.ref b4), .val (.int (2 : Int32))] [(.int (2 : Int32))])) _
    refine XS.aloadN X22.here hx rfl (hb hby d2_8) rfl rfl ?_
    exact kt
  have f25 := (f16.other W22 (Nat.ne_of_lt (Nat.lt_of_lt_of_le V1.lt (Nat.le_of_eq gq4.symm))))
  obtain ⟨cl26, Ar26, qk26, Sz26, Nn26, Hh26, Gg26⟩ := id f25
  have k27 : Keep h0 h22 [] := (((K0.ext E4).wr W13 (Or.inr sz_b4)).wr W22 (Or.inr sz_b4))
  have pre28 : ∀ t, Steps p.tables e below (T22.setTop (mkF m 28 #[.val (.ref a1), .val (.ref b4), .val (.int (2 : Int32))] [(.ref b4)])) t → Steps p.tables e below (s₁.setTop (entryFrame m #[(.ref a1)] 3)) t := fun t kt => by
    refine pre24 _ ?_
    show Steps p.tables e below (T22.setTop (mkF m 9 #[.val (.ref a1), .val (.ref b4), .val (.int (2 : Int32))] [(.ref a1), (.int (2 : Int32))])) _
    refine X22.arraylength hx (by rw [e22]; exact Ar26.1) (State.isArrayOf_alike hZ.alike Ar26.2.1) (g := (mkF m 9 #[.val (.ref a1), .val (.ref b4), .val (.int (2 : Int32))] [(.ref a1), (.int (2 : Int32))])) rfl rfl (hb hby d2_9) _ ?_
    rw [len_of Sz26 Nn26]
    show Steps p.tables e below (T22.setTop (mkF m 10 #[.val (.ref a1), .val (.ref b4), .val (.int (2 : Int32))] [(.int (2 : Int32)), (.int (2 : Int32))])) _
    refine XS.icmpYes X22.here hx rfl (pc0 := 10) (pc' := 27) rfl (hb hby d2_10) rfl (flt (by decide : ¬ ((2 : Int32) < (2 : Int32)))).2.1 (by decide) (by decide) ?_
    show Steps p.tables e below (T22.setTop (mkF m 27 #[.val (.ref a1), .val (.ref b4), .val (.int (2 : Int32))] [])) _
    refine XS.aloadN X22.here hx rfl (hb hby d2_27) rfl rfl ?_
    exact kt
  obtain ⟨fs, hr, hrun, hended, hW, hsame⟩ := X22.leave (v := (some (.ref b4))) (fun h => by rw [Bd.returns] at h; cases h)
  refine ⟨_, _, pre28 _ ?_, hrun, hended, _, _, rfl, ?_, ⟨_, rfl⟩, hW, hsame.mono (by decide) (by decide)⟩
  · show Steps p.tables e below (T22.setTop (mkF m 28 #[.val (.ref a1), .val (.ref b4), .val (.int (2 : Int32))] [(.ref b4)])) _
    exact retOut X22 hx (t := (.array .double)) Bd.returns rfl (Or.inr (Or.inr (Or.inr (Or.inr ⟨rfl, rfl, rfl⟩)))) (hb hby d2_28) hr
  · show Q2m2 Z a1 k1 x0 x1 h0 n0 _ T22.heap _
    rw [e22]
    exact ⟨by rw [gq4], N22, k27, _, by rw [← gq4]; exact V22'⟩
theorem ef_2m3 (m : MethodId) (a1 : Addr) : entryFrame m #[(.ref a1)] 3 = (mkF m 0 #[.val (.ref a1), .unset, .unset] []) := by first | (simp [entryFrame, mkF, argsToLocals, Value.category]; done) | rfl
def Q2m3 (Z : State) (a1 : Addr) (k1 : ClassId) (x0 : UInt64) (x1 : UInt64) (x2 : UInt64) (h0 : Heap) (n0 : Nat) (v : Option Value) (h : Heap) (L : List Loc) : Prop := v = some (.ref h0.size) ∧ Fr n0 L ∧ Keep h0 h [] ∧ ∃ k : ClassId, Arv Z h h0.size k .double (3 : Int32) [(.double (own_r x0)), (.double (own_r x1)), (.double (own_r x2))] (.double 0)
set_option maxRecDepth 65536 in
set_option maxHeartbeats 40000000 in
theorem rm2m3 (l : Launch) (Z : State) (a0 : Array Value) (hw : ∀ d ∈ tables_1, d.before a0 Z = true) (ws : List Jvm.Cond) (a1 : Addr) (k1 : ClassId) (x0 : UInt64) (x1 : UInt64) (x2 : UInt64) (h0 : Heap) (n0 : Nat) (Z0 : n0 ≤ h0.size) (V1 : Arv Z h0 a1 k1 .double (3 : Int32) [(.double x0), (.double x1), (.double x2)] (.double 0)) (f0 : Fl.Fin64 x0) (f1 : Fl.Fin64 x1) (f2 : Fl.Fin64 x2) :
    MetFree l (⟨"com/example/vidura/vidura/stats/Values", "signedZeroFree", "([D)[D"⟩ : MethodName) (head1 (Jvm.Cond.code (⟨"com/example/vidura/vidura/stats/Values", "signedZeroFree", "([D)[D"⟩ : MethodName) prog_125_method_6_code 3 (some (.array .double)) :: ws) ({ frames := 0, cells := 1, slots := 3, locals := 0 } : Room)) (fun a U => a = #[(.ref a1)] ∧ Z.Warmed39 U.vm ∧ U.heap = h0) (fun _ _ _ _ _ => True) (fun _ U o U' => ∃ v L, o = .returned v ∧ Q2m3 Z a1 k1 x0 x1 x2 h0 n0 v U'.heap L ∧ FrameEnd U o U' L ({ frames := 0, cells := 1, slots := 3, locals := 0 } : Room).cells ({ frames := 0, cells := 1, slots := 3, locals := 0 } : Room).slots) := by
  refine MetFree.of_bodySF (plainFor_of_name pn_1) hisR ?_
  intro p e s m args below meth c s₁ Bd hml0 hP hK
  obtain ⟨rfl, hZ, hh⟩ := hP
  have hx := Bd.exec
  have hby := Bd.bytes
  have hml : c.maxLocals = 3 := hml0
  have hown : s.vm.findClass "com/example/vidura/vidura/stats/Values" = some m.cls := findClass_of_methodNamed Bd.named
  have hnm := (name_of_methodNamed Bd.named Bd.method).1
  have X0 : Stand p l e ({ frames := 0, cells := 1, slots := 3, locals := 0 } : Room) s m #[(.ref a1)] below meth c s₁ [] 0 0 := Stand.of_body Bd
  have e0 : s₁.heap = h0 := by rw [← hh, Bd.state]; rfl
  have N0 := Fr.nil n0
  have K0 : Keep h0 h0 [] := Keep.refl _ _
  have pre0 : ∀ t, Steps p.tables e below (s₁.setTop (mkF m 0 #[.val (.ref a1), .unset, .unset] [])) t → Steps p.tables e below (s₁.setTop (entryFrame m #[(.ref a1)] 3)) t := fun t k => castTop (ef_2m3 m a1) k
  have pre1 : ∀ t, Steps p.tables e below (s₁.setTop (mkF m 1 #[.val (.ref a1), .unset, .unset] [(.ref a1)])) t → Steps p.tables e below (s₁.setTop (entryFrame m #[(.ref a1)] 3)) t := fun t kt => by
    refine pre0 _ ?_
    show Steps p.tables e below (s₁.setTop (mkF m 0 #[.val (.ref a1), .unset, .unset] [])) _
    refine XS.aloadN X0.here hx rfl (hb hby d2_0) rfl rfl ?_
    exact kt
  obtain ⟨cl2, Ar2, qk2, Sz2, Nn2, Hh2, Gg2⟩ := id V1
  have pre3 : ∀ t, Steps p.tables e below (s₁.setTop (mkF m 2 #[.val (.ref a1), .unset, .unset] [(.int (3 : Int32))])) t → Steps p.tables e below (s₁.setTop (entryFrame m #[(.ref a1)] 3)) t := fun t kt => by
    refine pre1 _ ?_
    show Steps p.tables e below (s₁.setTop (mkF m 1 #[.val (.ref a1), .unset, .unset] [(.ref a1)])) _
    refine X0.arraylength hx (by rw [e0]; exact Ar2.1) (State.isArrayOf_alike hZ.alike Ar2.2.1) (g := (mkF m 1 #[.val (.ref a1), .unset, .unset] [(.ref a1)])) rfl rfl (hb hby d2_1) _ ?_
    rw [len_of Sz2 Nn2]
    exact kt
  obtain ⟨T4, h4, k4, X4, e4, E4, A4, st4⟩ := newP X0 hx hZ (hw _ (List.mem_of_getElem? (i := 4) rfl)) e0 (g := (mkF m 2 #[.val (.ref a1), .unset, .unset] [(.int (3 : Int32))])) rfl (hb hby d2_2) rfl (by decide) (cap := 3) (by decide) (by decide) (by decide) (by decide)
  obtain ⟨b4, gq4⟩ : ∃ z, z = h0.size := ⟨_, rfl⟩
  rw [← gq4] at A4 st4
  have gg_b4 : n0 ≤ b4 := Nat.le_trans Z0 (Nat.le_of_eq gq4.symm)
  have sz_b4 : h0.size ≤ b4 := Nat.le_trans K0.1 (Nat.le_of_eq gq4.symm)
  have V4 : Arv Z h4 b4 k4 .double (3 : Int32) [(.double 0), (.double 0), (.double 0)] (.double 0) := (Arv.new A4 (by decide)).pad (pad_rep [] (.double 0) 3)
  have pre5 : ∀ t, Steps p.tables e below (T4.setTop (mkF m 4 #[.val (.ref a1), .unset, .unset] [(.ref b4)])) t → Steps p.tables e below (s₁.setTop (entryFrame m #[(.ref a1)] 3)) t := fun t kt => pre3 _ (st4 _ kt)
  have pre6 : ∀ t, Steps p.tables e below (T4.setTop (mkF m 9 #[.val (.ref a1), .val (.ref b4), .val (.int (0 : Int32))] [(.ref a1), (.int (0 : Int32))])) t → Steps p.tables e below (s₁.setTop (entryFrame m #[(.ref a1)] 3)) t := fun t kt => by
    refine pre5 _ ?_
    show Steps p.tables e below (T4.setTop (mkF m 4 #[.val (.ref a1), .unset, .unset] [(.ref b4)])) _
    refine XS.astoreN X4.here hx rfl (hb hby d2_4) rfl rfl (l' := #[.val (.ref a1), .val (.ref b4), .unset]) rfl ?_
    show Steps p.tables e below (T4.setTop (mkF m 5 #[.val (.ref a1), .val (.ref b4), .unset] [])) _
    refine XS.iconst X4.here hx rfl (hb hby d2_5) ?_
    show Steps p.tables e below (T4.setTop (mkF m 6 #[.val (.ref a1), .val (.ref b4), .unset] [(.int (0 : Int32))])) _
    refine XS.istoreN X4.here hx rfl (hb hby d2_6) rfl (l' := #[.val (.ref a1), .val (.ref b4), .val (.int (0 : Int32))]) rfl ?_
    show Steps p.tables e below (T4.setTop (mkF m 7 #[.val (.ref a1), .val (.ref b4), .val (.int (0 : Int32))] [])) _
    refine XS.iloadN X4.here hx rfl (hb hby d2_7) rfl ?_
    show Steps p.tables e below (T4.setTop (mkF m 8 #[.val (.ref a1), .val (.ref b4), .val (.int (0 : Int32))] [(.int (0 : Int32))])) _
    refine XS.aloadN X4.here hx rfl (hb hby d2_8) rfl rfl ?_
    exact kt
  have f7 := (V1.ext E4)
  obtain ⟨cl8, Ar8, qk8, Sz8, Nn8, Hh8, Gg8⟩ := id f7
  have pre9 : ∀ t, Steps p.tables e below (T4.setTop (mkF m 17 #[.val (.ref a1), .val (.ref b4), .val (.int (0 : Int32))] [(.int (0 : Int32)), (.ref a1), (.int (0 : Int32)), (.ref b4)])) t → Steps p.tables e below (s₁.setTop (entryFrame m #[(.ref a1)] 3)) t := fun t kt => by
    refine pre6 _ ?_
    show Steps p.tables e below (T4.setTop (mkF m 9 #[.val (.ref a1), .val (.ref b4), .val (.int (0 : Int32))] [(.ref a1), (.int (0 : Int32))])) _
    refine X4.arraylength hx (by rw [e4]; exact Ar8.1) (State.isArrayOf_alike hZ.alike Ar8.2.1) (g := (mkF m 9 #[.val (.ref a1), .val (.ref b4), .val (.int (0 : Int32))] [(.ref a1), (.int (0 : Int32))])) rfl rfl (hb hby d2_9) _ ?_
    rw [len_of Sz8 Nn8]
    show Steps p.tables e below (T4.setTop (mkF m 10 #[.val (.ref a1), .val (.ref b4), .val (.int (0 : Int32))] [(.int (3 : Int32)), (.int (0 : Int32))])) _
    refine XS.icmpNo X4.here hx rfl (hb hby d2_10) rfl (tlt (by decide : (0 : Int32) < (3 : Int32))).2.1 ?_
    show Steps p.tables e below (T4.setTop (mkF m 13 #[.val (.ref a1), .val (.ref b4), .val (.int (0 : Int32))] [])) _
    refine XS.aloadN X4.here hx rfl (hb hby d2_13) rfl rfl ?_
    show Steps p.tables e below (T4.setTop (mkF m 14 #[.val (.ref a1), .val (.ref b4), .val (.int (0 : Int32))] [(.ref b4)])) _
    refine XS.iloadN X4.here hx rfl (hb hby d2_14) rfl ?_
    show Steps p.tables e below (T4.setTop (mkF m 15 #[.val (.ref a1), .val (.ref b4), .val (.int (0 : Int32))] [(.int (0 : Int32)), (.ref b4)])) _
    refine XS.aloadN X4.here hx rfl (hb hby d2_15) rfl rfl ?_
    show Steps p.tables e below (T4.setTop (mkF m 16 #[.val (.ref a1), .val (.ref b4), .val (.int (0 : Int32))] [(.ref a1), (.int (0 : Int32)), (.ref b4)])) _
    refine XS.iloadN X4.here hx rfl (hb hby d2_16) rfl ?_
    exact kt
  obtain ⟨cl10, Ar10, qk10, Sz10, Nn10, Hh10, Gg10⟩ := id f7
  have hin10 : ¬ ((0 : Int32) < 0 ∨ cl10.slots.size ≤ ((0 : Int32)).toNatClampNeg) := inb_of Sz10 ⟨by decide, by decide⟩
  have hat10 : cl10.slots[((0 : Int32)).toNatClampNeg]? = some (.double x0) := Hh10.at hin10 rfl
  obtain ⟨cl11, Ar11, qk11, Sz11, Nn11, Hh11, Gg11⟩ := id V4
  have hin11 : ¬ ((0 : Int32) < 0 ∨ cl11.slots.size ≤ ((0 : Int32)).toNatClampNeg) := inb_of Sz11 ⟨by decide, by decide⟩
  have pre12 : ∀ t, Steps p.tables e below (T4.setTop (mkF m 20 #[.val (.ref a1), .val (.ref b4), .val (.int (0 : Int32))] [(.double (own_r x0)), (.int (0 : Int32)), (.ref b4)])) t → Steps p.tables e below (s₁.setTop (entryFrame m #[(.ref a1)] 3)) t := fun t kt => by
    refine pre9 _ ?_
    show Steps p.tables e below (T4.setTop (mkF m 17 #[.val (.ref a1), .val (.ref b4), .val (.int (0 : Int32))] [(.int (0 : Int32)), (.ref a1), (.int (0 : Int32)), (.ref b4)])) _
    refine X4.daload hx (j := (0 : Int32)) (v := (.double x0)) (by rw [e4]; exact Ar10.1) (State.isArrayOf_alike hZ.alike Ar10.2.1) Ar10.2.2 hin10 hat10 (g := (mkF m 17 #[.val (.ref a1), .val (.ref b4), .val (.int (0 : Int32))] [(.int (0 : Int32)), (.ref a1), (.int (0 : Int32)), (.ref b4)])) rfl rfl (hb hby d2_17) _ ?_
    show Steps p.tables e below (T4.setTop (mkF m 18 #[.val (.ref a1), .val (.ref b4), .val (.int (0 : Int32))] [(.double x0), (.int (0 : Int32)), (.ref b4)])) _
    refine XS.dconst0 X4.here hx rfl (hb hby d2_18) rfl ?_
    show Steps p.tables e below (T4.setTop (mkF m 19 #[.val (.ref a1), .val (.ref b4), .val (.int (0 : Int32))] [(.double (0 : UInt64)), (.double x0), (.int (0 : Int32)), (.ref b4)])) _
    refine XS.daddS X4.here hx rfl (hb hby d2_19) rfl (own_r_nn f0) rfl ?_
    exact kt
  obtain ⟨T13, h13, X13, e13, W13, st13⟩ := stD X4 hx hZ e4 Ar11 (j := (0 : Int32)) hin11 (g := (mkF m 20 #[.val (.ref a1), .val (.ref b4), .val (.int (0 : Int32))] [(.double (own_r x0)), (.int (0 : Int32)), (.ref b4)])) rfl rfl (hb hby d2_20)
  have V13 := Arv.set Ar11 qk11 Sz11 Nn11 Hh11 Gg11 rfl W13 0 rfl (Nat.le_of_ble_eq_true rfl)
  have V13' : Arv Z h13 b4 k4 .double (3 : Int32) [(.double (own_r x0)), (.double 0), (.double 0)] (.double 0) := V13
  have N13 := Fr.snoc X13 N0 gg_b4
  have pre14 : ∀ t, Steps p.tables e below (T13.setTop (mkF m 21 #[.val (.ref a1), .val (.ref b4), .val (.int (0 : Int32))] [])) t → Steps p.tables e below (s₁.setTop (entryFrame m #[(.ref a1)] 3)) t := fun t kt => pre12 _ (st13 _ kt)
  have pre15 : ∀ t, Steps p.tables e below (T13.setTop (mkF m 9 #[.val (.ref a1), .val (.ref b4), .val (.int (1 : Int32))] [(.ref a1), (.int (1 : Int32))])) t → Steps p.tables e below (s₁.setTop (entryFrame m #[(.ref a1)] 3)) t := fun t kt => by
    refine pre14 _ ?_
    show Steps p.tables e below (T13.setTop (mkF m 21 #[.val (.ref a1), .val (.ref b4), .val (.int (0 : Int32))] [])) _
    refine XS.iinc X13.here hx rfl (hb hby d2_21) rfl (l' := #[.val (.ref a1), .val (.ref b4), .val (.int ((0 : Int32) + (1 : Int32)))]) rfl ?_
    show Steps p.tables e below (T13.setTop (mkF m 24 #[.val (.ref a1), .val (.ref b4), .val (.int ((0 : Int32) + (1 : Int32)))] [])) _
    show Steps p.tables e below (T13.setTop (mkF m 24 #[.val (.ref a1), .val (.ref b4), .val (.int (1 : Int32))] [])) _
    refine XS.goto X13.here hx rfl (pc0 := 24) (pc' := 7) rfl (hb hby d2_24) (by decide) (by decide) ?_
    show Steps p.tables e below (T13.setTop (mkF m 7 #[.val (.ref a1), .val (.ref b4), .val (.int (1 : Int32))] [])) _
    refine XS.iloadN X13.here hx rfl (hb hby d2_7) rfl ?_
    show Steps p.tables e below (T13.setTop (mkF m 8 #[.val (.ref a1), .val (.ref b4), .val (.int (1 : Int32))] [(.int (1 : Int32))])) _
    refine XS.aloadN X13.here hx rfl (hb hby d2_8) rfl rfl ?_
    exact kt
  have f16 := (f7.other W13 (Nat.ne_of_lt (Nat.lt_of_lt_of_le V1.lt (Nat.le_of_eq gq4.symm))))
  obtain ⟨cl17, Ar17, qk17, Sz17, Nn17, Hh17, Gg17⟩ := id f16
  have pre18 : ∀ t, Steps p.tables e below (T13.setTop (mkF m 17 #[.val (.ref a1), .val (.ref b4), .val (.int (1 : Int32))] [(.int (1 : Int32)), (.ref a1), (.int (1 : Int32)), (.ref b4)])) t → Steps p.tables e below (s₁.setTop (entryFrame m #[(.ref a1)] 3)) t := fun t kt => by
    refine pre15 _ ?_
    show Steps p.tables e below (T13.setTop (mkF m 9 #[.val (.ref a1), .val (.ref b4), .val (.int (1 : Int32))] [(.ref a1), (.int (1 : Int32))])) _
    refine X13.arraylength hx (by rw [e13]; exact Ar17.1) (State.isArrayOf_alike hZ.alike Ar17.2.1) (g := (mkF m 9 #[.val (.ref a1), .val (.ref b4), .val (.int (1 : Int32))] [(.ref a1), (.int (1 : Int32))])) rfl rfl (hb hby d2_9) _ ?_
    rw [len_of Sz17 Nn17]
    show Steps p.tables e below (T13.setTop (mkF m 10 #[.val (.ref a1), .val (.ref b4), .val (.int (1 : Int32))] [(.int (3 : Int32)), (.int (1 : Int32))])) _
    refine XS.icmpNo X13.here hx rfl (hb hby d2_10) rfl (tlt (by decide : (1 : Int32) < (3 : Int32))).2.1 ?_
    show Steps p.tables e below (T13.setTop (mkF m 13 #[.val (.ref a1), .val (.ref b4), .val (.int (1 : Int32))] [])) _
    refine XS.aloadN X13.here hx rfl (hb hby d2_13) rfl rfl ?_
    show Steps p.tables e below (T13.setTop (mkF m 14 #[.val (.ref a1), .val (.ref b4), .val (.int (1 : Int32))] [(.ref b4)])) _
    refine XS.iloadN X13.here hx rfl (hb hby d2_14) rfl ?_
    show Steps p.tables e below (T13.setTop (mkF m 15 #[.val (.ref a1), .val (.ref b4), .val (.int (1 : Int32))] [(.int (1 : Int32)), (.ref b4)])) _
    refine XS.aloadN X13.here hx rfl (hb hby d2_15) rfl rfl ?_
    show Steps p.tables e below (T13.setTop (mkF m 16 #[.val (.ref a1), .val (.ref b4), .val (.int (1 : Int32))] [(.ref a1), (.int (1 : Int32)), (.ref b4)])) _
    refine XS.iloadN X13.here hx rfl (hb hby d2_16) rfl ?_
    exact kt
  obtain ⟨cl19, Ar19, qk19, Sz19, Nn19, Hh19, Gg19⟩ := id f16
  have hin19 : ¬ ((1 : Int32) < 0 ∨ cl19.slots.size ≤ ((1 : Int32)).toNatClampNeg) := inb_of Sz19 ⟨by decide, by decide⟩
  have hat19 : cl19.slots[((1 : Int32)).toNatClampNeg]? = some (.double x1) := Hh19.at hin19 rfl
  obtain ⟨cl20, Ar20, qk20, Sz20, Nn20, Hh20, Gg20⟩ := id V13'
  have hin20 : ¬ ((1 : Int32) < 0 ∨ cl20.slots.size ≤ ((1 : Int32)).toNatClampNeg) := inb_of Sz20 ⟨by decide, by decide⟩
  have pre21 : ∀ t, Steps p.tables e below (T13.setTop (mkF m 20 #[.val (.ref a1), .val (.ref b4), .val (.int (1 : Int32))] [(.double (own_r x1)), (.int (1 : Int32)), (.ref b4)])) t → Steps p.tables e below (s₁.setTop (entryFrame m #[(.ref a1)] 3)) t := fun t kt => by
    refine pre18 _ ?_
    show Steps p.tables e below (T13.setTop (mkF m 17 #[.val (.ref a1), .val (.ref b4), .val (.int (1 : Int32))] [(.int (1 : Int32)), (.ref a1), (.int (1 : Int32)), (.ref b4)])) _
    refine X13.daload hx (j := (1 : Int32)) (v := (.double x1)) (by rw [e13]; exact Ar19.1) (State.isArrayOf_alike hZ.alike Ar19.2.1) Ar19.2.2 hin19 hat19 (g := (mkF m 17 #[.val (.ref a1), .val (.ref b4), .val (.int (1 : Int32))] [(.int (1 : Int32)), (.ref a1), (.int (1 : Int32)), (.ref b4)])) rfl rfl (hb hby d2_17) _ ?_
    show Steps p.tables e below (T13.setTop (mkF m 18 #[.val (.ref a1), .val (.ref b4), .val (.int (1 : Int32))] [(.double x1), (.int (1 : Int32)), (.ref b4)])) _
    refine XS.dconst0 X13.here hx rfl (hb hby d2_18) rfl ?_
    show Steps p.tables e below (T13.setTop (mkF m 19 #[.val (.ref a1), .val (.ref b4), .val (.int (1 : Int32))] [(.double (0 : UInt64)), (.double x1), (.int (1 : Int32)), (.ref b4)])) _
    refine XS.daddS X13.here hx rfl (hb hby d2_19) rfl (own_r_nn f1) rfl ?_
    exact kt
  obtain ⟨T22, h22, X22, e22, W22, st22⟩ := stD X13 hx hZ e13 Ar20 (j := (1 : Int32)) hin20 (g := (mkF m 20 #[.val (.ref a1), .val (.ref b4), .val (.int (1 : Int32))] [(.double (own_r x1)), (.int (1 : Int32)), (.ref b4)])) rfl rfl (hb hby d2_20)
  have V22 := Arv.set Ar20 qk20 Sz20 Nn20 Hh20 Gg20 rfl W22 1 rfl (Nat.le_of_ble_eq_true rfl)
  have V22' : Arv Z h22 b4 k4 .double (3 : Int32) [(.double (own_r x0)), (.double (own_r x1)), (.double 0)] (.double 0) := V22
  have N22 := Fr.snoc X22 N13 gg_b4
  have pre23 : ∀ t, Steps p.tables e below (T22.setTop (mkF m 21 #[.val (.ref a1), .val (.ref b4), .val (.int (1 : Int32))] [])) t → Steps p.tables e below (s₁.setTop (entryFrame m #[(.ref a1)] 3)) t := fun t kt => pre21 _ (st22 _ kt)
  have pre24 : ∀ t, Steps p.tables e below (T22.setTop (mkF m 9 #[.val (.ref a1), .val (.ref b4), .val (.int (2 : Int32))] [(.ref a1), (.int (2 : Int32))])) t → Steps p.tables e below (s₁.setTop (entryFrame m #[(.ref a1)] 3)) t := fun t kt => by
    refine pre23 _ ?_
    show Steps p.tables e below (T22.setTop (mkF m 21 #[.val (.ref a1), .val (.ref b4), .val (.int (1 : Int32))] [])) _
    refine XS.iinc X22.here hx rfl (hb hby d2_21) rfl (l' := #[.val (.ref a1), .val (.ref b4), .val (.int ((1 : Int32) + (1 : Int32)))]) rfl ?_
    show Steps p.tables e below (T22.setTop (mkF m 24 #[.val (.ref a1), .val (.ref b4), .val (.int ((1 : Int32) + (1 : Int32)))] [])) _
    show Steps p.tables e below (T22.setTop (mkF m 24 #[.val (.ref a1), .val (.ref b4), .val (.int (2 : Int32))] [])) _
    refine XS.goto X22.here hx rfl (pc0 := 24) (pc' := 7) rfl (hb hby d2_24) (by decide) (by decide) ?_
    show Steps p.tables e below (T22.setTop (mkF m 7 #[.val (.ref a1), .val (.ref b4), .val (.int (2 : Int32))] [])) _
    refine XS.iloadN X22.here hx rfl (hb hby d2_7) rfl ?_
    show Steps p.tables e below (T22.setTop (mkF m 8 #[.val (.ref a1), .val (.ref b4), .val (.int (2 : Int32))] [(.int (2 : Int32))])) _
    refine XS.aloadN X22.here hx rfl (hb hby d2_8) rfl rfl ?_
    exact kt
  have f25 := (f16.other W22 (Nat.ne_of_lt (Nat.lt_of_lt_of_le V1.lt (Nat.le_of_eq gq4.symm))))
  obtain ⟨cl26, Ar26, qk26, Sz26, Nn26, Hh26, Gg26⟩ := id f25
  have pre27 : ∀ t, Steps p.tables e below (T22.setTop (mkF m 17 #[.val (.ref a1), .val (.ref b4), .val (.int (2 : Int32))] [(.int (2 : Int32)), (.ref a1), (.int (2 : Int32)), (.ref b4)])) t → Steps p.tables e below (s₁.setTop (entryFrame m #[(.ref a1)] 3)) t := fun t kt => by
    refine pre24 _ ?_
    show Steps p.tables e below (T22.setTop (mkF m 9 #[.val (.ref a1), .val (.ref b4), .val (.int (2 : Int32))] [(.ref a1), (.int (2 : Int32))])) _
    refine X22.arraylength hx (by rw [e22]; exact Ar26.1) (State.isArrayOf_alike hZ.alike Ar26.2.1) (g := (mkF m 9 #[.val (.ref a1), .val (.ref b4), .val (.int (2 : Int32))] [(.ref a1), (.int (2 : Int32))])) rfl rfl (hb hby d2_9) _ ?_
    rw [len_of Sz26 Nn26]
    show Steps p.tables e below (T22.setTop (mkF m 10 #[.val (.ref a1), .val (.ref b4), .val (.int (2 : Int32))] [(.int (3 : Int32)), (.int (2 : Int32))])) _
    refine XS.icmpNo X22.here hx rfl (hb hby d2_10) rfl (tlt (by decide : (2 : Int32) < (3 : Int32))).2.1 ?_
    show Steps p.tables e below (T22.setTop (mkF m 13 #[.val (.ref a1), .val (.ref b4), .val (.int (2 : Int32))] [])) _
    refine XS.aloadN X22.here hx rfl (hb hby d2_13) rfl rfl ?_
    show Steps p.tables e below (T22.setTop (mkF m 14 #[.val (.ref a1), .val (.ref b4), .val (.int (2 : Int32))] [(.ref b4)])) _
    refine XS.iloadN X22.here hx rfl (hb hby d2_14) rfl ?_
    show Steps p.tables e below (T22.setTop (mkF m 15 #[.val (.ref a1), .val (.ref b4), .val (.int (2 : Int32))] [(.int (2 : Int32)), (.ref b4)])) _
    refine XS.aloadN X22.here hx rfl (hb hby d2_15) rfl rfl ?_
    show Steps p.tables e below (T22.setTop (mkF m 16 #[.val (.ref a1), .val (.ref b4), .val (.int (2 : Int32))] [(.ref a1), (.int (2 : Int32)), (.ref b4)])) _
    refine XS.iloadN X22.here hx rfl (hb hby d2_16) rfl ?_
    exact kt
  obtain ⟨cl28, Ar28, qk28, Sz28, Nn28, Hh28, Gg28⟩ := id f25
  have hin28 : ¬ ((2 : Int32) < 0 ∨ cl28.slots.size ≤ ((2 : Int32)).toNatClampNeg) := inb_of Sz28 ⟨by decide, by decide⟩
  have hat28 : cl28.slots[((2 : Int32)).toNatClampNeg]? = some (.double x2) := Hh28.at hin28 rfl
  obtain ⟨cl29, Ar29, qk29, Sz29, Nn29, Hh29, Gg29⟩ := id V22'
  have hin29 : ¬ ((2 : Int32) < 0 ∨ cl29.slots.size ≤ ((2 : Int32)).toNatClampNeg) := inb_of Sz29 ⟨by decide, by decide⟩
  have pre30 : ∀ t, Steps p.tables e below (T22.setTop (mkF m 20 #[.val (.ref a1), .val (.ref b4), .val (.int (2 : Int32))] [(.double (own_r x2)), (.int (2 : Int32)), (.ref b4)])) t → Steps p.tables e below (s₁.setTop (entryFrame m #[(.ref a1)] 3)) t := fun t kt => by
    refine pre27 _ ?_
    show Steps p.tables e below (T22.setTop (mkF m 17 #[.val (.ref a1), .val (.ref b4), .val (.int (2 : Int32))] [(.int (2 : Int32)), (.ref a1), (.int (2 : Int32)), (.ref b4)])) _
    refine X22.daload hx (j := (2 : Int32)) (v := (.double x2)) (by rw [e22]; exact Ar28.1) (State.isArrayOf_alike hZ.alike Ar28.2.1) Ar28.2.2 hin28 hat28 (g := (mkF m 17 #[.val (.ref a1), .val (.ref b4), .val (.int (2 : Int32))] [(.int (2 : Int32)), (.ref a1), (.int (2 : Int32)), (.ref b4)])) rfl rfl (hb hby d2_17) _ ?_
    show Steps p.tables e below (T22.setTop (mkF m 18 #[.val (.ref a1), .val (.ref b4), .val (.int (2 : Int32))] [(.double x2), (.int (2 : Int32)), (.ref b4)])) _
    refine XS.dconst0 X22.here hx rfl (hb hby d2_18) rfl ?_
    show Steps p.tables e below (T22.setTop (mkF m 19 #[.val (.ref a1), .val (.ref b4), .val (.int (2 : Int32))] [(.double (0 : UInt64)), (.double x2), (.int (2 : Int32)), (.ref b4)])) _
    refine XS.daddS X22.here hx rfl (hb hby d2_19) rfl (own_r_nn f2) rfl ?_
    exact kt
  obtain ⟨T31, h31, X31, e31, W31, st31⟩ := stD X22 hx hZ e22 Ar29 (j := (2 : Int32)) hin29 (g := (mkF m 20 #[.val (.ref a1), .val (.ref b4), .val (.int (2 : Int32))] [(.double (own_r x2)), (.int (2 : Int32)), (.ref b4)])) rfl rfl (hb hby d2_20)
  have V31 := Arv.set Ar29 qk29 Sz29 Nn29 Hh29 Gg29 rfl W31 2 rfl (Nat.le_of_ble_eq_true rfl)
  have V31' : Arv Z h31 b4 k4 .double (3 : Int32) [(.double (own_r x0)), (.double (own_r x1)), (.double (own_r x2))] (.double 0) := V31
  have N31 := Fr.snoc X31 N22 gg_b4
  have pre32 : ∀ t, Steps p.tables e below (T31.setTop (mkF m 21 #[.val (.ref a1), .val (.ref b4), .val (.int (2 : Int32))] [])) t → Steps p.tables e below (s₁.setTop (entryFrame m #[(.ref a1)] 3)) t := fun t kt => pre30 _ (st31 _ kt)
  have pre33 : ∀ t, Steps p.tables e below (T31.setTop (mkF m 9 #[.val (.ref a1), .val (.ref b4), .val (.int (3 : Int32))] [(.ref a1), (.int (3 : Int32))])) t → Steps p.tables e below (s₁.setTop (entryFrame m #[(.ref a1)] 3)) t := fun t kt => by
    refine pre32 _ ?_
    show Steps p.tables e below (T31.setTop (mkF m 21 #[.val (.ref a1), .val (.ref b4), .val (.int (2 : Int32))] [])) _
    refine XS.iinc X31.here hx rfl (hb hby d2_21) rfl (l' := #[.val (.ref a1), .val (.ref b4), .val (.int ((2 : Int32) + (1 : Int32)))]) rfl ?_
    show Steps p.tables e below (T31.setTop (mkF m 24 #[.val (.ref a1), .val (.ref b4), .val (.int ((2 : Int32) + (1 : Int32)))] [])) _
    show Steps p.tables e below (T31.setTop (mkF m 24 #[.val (.ref a1), .val (.ref b4), .val (.int (3 : Int32))] [])) _
    refine XS.goto X31.here hx rfl (pc0 := 24) (pc' := 7) rfl (hb hby d2_24) (by decide) (by decide) ?_
    show Steps p.tables e below (T31.setTop (mkF m 7 #[.val (.ref a1), .val (.ref b4), .val (.int (3 : Int32))] [])) _
    refine XS.iloadN X31.here hx rfl (hb hby d2_7) rfl ?_
    show Steps p.tables e below (T31.setTop (mkF m 8 #[.val (.ref a1), .val (.ref b4), .val (.int (3 : Int32))] [(.int (3 : Int32))])) _
    refine XS.aloadN X31.here hx rfl (hb hby d2_8) rfl rfl ?_
    exact kt
  have f34 := (f25.other W31 (Nat.ne_of_lt (Nat.lt_of_lt_of_le V1.lt (Nat.le_of_eq gq4.symm))))
  obtain ⟨cl35, Ar35, qk35, Sz35, Nn35, Hh35, Gg35⟩ := id f34
  have k36 : Keep h0 h31 [] := ((((K0.ext E4).wr W13 (Or.inr sz_b4)).wr W22 (Or.inr sz_b4)).wr W31 (Or.inr sz_b4))
  have pre37 : ∀ t, Steps p.tables e below (T31.setTop (mkF m 28 #[.val (.ref a1), .val (.ref b4), .val (.int (3 : Int32))] [(.ref b4)])) t → Steps p.tables e below (s₁.setTop (entryFrame m #[(.ref a1)] 3)) t := fun t kt => by
    refine pre33 _ ?_
    show Steps p.tables e below (T31.setTop (mkF m 9 #[.val (.ref a1), .val (.ref b4), .val (.int (3 : Int32))] [(.ref a1), (.int (3 : Int32))])) _
    refine X31.arraylength hx (by rw [e31]; exact Ar35.1) (State.isArrayOf_alike hZ.alike Ar35.2.1) (g := (mkF m 9 #[.val (.ref a1), .val (.ref b4), .val (.int (3 : Int32))] [(.ref a1), (.int (3 : Int32))])) rfl rfl (hb hby d2_9) _ ?_
    rw [len_of Sz35 Nn35]
    show Steps p.tables e below (T31.setTop (mkF m 10 #[.val (.ref a1), .val (.ref b4), .val (.int (3 : Int32))] [(.int (3 : Int32)), (.int (3 : Int32))])) _
    refine XS.icmpYes X31.here hx rfl (pc0 := 10) (pc' := 27) rfl (hb hby d2_10) rfl (flt (by decide : ¬ ((3 : Int32) < (3 : Int32)))).2.1 (by decide) (by decide) ?_
    show Steps p.tables e below (T31.setTop (mkF m 27 #[.val (.ref a1), .val (.ref b4), .val (.int (3 : Int32))] [])) _
    refine XS.aloadN X31.here hx rfl (hb hby d2_27) rfl rfl ?_
    exact kt
  obtain ⟨fs, hr, hrun, hended, hW, hsame⟩ := X31.leave (v := (some (.ref b4))) (fun h => by rw [Bd.returns] at h; cases h)
  refine ⟨_, _, pre37 _ ?_, hrun, hended, _, _, rfl, ?_, ⟨_, rfl⟩, hW, hsame.mono (by decide) (by decide)⟩
  · show Steps p.tables e below (T31.setTop (mkF m 28 #[.val (.ref a1), .val (.ref b4), .val (.int (3 : Int32))] [(.ref b4)])) _
    exact retOut X31 hx (t := (.array .double)) Bd.returns rfl (Or.inr (Or.inr (Or.inr (Or.inr ⟨rfl, rfl, rfl⟩)))) (hb hby d2_28) hr
  · show Q2m3 Z a1 k1 x0 x1 x2 h0 n0 _ T31.heap _
    rw [e31]
    exact ⟨by rw [gq4], N31, k36, _, by rw [← gq4]; exact V31'⟩
theorem ef_3n (m : MethodId) (a1 : Addr) (a2 : Addr) (x2 : UInt64) (p3 : Int32) (p4 : Int32) : entryFrame m #[(.ref a1), (.ref a2), (.double x2), (.int p3), (.int p4)] 8 = (mkF m 0 #[.val (.ref a1), .val (.ref a2), .val (.double x2), .second, .val (.int p3), .val (.int p4), .unset, .unset] []) := by first | (simp [entryFrame, mkF, argsToLocals, Value.category]; done) | rfl
theorem d3_0 : decode method_3_code 0 = .ok (.iload 4, 2) := by decide +kernel
theorem d3_2 : decode method_3_code 2 = .ok (.iload 5, 2) := by decide +kernel
theorem d3_4 : decode method_3_code 4 = .ok (.if_icmp .lt 5, 3) := by decide +kernel
theorem d3_7 : decode method_3_code 7 = .ok (.iconst 1, 1) := by decide +kernel
theorem d3_8 : decode method_3_code 8 = .ok (.ireturn, 1) := by decide +kernel
def Q3n (Z : State) (a1 : Addr) (a2 : Addr) (x2 : UInt64) (p3 : Int32) (p4 : Int32) (h0 : Heap) (n0 : Nat) (v : Option Value) (h : Heap) (L : List Loc) : Prop := v = some (.int (1 : Int32)) ∧ Fr n0 L ∧ h = h0
set_option maxRecDepth 65536 in
set_option maxHeartbeats 40000000 in
theorem rm3n (l : Launch) (Z : State) (a0 : Array Value) (hw : ∀ d ∈ tables_1, d.before a0 Z = true) (ws : List Jvm.Cond) (a1 : Addr) (a2 : Addr) (x2 : UInt64) (p3 : Int32) (p4 : Int32) (h0 : Heap) (n0 : Nat) (Z0 : n0 ≤ h0.size) (hc : ¬ (p3 < p4)) :
    MetFree l (⟨"com/example/vidura/vidura/stats/ValuesSignedZeroFreePinLaw", "ok", "([D[DDII)Z"⟩ : MethodName) (head1 (Jvm.Cond.code (⟨"com/example/vidura/vidura/stats/ValuesSignedZeroFreePinLaw", "ok", "([D[DDII)Z"⟩ : MethodName) method_3_code 8 (some .boolean) :: ws) ({ frames := 0, cells := 0, slots := 0, locals := 0 } : Room)) (fun a U => a = #[(.ref a1), (.ref a2), (.double x2), (.int p3), (.int p4)] ∧ Z.Warmed39 U.vm ∧ U.heap = h0) (fun _ _ _ _ _ => True) (fun _ U o U' => ∃ v L, o = .returned v ∧ Q3n Z a1 a2 x2 p3 p4 h0 n0 v U'.heap L ∧ FrameEnd U o U' L ({ frames := 0, cells := 0, slots := 0, locals := 0 } : Room).cells ({ frames := 0, cells := 0, slots := 0, locals := 0 } : Room).slots) := by
  refine MetFree.of_bodySF (plainFor_of_name pn_0) hisR ?_
  intro p e s m args below meth c s₁ Bd hml0 hP hK
  obtain ⟨rfl, hZ, hh⟩ := hP
  have hx := Bd.exec
  have hby := Bd.bytes
  have hml : c.maxLocals = 8 := hml0
  have hown : s.vm.findClass "com/example/vidura/vidura/stats/ValuesSignedZeroFreePinLaw" = some m.cls := findClass_of_methodNamed Bd.named
  have hnm := (name_of_methodNamed Bd.named Bd.method).1
  have X0 : Stand p l e ({ frames := 0, cells := 0, slots := 0, locals := 0 } : Room) s m #[(.ref a1), (.ref a2), (.double x2), (.int p3), (.int p4)] below meth c s₁ [] 0 0 := Stand.of_body Bd
  have e0 : s₁.heap = h0 := by rw [← hh, Bd.state]; rfl
  have N0 := Fr.nil n0
  have pre0 : ∀ t, Steps p.tables e below (s₁.setTop (mkF m 0 #[.val (.ref a1), .val (.ref a2), .val (.double x2), .second, .val (.int p3), .val (.int p4), .unset, .unset] [])) t → Steps p.tables e below (s₁.setTop (entryFrame m #[(.ref a1), (.ref a2), (.double x2), (.int p3), (.int p4)] 8)) t := fun t k => castTop (ef_3n m a1 a2 x2 p3 p4) k
  have pre1 : ∀ t, Steps p.tables e below (s₁.setTop (mkF m 8 #[.val (.ref a1), .val (.ref a2), .val (.double x2), .second, .val (.int p3), .val (.int p4), .unset, .unset] [(.int (1 : Int32))])) t → Steps p.tables e below (s₁.setTop (entryFrame m #[(.ref a1), (.ref a2), (.double x2), (.int p3), (.int p4)] 8)) t := fun t kt => by
    refine pre0 _ ?_
    show Steps p.tables e below (s₁.setTop (mkF m 0 #[.val (.ref a1), .val (.ref a2), .val (.double x2), .second, .val (.int p3), .val (.int p4), .unset, .unset] [])) _
    refine XS.iload X0.here hx rfl (hb hby d3_0) rfl ?_
    show Steps p.tables e below (s₁.setTop (mkF m 2 #[.val (.ref a1), .val (.ref a2), .val (.double x2), .second, .val (.int p3), .val (.int p4), .unset, .unset] [(.int p3)])) _
    refine XS.iload X0.here hx rfl (hb hby d3_2) rfl ?_
    show Steps p.tables e below (s₁.setTop (mkF m 4 #[.val (.ref a1), .val (.ref a2), .val (.double x2), .second, .val (.int p3), .val (.int p4), .unset, .unset] [(.int p4), (.int p3)])) _
    refine XS.icmpNo X0.here hx rfl (hb hby d3_4) rfl (flt (hc : ¬ (p3 < p4))).1 ?_
    show Steps p.tables e below (s₁.setTop (mkF m 7 #[.val (.ref a1), .val (.ref a2), .val (.double x2), .second, .val (.int p3), .val (.int p4), .unset, .unset] [])) _
    refine XS.iconst X0.here hx rfl (hb hby d3_7) ?_
    exact kt
  obtain ⟨fs, hr, hrun, hended, hW, hsame⟩ := X0.leave (v := (some (.int (1 : Int32)))) (fun h => by rw [Bd.returns] at h; cases h)
  refine ⟨_, _, pre1 _ ?_, hrun, hended, _, _, rfl, ?_, ⟨_, rfl⟩, hW, hsame.mono (by decide) (by decide)⟩
  · show Steps p.tables e below (s₁.setTop (mkF m 8 #[.val (.ref a1), .val (.ref a2), .val (.double x2), .second, .val (.int p3), .val (.int p4), .unset, .unset] [(.int (1 : Int32))])) _
    exact retN X0 hx (t := .boolean) Bd.returns (by simp) (hb hby d3_8) hr
  · show Q3n Z a1 a2 x2 p3 p4 h0 n0 _ s₁.heap _
    rw [e0]
    exact ⟨rfl, N0, rfl⟩
theorem ef_3 (m : MethodId) (a1 : Addr) (a2 : Addr) (x2 : UInt64) (p3 : Int32) (p4 : Int32) : entryFrame m #[(.ref a1), (.ref a2), (.double x2), (.int p3), (.int p4)] 8 = (mkF m 0 #[.val (.ref a1), .val (.ref a2), .val (.double x2), .second, .val (.int p3), .val (.int p4), .unset, .unset] []) := by first | (simp [entryFrame, mkF, argsToLocals, Value.category]; done) | rfl
theorem d3_9 : decode method_3_code 9 = .ok (.aload_n 1, 1) := by decide +kernel
theorem d3_10 : decode method_3_code 10 = .ok (.iload 4, 2) := by decide +kernel
theorem d3_12 : decode method_3_code 12 = .ok (.daload, 1) := by decide +kernel
theorem d3_13 : decode method_3_code 13 = .ok (.dstore 6, 2) := by decide +kernel
theorem d3_15 : decode method_3_code 15 = .ok (.dload 6, 2) := by decide +kernel
theorem d3_17 : decode method_3_code 17 = .ok (.dload_n 2, 1) := by decide +kernel
theorem d3_18 : decode method_3_code 18 = .ok (.dcmp .l, 1) := by decide +kernel
theorem d3_19 : decode method_3_code 19 = .ok (.ifCond .eq 5, 3) := by decide +kernel
theorem d3_24 : decode method_3_code 24 = .ok (.dload_n 2, 1) := by decide +kernel
theorem d3_25 : decode method_3_code 25 = .ok (.dconst 0, 1) := by decide +kernel
theorem d3_26 : decode method_3_code 26 = .ok (.dcmp .l, 1) := by decide +kernel
theorem d3_27 : decode method_3_code 27 = .ok (.ifCond .ne 14, 3) := by decide +kernel
theorem d3_30 : decode method_3_code 30 = .ok (.dconst 0, 1) := by decide +kernel
theorem d3_31 : decode method_3_code 31 = .ok (.dconst 1, 1) := by decide +kernel
theorem d3_32 : decode method_3_code 32 = .ok (.dload 6, 2) := by decide +kernel
theorem d3_34 : decode method_3_code 34 = .ok (.ddiv, 1) := by decide +kernel
theorem d3_35 : decode method_3_code 35 = .ok (.dcmp .g, 1) := by decide +kernel
theorem d3_36 : decode method_3_code 36 = .ok (.ifCond .lt 5, 3) := by decide +kernel
theorem d3_41 : decode method_3_code 41 = .ok (.aload_n 0, 1) := by decide +kernel
theorem d3_42 : decode method_3_code 42 = .ok (.iload 4, 2) := by decide +kernel
theorem d3_44 : decode method_3_code 44 = .ok (.daload, 1) := by decide +kernel
theorem d3_45 : decode method_3_code 45 = .ok (.dload_n 2, 1) := by decide +kernel
theorem d3_46 : decode method_3_code 46 = .ok (.dcmp .l, 1) := by decide +kernel
theorem d3_47 : decode method_3_code 47 = .ok (.ifCond .eq 5, 3) := by decide +kernel
theorem d3_52 : decode method_3_code 52 = .ok (.dconst 1, 1) := by decide +kernel
theorem d3_53 : decode method_3_code 53 = .ok (.aload_n 0, 1) := by decide +kernel
theorem d3_54 : decode method_3_code 54 = .ok (.iload 4, 2) := by decide +kernel
theorem d3_56 : decode method_3_code 56 = .ok (.daload, 1) := by decide +kernel
theorem d3_57 : decode method_3_code 57 = .ok (.ddiv, 1) := by decide +kernel
theorem d3_58 : decode method_3_code 58 = .ok (.dconst 0, 1) := by decide +kernel
theorem d3_59 : decode method_3_code 59 = .ok (.dcmp .g, 1) := by decide +kernel
theorem d3_60 : decode method_3_code 60 = .ok (.ifCond .ge 7, 3) := by decide +kernel
theorem d3_63 : decode method_3_code 63 = .ok (.iconst 1, 1) := by decide +kernel
theorem d3_64 : decode method_3_code 64 = .ok (.goto 4, 3) := by decide +kernel
theorem d3_68 : decode method_3_code 68 = .ok (.dconst 1, 1) := by decide +kernel
theorem d3_69 : decode method_3_code 69 = .ok (.dload_n 2, 1) := by decide +kernel
theorem d3_70 : decode method_3_code 70 = .ok (.ddiv, 1) := by decide +kernel
theorem d3_71 : decode method_3_code 71 = .ok (.dconst 0, 1) := by decide +kernel
theorem d3_72 : decode method_3_code 72 = .ok (.dcmp .g, 1) := by decide +kernel
theorem d3_73 : decode method_3_code 73 = .ok (.ifCond .ge 7, 3) := by decide +kernel
theorem d3_76 : decode method_3_code 76 = .ok (.iconst 1, 1) := by decide +kernel
theorem d3_77 : decode method_3_code 77 = .ok (.goto 4, 3) := by decide +kernel
theorem d3_81 : decode method_3_code 81 = .ok (.if_icmp .eq 5, 3) := by decide +kernel
theorem d3_86 : decode method_3_code 86 = .ok (.iconst 1, 1) := by decide +kernel
theorem d3_87 : decode method_3_code 87 = .ok (.ireturn, 1) := by decide +kernel
theorem d3_67 : decode method_3_code 67 = .ok (.iconst 0, 1) := by decide +kernel
theorem d3_80 : decode method_3_code 80 = .ok (.iconst 0, 1) := by decide +kernel
def Q3 (Z : State) (a1 : Addr) (a2 : Addr) (x2 : UInt64) (p3 : Int32) (p4 : Int32) (k1 : ClassId) (k2 : ClassId) (vs1 : List Value) (vs2 : List Value) (h0 : Heap) (n0 : Nat) (v : Option Value) (h : Heap) (L : List Loc) : Prop := v = some (.int (1 : Int32)) ∧ Fr n0 L ∧ h = h0
set_option maxRecDepth 65536 in
set_option maxHeartbeats 40000000 in
theorem rm3 (l : Launch) (Z : State) (a0 : Array Value) (hw : ∀ d ∈ tables_1, d.before a0 Z = true) (ws : List Jvm.Cond) (a1 : Addr) (a2 : Addr) (x2 : UInt64) (p3 : Int32) (p4 : Int32) (k1 : ClassId) (k2 : ClassId) (vs1 : List Value) (vs2 : List Value) (h0 : Heap) (n0 : Nat) (Z0 : n0 ≤ h0.size) (V1 : Arv Z h0 a1 k1 .double p4 vs1 (.double 0)) (V2 : Arv Z h0 a2 k2 .double p4 vs2 (.double 0)) (h0i : ¬ p3 < 0) (hc : p3 < p4) (e1 : vs1.getD p3.toNatClampNeg (.double 0) = (.double x2)) (e2 : vs2.getD p3.toNatClampNeg (.double 0) = (.double (own_r x2))) (hf : Fl.Fin64 x2) :
    MetFree l (⟨"com/example/vidura/vidura/stats/ValuesSignedZeroFreePinLaw", "ok", "([D[DDII)Z"⟩ : MethodName) (head1 (Jvm.Cond.code (⟨"com/example/vidura/vidura/stats/ValuesSignedZeroFreePinLaw", "ok", "([D[DDII)Z"⟩ : MethodName) method_3_code 8 (some .boolean) :: ws) ({ frames := 0, cells := 0, slots := 0, locals := 0 } : Room)) (fun a U => a = #[(.ref a1), (.ref a2), (.double x2), (.int p3), (.int p4)] ∧ Z.Warmed39 U.vm ∧ U.heap = h0) (fun _ _ _ _ _ => True) (fun _ U o U' => ∃ v L, o = .returned v ∧ Q3 Z a1 a2 x2 p3 p4 k1 k2 vs1 vs2 h0 n0 v U'.heap L ∧ FrameEnd U o U' L ({ frames := 0, cells := 0, slots := 0, locals := 0 } : Room).cells ({ frames := 0, cells := 0, slots := 0, locals := 0 } : Room).slots) := by
  refine MetFree.of_bodySF (plainFor_of_name pn_0) hisR ?_
  intro p e s m args below meth c s₁ Bd hml0 hP hK
  obtain ⟨rfl, hZ, hh⟩ := hP
  have hx := Bd.exec
  have hby := Bd.bytes
  have hml : c.maxLocals = 8 := hml0
  have hown : s.vm.findClass "com/example/vidura/vidura/stats/ValuesSignedZeroFreePinLaw" = some m.cls := findClass_of_methodNamed Bd.named
  have hnm := (name_of_methodNamed Bd.named Bd.method).1
  have X0 : Stand p l e ({ frames := 0, cells := 0, slots := 0, locals := 0 } : Room) s m #[(.ref a1), (.ref a2), (.double x2), (.int p3), (.int p4)] below meth c s₁ [] 0 0 := Stand.of_body Bd
  have e0 : s₁.heap = h0 := by rw [← hh, Bd.state]; rfl
  have N0 := Fr.nil n0
  have pre0 : ∀ t, Steps p.tables e below (s₁.setTop (mkF m 0 #[.val (.ref a1), .val (.ref a2), .val (.double x2), .second, .val (.int p3), .val (.int p4), .unset, .unset] [])) t → Steps p.tables e below (s₁.setTop (entryFrame m #[(.ref a1), (.ref a2), (.double x2), (.int p3), (.int p4)] 8)) t := fun t k => castTop (ef_3 m a1 a2 x2 p3 p4) k
  have pre1 : ∀ t, Steps p.tables e below (s₁.setTop (mkF m 12 #[.val (.ref a1), .val (.ref a2), .val (.double x2), .second, .val (.int p3), .val (.int p4), .unset, .unset] [(.int p3), (.ref a2)])) t → Steps p.tables e below (s₁.setTop (entryFrame m #[(.ref a1), (.ref a2), (.double x2), (.int p3), (.int p4)] 8)) t := fun t kt => by
    refine pre0 _ ?_
    show Steps p.tables e below (s₁.setTop (mkF m 0 #[.val (.ref a1), .val (.ref a2), .val (.double x2), .second, .val (.int p3), .val (.int p4), .unset, .unset] [])) _
    refine XS.iload X0.here hx rfl (hb hby d3_0) rfl ?_
    show Steps p.tables e below (s₁.setTop (mkF m 2 #[.val (.ref a1), .val (.ref a2), .val (.double x2), .second, .val (.int p3), .val (.int p4), .unset, .unset] [(.int p3)])) _
    refine XS.iload X0.here hx rfl (hb hby d3_2) rfl ?_
    show Steps p.tables e below (s₁.setTop (mkF m 4 #[.val (.ref a1), .val (.ref a2), .val (.double x2), .second, .val (.int p3), .val (.int p4), .unset, .unset] [(.int p4), (.int p3)])) _
    refine XS.icmpYes X0.here hx rfl (pc0 := 4) (pc' := 9) rfl (hb hby d3_4) rfl (tlt (hc : p3 < p4)).1 (by decide) (by decide) ?_
    show Steps p.tables e below (s₁.setTop (mkF m 9 #[.val (.ref a1), .val (.ref a2), .val (.double x2), .second, .val (.int p3), .val (.int p4), .unset, .unset] [])) _
    refine XS.aloadN X0.here hx rfl (hb hby d3_9) rfl rfl ?_
    show Steps p.tables e below (s₁.setTop (mkF m 10 #[.val (.ref a1), .val (.ref a2), .val (.double x2), .second, .val (.int p3), .val (.int p4), .unset, .unset] [(.ref a2)])) _
    refine XS.iload X0.here hx rfl (hb hby d3_10) rfl ?_
    exact kt
  obtain ⟨cl2, Ar2, qk2, Sz2, Nn2, Hh2, Gg2⟩ := id V2
  have hin2 : ¬ (p3 < 0 ∨ cl2.slots.size ≤ (p3).toNatClampNeg) := inb_of Sz2 ⟨h0i, hc⟩
  have hat2 : cl2.slots[(p3).toNatClampNeg]? = some (.double (own_r x2)) := Hh2.at hin2 e2
  have pre3 : ∀ t, Steps p.tables e below (s₁.setTop (mkF m 27 #[.val (.ref a1), .val (.ref a2), .val (.double x2), .second, .val (.int p3), .val (.int p4), .val (.double (own_r x2)), .second] [(.int (cmpValue (FP.dcmp x2 (0 : UInt64)) .l))])) t → Steps p.tables e below (s₁.setTop (entryFrame m #[(.ref a1), (.ref a2), (.double x2), (.int p3), (.int p4)] 8)) t := fun t kt => by
    refine pre1 _ ?_
    show Steps p.tables e below (s₁.setTop (mkF m 12 #[.val (.ref a1), .val (.ref a2), .val (.double x2), .second, .val (.int p3), .val (.int p4), .unset, .unset] [(.int p3), (.ref a2)])) _
    refine X0.daload hx (j := p3) (v := (.double (own_r x2))) (by rw [e0]; exact Ar2.1) (State.isArrayOf_alike hZ.alike Ar2.2.1) Ar2.2.2 hin2 hat2 (g := (mkF m 12 #[.val (.ref a1), .val (.ref a2), .val (.double x2), .second, .val (.int p3), .val (.int p4), .unset, .unset] [(.int p3), (.ref a2)])) rfl rfl (hb hby d3_12) _ ?_
    show Steps p.tables e below (s₁.setTop (mkF m 13 #[.val (.ref a1), .val (.ref a2), .val (.double x2), .second, .val (.int p3), .val (.int p4), .unset, .unset] [(.double (own_r x2))])) _
    refine XS.dstore X0.here hx rfl (hb hby d3_13) rfl (l' := #[.val (.ref a1), .val (.ref a2), .val (.double x2), .second, .val (.int p3), .val (.int p4), .val (.double (own_r x2)), .second]) rfl ?_
    show Steps p.tables e below (s₁.setTop (mkF m 15 #[.val (.ref a1), .val (.ref a2), .val (.double x2), .second, .val (.int p3), .val (.int p4), .val (.double (own_r x2)), .second] [])) _
    refine XS.dload X0.here hx rfl (hb hby d3_15) rfl ?_
    show Steps p.tables e below (s₁.setTop (mkF m 17 #[.val (.ref a1), .val (.ref a2), .val (.double x2), .second, .val (.int p3), .val (.int p4), .val (.double (own_r x2)), .second] [(.double (own_r x2))])) _
    refine XS.dloadN X0.here hx rfl (hb hby d3_17) rfl ?_
    show Steps p.tables e below (s₁.setTop (mkF m 18 #[.val (.ref a1), .val (.ref a2), .val (.double x2), .second, .val (.int p3), .val (.int p4), .val (.double (own_r x2)), .second] [(.double x2), (.double (own_r x2))])) _
    refine XS.dcmpS X0.here hx rfl (hb hby d3_18) rfl (own_A hf _) ?_
    show Steps p.tables e below (s₁.setTop (mkF m 19 #[.val (.ref a1), .val (.ref a2), .val (.double x2), .second, .val (.int p3), .val (.int p4), .val (.double (own_r x2)), .second] [(.int (0 : Int32))])) _
    refine XS.ifYes X0.here hx rfl (pc0 := 19) (pc' := 24) rfl (hb hby d3_19) rfl ((if0 _ _).trans (teq (by decide : (0 : Int32) = (0 : Int32))).1) (by decide) (by decide) ?_
    show Steps p.tables e below (s₁.setTop (mkF m 24 #[.val (.ref a1), .val (.ref a2), .val (.double x2), .second, .val (.int p3), .val (.int p4), .val (.double (own_r x2)), .second] [])) _
    refine XS.dloadN X0.here hx rfl (hb hby d3_24) rfl ?_
    show Steps p.tables e below (s₁.setTop (mkF m 25 #[.val (.ref a1), .val (.ref a2), .val (.double x2), .second, .val (.int p3), .val (.int p4), .val (.double (own_r x2)), .second] [(.double x2)])) _
    refine XS.dconst0 X0.here hx rfl (hb hby d3_25) rfl ?_
    show Steps p.tables e below (s₁.setTop (mkF m 26 #[.val (.ref a1), .val (.ref a2), .val (.double x2), .second, .val (.int p3), .val (.int p4), .val (.double (own_r x2)), .second] [(.double (0 : UInt64)), (.double x2)])) _
    refine XS.dcmpS X0.here hx rfl (hb hby d3_26) rfl rfl ?_
    exact kt
  have pre4 : ∀ t, Steps p.tables e below (s₁.setTop (mkF m 41 #[.val (.ref a1), .val (.ref a2), .val (.double x2), .second, .val (.int p3), .val (.int p4), .val (.double (own_r x2)), .second] [])) t → Steps p.tables e below (s₁.setTop (entryFrame m #[(.ref a1), (.ref a2), (.double x2), (.int p3), (.int p4)] 8)) t := fun t kt => by
    by_cases c1 : (cmpValue (FP.dcmp x2 (0 : UInt64)) .l) = (0 : Int32)
    · have pre5 : ∀ t, Steps p.tables e below (s₁.setTop (mkF m 41 #[.val (.ref a1), .val (.ref a2), .val (.double x2), .second, .val (.int p3), .val (.int p4), .val (.double (own_r x2)), .second] [])) t → Steps p.tables e below (s₁.setTop (entryFrame m #[(.ref a1), (.ref a2), (.double x2), (.int p3), (.int p4)] 8)) t := fun t kt => by
        refine pre3 _ ?_
        show Steps p.tables e below (s₁.setTop (mkF m 27 #[.val (.ref a1), .val (.ref a2), .val (.double x2), .second, .val (.int p3), .val (.int p4), .val (.double (own_r x2)), .second] [(.int (cmpValue (FP.dcmp x2 (0 : UInt64)) .l))])) _
        refine XS.ifNo X0.here hx rfl (hb hby d3_27) rfl ((if0 _ _).trans (teq (c1 : (cmpValue (FP.dcmp x2 (0 : UInt64)) .l) = (0 : Int32))).2) ?_
        show Steps p.tables e below (s₁.setTop (mkF m 30 #[.val (.ref a1), .val (.ref a2), .val (.double x2), .second, .val (.int p3), .val (.int p4), .val (.double (own_r x2)), .second] [])) _
        refine XS.dconst0 X0.here hx rfl (hb hby d3_30) rfl ?_
        show Steps p.tables e below (s₁.setTop (mkF m 31 #[.val (.ref a1), .val (.ref a2), .val (.double x2), .second, .val (.int p3), .val (.int p4), .val (.double (own_r x2)), .second] [(.double (0 : UInt64))])) _
        refine XS.dconst1 X0.here hx rfl (hb hby d3_31) rfl ?_
        show Steps p.tables e below (s₁.setTop (mkF m 32 #[.val (.ref a1), .val (.ref a2), .val (.double x2), .second, .val (.int p3), .val (.int p4), .val (.double (own_r x2)), .second] [(.double (4607182418800017408 : UInt64)), (.double (0 : UInt64))])) _
        refine XS.dload X0.here hx rfl (hb hby d3_32) rfl ?_
        show Steps p.tables e below (s₁.setTop (mkF m 34 #[.val (.ref a1), .val (.ref a2), .val (.double x2), .second, .val (.int p3), .val (.int p4), .val (.double (own_r x2)), .second] [(.double (own_r x2)), (.double (4607182418800017408 : UInt64)), (.double (0 : UInt64))])) _
        refine XS.ddivS X0.here hx rfl (hb hby d3_34) rfl (own_1r hf) rfl ?_
        show Steps p.tables e below (s₁.setTop (mkF m 35 #[.val (.ref a1), .val (.ref a2), .val (.double x2), .second, .val (.int p3), .val (.int p4), .val (.double (own_r x2)), .second] [(.double (FP.ddiv (4607182418800017408 : UInt64) (own_r x2))), (.double (0 : UInt64))])) _
        refine XS.dcmpS X0.here hx rfl (hb hby d3_35) rfl (own_C hf c1) ?_
        show Steps p.tables e below (s₁.setTop (mkF m 36 #[.val (.ref a1), .val (.ref a2), .val (.double x2), .second, .val (.int p3), .val (.int p4), .val (.double (own_r x2)), .second] [(.int (-1 : Int32))])) _
        refine XS.ifYes X0.here hx rfl (pc0 := 36) (pc' := 41) rfl (hb hby d3_36) rfl ((if0 _ _).trans (tlt (by decide : (-1 : Int32) < (0 : Int32))).1) (by decide) (by decide) ?_
        exact kt
      exact pre5 _ kt
    · have pre6 : ∀ t, Steps p.tables e below (s₁.setTop (mkF m 41 #[.val (.ref a1), .val (.ref a2), .val (.double x2), .second, .val (.int p3), .val (.int p4), .val (.double (own_r x2)), .second] [])) t → Steps p.tables e below (s₁.setTop (entryFrame m #[(.ref a1), (.ref a2), (.double x2), (.int p3), (.int p4)] 8)) t := fun t kt => by
        refine pre3 _ ?_
        show Steps p.tables e below (s₁.setTop (mkF m 27 #[.val (.ref a1), .val (.ref a2), .val (.double x2), .second, .val (.int p3), .val (.int p4), .val (.double (own_r x2)), .second] [(.int (cmpValue (FP.dcmp x2 (0 : UInt64)) .l))])) _
        refine XS.ifYes X0.here hx rfl (pc0 := 27) (pc' := 41) rfl (hb hby d3_27) rfl ((if0 _ _).trans (feq (c1 : ¬ ((cmpValue (FP.dcmp x2 (0 : UInt64)) .l) = (0 : Int32)))).2) (by decide) (by decide) ?_
        exact kt
      exact pre6 _ kt
  have pre7 : ∀ t, Steps p.tables e below (s₁.setTop (mkF m 44 #[.val (.ref a1), .val (.ref a2), .val (.double x2), .second, .val (.int p3), .val (.int p4), .val (.double (own_r x2)), .second] [(.int p3), (.ref a1)])) t → Steps p.tables e below (s₁.setTop (entryFrame m #[(.ref a1), (.ref a2), (.double x2), (.int p3), (.int p4)] 8)) t := fun t kt => by
    refine pre4 _ ?_
    show Steps p.tables e below (s₁.setTop (mkF m 41 #[.val (.ref a1), .val (.ref a2), .val (.double x2), .second, .val (.int p3), .val (.int p4), .val (.double (own_r x2)), .second] [])) _
    refine XS.aloadN X0.here hx rfl (hb hby d3_41) rfl rfl ?_
    show Steps p.tables e below (s₁.setTop (mkF m 42 #[.val (.ref a1), .val (.ref a2), .val (.double x2), .second, .val (.int p3), .val (.int p4), .val (.double (own_r x2)), .second] [(.ref a1)])) _
    refine XS.iload X0.here hx rfl (hb hby d3_42) rfl ?_
    exact kt
  obtain ⟨cl8, Ar8, qk8, Sz8, Nn8, Hh8, Gg8⟩ := id V1
  have hin8 : ¬ (p3 < 0 ∨ cl8.slots.size ≤ (p3).toNatClampNeg) := inb_of Sz8 ⟨h0i, hc⟩
  have hat8 : cl8.slots[(p3).toNatClampNeg]? = some (.double x2) := Hh8.at hin8 e1
  have pre9 : ∀ t, Steps p.tables e below (s₁.setTop (mkF m 56 #[.val (.ref a1), .val (.ref a2), .val (.double x2), .second, .val (.int p3), .val (.int p4), .val (.double (own_r x2)), .second] [(.int p3), (.ref a1), (.double (4607182418800017408 : UInt64))])) t → Steps p.tables e below (s₁.setTop (entryFrame m #[(.ref a1), (.ref a2), (.double x2), (.int p3), (.int p4)] 8)) t := fun t kt => by
    refine pre7 _ ?_
    show Steps p.tables e below (s₁.setTop (mkF m 44 #[.val (.ref a1), .val (.ref a2), .val (.double x2), .second, .val (.int p3), .val (.int p4), .val (.double (own_r x2)), .second] [(.int p3), (.ref a1)])) _
    refine X0.daload hx (j := p3) (v := (.double x2)) (by rw [e0]; exact Ar8.1) (State.isArrayOf_alike hZ.alike Ar8.2.1) Ar8.2.2 hin8 hat8 (g := (mkF m 44 #[.val (.ref a1), .val (.ref a2), .val (.double x2), .second, .val (.int p3), .val (.int p4), .val (.double (own_r x2)), .second] [(.int p3), (.ref a1)])) rfl rfl (hb hby d3_44) _ ?_
    show Steps p.tables e below (s₁.setTop (mkF m 45 #[.val (.ref a1), .val (.ref a2), .val (.double x2), .second, .val (.int p3), .val (.int p4), .val (.double (own_r x2)), .second] [(.double x2)])) _
    refine XS.dloadN X0.here hx rfl (hb hby d3_45) rfl ?_
    show Steps p.tables e below (s₁.setTop (mkF m 46 #[.val (.ref a1), .val (.ref a2), .val (.double x2), .second, .val (.int p3), .val (.int p4), .val (.double (own_r x2)), .second] [(.double x2), (.double x2)])) _
    refine XS.dcmpS X0.here hx rfl (hb hby d3_46) rfl (dcmpV_self hf.noNaN _) ?_
    show Steps p.tables e below (s₁.setTop (mkF m 47 #[.val (.ref a1), .val (.ref a2), .val (.double x2), .second, .val (.int p3), .val (.int p4), .val (.double (own_r x2)), .second] [(.int (0 : Int32))])) _
    refine XS.ifYes X0.here hx rfl (pc0 := 47) (pc' := 52) rfl (hb hby d3_47) rfl ((if0 _ _).trans (teq (by decide : (0 : Int32) = (0 : Int32))).1) (by decide) (by decide) ?_
    show Steps p.tables e below (s₁.setTop (mkF m 52 #[.val (.ref a1), .val (.ref a2), .val (.double x2), .second, .val (.int p3), .val (.int p4), .val (.double (own_r x2)), .second] [])) _
    refine XS.dconst1 X0.here hx rfl (hb hby d3_52) rfl ?_
    show Steps p.tables e below (s₁.setTop (mkF m 53 #[.val (.ref a1), .val (.ref a2), .val (.double x2), .second, .val (.int p3), .val (.int p4), .val (.double (own_r x2)), .second] [(.double (4607182418800017408 : UInt64))])) _
    refine XS.aloadN X0.here hx rfl (hb hby d3_53) rfl rfl ?_
    show Steps p.tables e below (s₁.setTop (mkF m 54 #[.val (.ref a1), .val (.ref a2), .val (.double x2), .second, .val (.int p3), .val (.int p4), .val (.double (own_r x2)), .second] [(.ref a1), (.double (4607182418800017408 : UInt64))])) _
    refine XS.iload X0.here hx rfl (hb hby d3_54) rfl ?_
    exact kt
  obtain ⟨cl10, Ar10, qk10, Sz10, Nn10, Hh10, Gg10⟩ := id V1
  have hin10 : ¬ (p3 < 0 ∨ cl10.slots.size ≤ (p3).toNatClampNeg) := inb_of Sz10 ⟨h0i, hc⟩
  have hat10 : cl10.slots[(p3).toNatClampNeg]? = some (.double x2) := Hh10.at hin10 e1
  have pre11 : ∀ t, Steps p.tables e below (s₁.setTop (mkF m 60 #[.val (.ref a1), .val (.ref a2), .val (.double x2), .second, .val (.int p3), .val (.int p4), .val (.double (own_r x2)), .second] [(.int (cmpValue (FP.dcmp (FP.ddiv (4607182418800017408 : UInt64) x2) (0 : UInt64)) .g))])) t → Steps p.tables e below (s₁.setTop (entryFrame m #[(.ref a1), (.ref a2), (.double x2), (.int p3), (.int p4)] 8)) t := fun t kt => by
    refine pre9 _ ?_
    show Steps p.tables e below (s₁.setTop (mkF m 56 #[.val (.ref a1), .val (.ref a2), .val (.double x2), .second, .val (.int p3), .val (.int p4), .val (.double (own_r x2)), .second] [(.int p3), (.ref a1), (.double (4607182418800017408 : UInt64))])) _
    refine X0.daload hx (j := p3) (v := (.double x2)) (by rw [e0]; exact Ar10.1) (State.isArrayOf_alike hZ.alike Ar10.2.1) Ar10.2.2 hin10 hat10 (g := (mkF m 56 #[.val (.ref a1), .val (.ref a2), .val (.double x2), .second, .val (.int p3), .val (.int p4), .val (.double (own_r x2)), .second] [(.int p3), (.ref a1), (.double (4607182418800017408 : UInt64))])) rfl rfl (hb hby d3_56) _ ?_
    show Steps p.tables e below (s₁.setTop (mkF m 57 #[.val (.ref a1), .val (.ref a2), .val (.double x2), .second, .val (.int p3), .val (.int p4), .val (.double (own_r x2)), .second] [(.double x2), (.double (4607182418800017408 : UInt64))])) _
    refine XS.ddivS X0.here hx rfl (hb hby d3_57) rfl (own_1v hf) rfl ?_
    show Steps p.tables e below (s₁.setTop (mkF m 58 #[.val (.ref a1), .val (.ref a2), .val (.double x2), .second, .val (.int p3), .val (.int p4), .val (.double (own_r x2)), .second] [(.double (FP.ddiv (4607182418800017408 : UInt64) x2))])) _
    refine XS.dconst0 X0.here hx rfl (hb hby d3_58) rfl ?_
    show Steps p.tables e below (s₁.setTop (mkF m 59 #[.val (.ref a1), .val (.ref a2), .val (.double x2), .second, .val (.int p3), .val (.int p4), .val (.double (own_r x2)), .second] [(.double (0 : UInt64)), (.double (FP.ddiv (4607182418800017408 : UInt64) x2))])) _
    refine XS.dcmpS X0.here hx rfl (hb hby d3_59) rfl rfl ?_
    exact kt
  by_cases c2 : (cmpValue (FP.dcmp (FP.ddiv (4607182418800017408 : UInt64) x2) (0 : UInt64)) .g) < (0 : Int32)
  · have pre12 : ∀ t, Steps p.tables e below (s₁.setTop (mkF m 87 #[.val (.ref a1), .val (.ref a2), .val (.double x2), .second, .val (.int p3), .val (.int p4), .val (.double (own_r x2)), .second] [(.int (1 : Int32))])) t → Steps p.tables e below (s₁.setTop (entryFrame m #[(.ref a1), (.ref a2), (.double x2), (.int p3), (.int p4)] 8)) t := fun t kt => by
      refine pre11 _ ?_
      show Steps p.tables e below (s₁.setTop (mkF m 60 #[.val (.ref a1), .val (.ref a2), .val (.double x2), .second, .val (.int p3), .val (.int p4), .val (.double (own_r x2)), .second] [(.int (cmpValue (FP.dcmp (FP.ddiv (4607182418800017408 : UInt64) x2) (0 : UInt64)) .g))])) _
      refine XS.ifNo X0.here hx rfl (hb hby d3_60) rfl ((if0 _ _).trans (tlt (c2 : (cmpValue (FP.dcmp (FP.ddiv (4607182418800017408 : UInt64) x2) (0 : UInt64)) .g) < (0 : Int32))).2.1) ?_
      show Steps p.tables e below (s₁.setTop (mkF m 63 #[.val (.ref a1), .val (.ref a2), .val (.double x2), .second, .val (.int p3), .val (.int p4), .val (.double (own_r x2)), .second] [])) _
      refine XS.iconst X0.here hx rfl (hb hby d3_63) ?_
      show Steps p.tables e below (s₁.setTop (mkF m 64 #[.val (.ref a1), .val (.ref a2), .val (.double x2), .second, .val (.int p3), .val (.int p4), .val (.double (own_r x2)), .second] [(.int (1 : Int32))])) _
      refine XS.goto X0.here hx rfl (pc0 := 64) (pc' := 68) rfl (hb hby d3_64) (by decide) (by decide) ?_
      show Steps p.tables e below (s₁.setTop (mkF m 68 #[.val (.ref a1), .val (.ref a2), .val (.double x2), .second, .val (.int p3), .val (.int p4), .val (.double (own_r x2)), .second] [(.int (1 : Int32))])) _
      refine XS.dconst1 X0.here hx rfl (hb hby d3_68) rfl ?_
      show Steps p.tables e below (s₁.setTop (mkF m 69 #[.val (.ref a1), .val (.ref a2), .val (.double x2), .second, .val (.int p3), .val (.int p4), .val (.double (own_r x2)), .second] [(.double (4607182418800017408 : UInt64)), (.int (1 : Int32))])) _
      refine XS.dloadN X0.here hx rfl (hb hby d3_69) rfl ?_
      show Steps p.tables e below (s₁.setTop (mkF m 70 #[.val (.ref a1), .val (.ref a2), .val (.double x2), .second, .val (.int p3), .val (.int p4), .val (.double (own_r x2)), .second] [(.double x2), (.double (4607182418800017408 : UInt64)), (.int (1 : Int32))])) _
      refine XS.ddivS X0.here hx rfl (hb hby d3_70) rfl (own_1v hf) rfl ?_
      show Steps p.tables e below (s₁.setTop (mkF m 71 #[.val (.ref a1), .val (.ref a2), .val (.double x2), .second, .val (.int p3), .val (.int p4), .val (.double (own_r x2)), .second] [(.double (FP.ddiv (4607182418800017408 : UInt64) x2)), (.int (1 : Int32))])) _
      refine XS.dconst0 X0.here hx rfl (hb hby d3_71) rfl ?_
      show Steps p.tables e below (s₁.setTop (mkF m 72 #[.val (.ref a1), .val (.ref a2), .val (.double x2), .second, .val (.int p3), .val (.int p4), .val (.double (own_r x2)), .second] [(.double (0 : UInt64)), (.double (FP.ddiv (4607182418800017408 : UInt64) x2)), (.int (1 : Int32))])) _
      refine XS.dcmpS X0.here hx rfl (hb hby d3_72) rfl rfl ?_
      show Steps p.tables e below (s₁.setTop (mkF m 73 #[.val (.ref a1), .val (.ref a2), .val (.double x2), .second, .val (.int p3), .val (.int p4), .val (.double (own_r x2)), .second] [(.int (cmpValue (FP.dcmp (FP.ddiv (4607182418800017408 : UInt64) x2) (0 : UInt64)) .g)), (.int (1 : Int32))])) _
      refine XS.ifNo X0.here hx rfl (hb hby d3_73) rfl ((if0 _ _).trans (tlt (c2 : (cmpValue (FP.dcmp (FP.ddiv (4607182418800017408 : UInt64) x2) (0 : UInt64)) .g) < (0 : Int32))).2.1) ?_
      show Steps p.tables e below (s₁.setTop (mkF m 76 #[.val (.ref a1), .val (.ref a2), .val (.double x2), .second, .val (.int p3), .val (.int p4), .val (.double (own_r x2)), .second] [(.int (1 : Int32))])) _
      refine XS.iconst X0.here hx rfl (hb hby d3_76) ?_
      show Steps p.tables e below (s₁.setTop (mkF m 77 #[.val (.ref a1), .val (.ref a2), .val (.double x2), .second, .val (.int p3), .val (.int p4), .val (.double (own_r x2)), .second] [(.int (1 : Int32)), (.int (1 : Int32))])) _
      refine XS.goto X0.here hx rfl (pc0 := 77) (pc' := 81) rfl (hb hby d3_77) (by decide) (by decide) ?_
      show Steps p.tables e below (s₁.setTop (mkF m 81 #[.val (.ref a1), .val (.ref a2), .val (.double x2), .second, .val (.int p3), .val (.int p4), .val (.double (own_r x2)), .second] [(.int (1 : Int32)), (.int (1 : Int32))])) _
      refine XS.icmpYes X0.here hx rfl (pc0 := 81) (pc' := 86) rfl (hb hby d3_81) rfl (teq (by decide : (1 : Int32) = (1 : Int32))).1 (by decide) (by decide) ?_
      show Steps p.tables e below (s₁.setTop (mkF m 86 #[.val (.ref a1), .val (.ref a2), .val (.double x2), .second, .val (.int p3), .val (.int p4), .val (.double (own_r x2)), .second] [])) _
      refine XS.iconst X0.here hx rfl (hb hby d3_86) ?_
      exact kt
    obtain ⟨fs, hr, hrun, hended, hW, hsame⟩ := X0.leave (v := (some (.int (1 : Int32)))) (fun h => by rw [Bd.returns] at h; cases h)
    refine ⟨_, _, pre12 _ ?_, hrun, hended, _, _, rfl, ?_, ⟨_, rfl⟩, hW, hsame.mono (by decide) (by decide)⟩
    · show Steps p.tables e below (s₁.setTop (mkF m 87 #[.val (.ref a1), .val (.ref a2), .val (.double x2), .second, .val (.int p3), .val (.int p4), .val (.double (own_r x2)), .second] [(.int (1 : Int32))])) _
      exact retN X0 hx (t := .boolean) Bd.returns (by simp) (hb hby d3_87) hr
    · show Q3 Z a1 a2 x2 p3 p4 k1 k2 vs1 vs2 h0 n0 _ s₁.heap _
      rw [e0]
      exact ⟨rfl, N0, rfl⟩
  · have pre13 : ∀ t, Steps p.tables e below (s₁.setTop (mkF m 87 #[.val (.ref a1), .val (.ref a2), .val (.double x2), .second, .val (.int p3), .val (.int p4), .val (.double (own_r x2)), .second] [(.int (1 : Int32))])) t → Steps p.tables e below (s₁.setTop (entryFrame m #[(.ref a1), (.ref a2), (.double x2), (.int p3), (.int p4)] 8)) t := fun t kt => by
      refine pre11 _ ?_
      show Steps p.tables e below (s₁.setTop (mkF m 60 #[.val (.ref a1), .val (.ref a2), .val (.double x2), .second, .val (.int p3), .val (.int p4), .val (.double (own_r x2)), .second] [(.int (cmpValue (FP.dcmp (FP.ddiv (4607182418800017408 : UInt64) x2) (0 : UInt64)) .g))])) _
      refine XS.ifYes X0.here hx rfl (pc0 := 60) (pc' := 67) rfl (hb hby d3_60) rfl ((if0 _ _).trans (flt (c2 : ¬ ((cmpValue (FP.dcmp (FP.ddiv (4607182418800017408 : UInt64) x2) (0 : UInt64)) .g) < (0 : Int32)))).2.1) (by decide) (by decide) ?_
      show Steps p.tables e below (s₁.setTop (mkF m 67 #[.val (.ref a1), .val (.ref a2), .val (.double x2), .second, .val (.int p3), .val (.int p4), .val (.double (own_r x2)), .second] [])) _
      refine XS.iconst X0.here hx rfl (hb hby d3_67) ?_
      show Steps p.tables e below (s₁.setTop (mkF m 68 #[.val (.ref a1), .val (.ref a2), .val (.double x2), .second, .val (.int p3), .val (.int p4), .val (.double (own_r x2)), .second] [(.int (0 : Int32))])) _
      refine XS.dconst1 X0.here hx rfl (hb hby d3_68) rfl ?_
      show Steps p.tables e below (s₁.setTop (mkF m 69 #[.val (.ref a1), .val (.ref a2), .val (.double x2), .second, .val (.int p3), .val (.int p4), .val (.double (own_r x2)), .second] [(.double (4607182418800017408 : UInt64)), (.int (0 : Int32))])) _
      refine XS.dloadN X0.here hx rfl (hb hby d3_69) rfl ?_
      show Steps p.tables e below (s₁.setTop (mkF m 70 #[.val (.ref a1), .val (.ref a2), .val (.double x2), .second, .val (.int p3), .val (.int p4), .val (.double (own_r x2)), .second] [(.double x2), (.double (4607182418800017408 : UInt64)), (.int (0 : Int32))])) _
      refine XS.ddivS X0.here hx rfl (hb hby d3_70) rfl (own_1v hf) rfl ?_
      show Steps p.tables e below (s₁.setTop (mkF m 71 #[.val (.ref a1), .val (.ref a2), .val (.double x2), .second, .val (.int p3), .val (.int p4), .val (.double (own_r x2)), .second] [(.double (FP.ddiv (4607182418800017408 : UInt64) x2)), (.int (0 : Int32))])) _
      refine XS.dconst0 X0.here hx rfl (hb hby d3_71) rfl ?_
      show Steps p.tables e below (s₁.setTop (mkF m 72 #[.val (.ref a1), .val (.ref a2), .val (.double x2), .second, .val (.int p3), .val (.int p4), .val (.double (own_r x2)), .second] [(.double (0 : UInt64)), (.double (FP.ddiv (4607182418800017408 : UInt64) x2)), (.int (0 : Int32))])) _
      refine XS.dcmpS X0.here hx rfl (hb hby d3_72) rfl rfl ?_
      show Steps p.tables e below (s₁.setTop (mkF m 73 #[.val (.ref a1), .val (.ref a2), .val (.double x2), .second, .val (.int p3), .val (.int p4), .val (.double (own_r x2)), .second] [(.int (cmpValue (FP.dcmp (FP.ddiv (4607182418800017408 : UInt64) x2) (0 : UInt64)) .g)), (.int (0 : Int32))])) _
      refine XS.ifYes X0.here hx rfl (pc0 := 73) (pc' := 80) rfl (hb hby d3_73) rfl ((if0 _ _).trans (flt (c2 : ¬ ((cmpValue (FP.dcmp (FP.ddiv (4607182418800017408 : UInt64) x2) (0 : UInt64)) .g) < (0 : Int32)))).2.1) (by decide) (by decide) ?_
      show Steps p.tables e below (s₁.setTop (mkF m 80 #[.val (.ref a1), .val (.ref a2), .val (.double x2), .second, .val (.int p3), .val (.int p4), .val (.double (own_r x2)), .second] [(.int (0 : Int32))])) _
      refine XS.iconst X0.here hx rfl (hb hby d3_80) ?_
      show Steps p.tables e below (s₁.setTop (mkF m 81 #[.val (.ref a1), .val (.ref a2), .val (.double x2), .second, .val (.int p3), .val (.int p4), .val (.double (own_r x2)), .second] [(.int (0 : Int32)), (.int (0 : Int32))])) _
      refine XS.icmpYes X0.here hx rfl (pc0 := 81) (pc' := 86) rfl (hb hby d3_81) rfl (teq (by decide : (0 : Int32) = (0 : Int32))).1 (by decide) (by decide) ?_
      show Steps p.tables e below (s₁.setTop (mkF m 86 #[.val (.ref a1), .val (.ref a2), .val (.double x2), .second, .val (.int p3), .val (.int p4), .val (.double (own_r x2)), .second] [])) _
      refine XS.iconst X0.here hx rfl (hb hby d3_86) ?_
      exact kt
    obtain ⟨fs, hr, hrun, hended, hW, hsame⟩ := X0.leave (v := (some (.int (1 : Int32)))) (fun h => by rw [Bd.returns] at h; cases h)
    refine ⟨_, _, pre13 _ ?_, hrun, hended, _, _, rfl, ?_, ⟨_, rfl⟩, hW, hsame.mono (by decide) (by decide)⟩
    · show Steps p.tables e below (s₁.setTop (mkF m 87 #[.val (.ref a1), .val (.ref a2), .val (.double x2), .second, .val (.int p3), .val (.int p4), .val (.double (own_r x2)), .second] [(.int (1 : Int32))])) _
      exact retN X0 hx (t := .boolean) Bd.returns (by simp) (hb hby d3_87) hr
    · show Q3 Z a1 a2 x2 p3 p4 k1 k2 vs1 vs2 h0 n0 _ s₁.heap _
      rw [e0]
      exact ⟨rfl, N0, rfl⟩
theorem ef_0 (m : MethodId) (p0 : Int32) (p1 : Int32) (p2 : Int32) (p3 : Int32) (p4 : Int32) : entryFrame m #[(.int p0), (.int p1), (.int p2), (.int p3), (.int p4)] maxLocals = (mkF m 0 #[.val (.int p0), .val (.int p1), .val (.int p2), .val (.int p3), .val (.int p4), .unset, .unset, .unset, .unset, .unset, .unset, .unset, .unset, .unset] []) := by first | (simp [entryFrame, mkF, argsToLocals, Value.category, maxLocals]; done) | rfl
theorem pd_0 : parseMethodDescriptor "(III)D" = some ⟨[.int, .int, .int], some .double⟩ := by decide +kernel
theorem pd_1 : parseMethodDescriptor "([D)[D" = some ⟨[(.array .double)], some (.array .double)⟩ := by decide +kernel
theorem pd_2 : parseMethodDescriptor "([D[DDII)Z" = some ⟨[(.array .double), (.array .double), .double, .int, .int], some .boolean⟩ := by decide +kernel
def Q0 (Z : State) (p0 : Int32) (p1 : Int32) (p2 : Int32) (p3 : Int32) (p4 : Int32) (h0 : Heap) (n0 : Nat) (v : Option Value) (h : Heap) (L : List Loc) : Prop := v = some (.int (1 : Int32)) ∧ Fr n0 L
set_option maxRecDepth 65536 in
set_option maxHeartbeats 40000000 in
theorem rm0 (l : Launch) (Z : State) (a0 : Array Value) (hw : ∀ d ∈ tables_1, d.before a0 Z = true) (ws : List Jvm.Cond) (p0 : Int32) (p1 : Int32) (p2 : Int32) (p3 : Int32) (p4 : Int32) (h0 : Heap) (n0 : Nat) (Z0 : n0 ≤ h0.size) :
    MetFree l x (head1 (Jvm.Cond.code x code maxLocals ret :: ws) room_1) (fun a U => a = #[(.int p0), (.int p1), (.int p2), (.int p3), (.int p4)] ∧ Z.Warmed39 U.vm ∧ U.heap = h0) (fun _ _ _ _ _ => True) (fun _ U o U' => ∃ v L, o = .returned v ∧ Q0 Z p0 p1 p2 p3 p4 h0 n0 v U'.heap L ∧ FrameEnd U o U' L room_1.cells room_1.slots) := by
  refine MetFree.of_bodySF (plainFor_of_name pn_0) hisR ?_
  intro p e s m args below meth c s₁ Bd hml0 hP hK
  obtain ⟨rfl, hZ, hh⟩ := hP
  have hx := Bd.exec
  have hby := Bd.bytes
  have hml : c.maxLocals = 14 := hml0
  have hown : s.vm.findClass "com/example/vidura/vidura/stats/ValuesSignedZeroFreePinLaw" = some m.cls := findClass_of_methodNamed Bd.named
  have hnm := (name_of_methodNamed Bd.named Bd.method).1
  have X0 : Stand p l e room_1 s m #[(.int p0), (.int p1), (.int p2), (.int p3), (.int p4)] below meth c s₁ [] 0 0 := Stand.of_body Bd
  have e0 : s₁.heap = h0 := by rw [← hh, Bd.state]; rfl
  have N0 := Fr.nil n0
  have pre0 : ∀ t, Steps p.tables e below (s₁.setTop (mkF m 0 #[.val (.int p0), .val (.int p1), .val (.int p2), .val (.int p3), .val (.int p4), .unset, .unset, .unset, .unset, .unset, .unset, .unset, .unset, .unset] [])) t → Steps p.tables e below (s₁.setTop (entryFrame m #[(.int p0), (.int p1), (.int p2), (.int p3), (.int p4)] maxLocals)) t := fun t k => castTop (ef_0 m p0 p1 p2 p3 p4) k
  have pre1 : ∀ t, Steps p.tables e below (s₁.setTop (mkF m 9 #[.val (.int p0), .val (.int p1), .val (.int p2), .val (.int p3), .val (.int p4), .val (.int (own_n p0)), .unset, .unset, .unset, .unset, .unset, .unset, .unset, .unset] [(.int (0 : Int32)), (.int p4), (.int p1)])) t → Steps p.tables e below (s₁.setTop (entryFrame m #[(.int p0), (.int p1), (.int p2), (.int p3), (.int p4)] maxLocals)) t := fun t kt => by
    refine pre0 _ ?_
    show Steps p.tables e below (s₁.setTop (mkF m 0 #[.val (.int p0), .val (.int p1), .val (.int p2), .val (.int p3), .val (.int p4), .unset, .unset, .unset, .unset, .unset, .unset, .unset, .unset, .unset] [])) _
    refine XS.iloadN X0.here hx rfl (hb hby at_0) rfl ?_
    show Steps p.tables e below (s₁.setTop (mkF m 1 #[.val (.int p0), .val (.int p1), .val (.int p2), .val (.int p3), .val (.int p4), .unset, .unset, .unset, .unset, .unset, .unset, .unset, .unset, .unset] [(.int p0)])) _
    refine XS.iconst X0.here hx rfl (hb hby at_1) ?_
    show Steps p.tables e below (s₁.setTop (mkF m 2 #[.val (.int p0), .val (.int p1), .val (.int p2), .val (.int p3), .val (.int p4), .unset, .unset, .unset, .unset, .unset, .unset, .unset, .unset, .unset] [(.int (3 : Int32)), (.int p0)])) _
    refine XS.iand X0.here hx rfl (hb hby at_2) rfl ?_
    show Steps p.tables e below (s₁.setTop (mkF m 3 #[.val (.int p0), .val (.int p1), .val (.int p2), .val (.int p3), .val (.int p4), .unset, .unset, .unset, .unset, .unset, .unset, .unset, .unset, .unset] [(.int (own_n p0))])) _
    show Steps p.tables e below (s₁.setTop (mkF m 3 #[.val (.int p0), .val (.int p1), .val (.int p2), .val (.int p3), .val (.int p4), .unset, .unset, .unset, .unset, .unset, .unset, .unset, .unset, .unset] [(.int (own_n p0))])) _
    refine XS.istore X0.here hx rfl (hb hby at_3) rfl (l' := #[.val (.int p0), .val (.int p1), .val (.int p2), .val (.int p3), .val (.int p4), .val (.int (own_n p0)), .unset, .unset, .unset, .unset, .unset, .unset, .unset, .unset]) rfl ?_
    show Steps p.tables e below (s₁.setTop (mkF m 5 #[.val (.int p0), .val (.int p1), .val (.int p2), .val (.int p3), .val (.int p4), .val (.int (own_n p0)), .unset, .unset, .unset, .unset, .unset, .unset, .unset, .unset] [])) _
    refine XS.iloadN X0.here hx rfl (hb hby at_5) rfl ?_
    show Steps p.tables e below (s₁.setTop (mkF m 6 #[.val (.int p0), .val (.int p1), .val (.int p2), .val (.int p3), .val (.int p4), .val (.int (own_n p0)), .unset, .unset, .unset, .unset, .unset, .unset, .unset, .unset] [(.int p1)])) _
    refine XS.iload X0.here hx rfl (hb hby at_6) rfl ?_
    show Steps p.tables e below (s₁.setTop (mkF m 8 #[.val (.int p0), .val (.int p1), .val (.int p2), .val (.int p3), .val (.int p4), .val (.int (own_n p0)), .unset, .unset, .unset, .unset, .unset, .unset, .unset, .unset] [(.int p4), (.int p1)])) _
    refine XS.iconst X0.here hx rfl (hb hby at_8) ?_
    exact kt
  obtain ⟨_, _, ⟨T2, L2, kc2, nc2⟩, -, X2, ⟨Lc2, hQ2, l2, y2, z2⟩, st2⟩ := Jvm.LawKit.callS X0 hx (y := (⟨"com/example/vidura/vidura/stats/ValuesSignedZeroFreePinLaw", "value", "(III)D"⟩ : MethodName)) hown (mvT hZ (hw _ (List.mem_of_getElem? (i := 0) rfl))) (mvT hZ (hw _ (List.mem_of_getElem? (i := 1) rfl))) (mvT hZ (hw _ (List.mem_of_getElem? (i := 2) rfl))) (mvT hZ (hw _ (List.mem_of_getElem? (i := 3) rfl))) (by decide) (backOf (W := 0) (rm1 l Z a0 hw [] p1 p4 (0 : Int32) h0 n0 Z0) hZ (hw _ (List.mem_of_getElem? (i := 3) rfl)) (hw _ (List.mem_of_getElem? (i := 2) rfl)) (by decide) (by decide)) (g := (mkF m 9 #[.val (.int p0), .val (.int p1), .val (.int p2), .val (.int p3), .val (.int p4), .val (.int (own_n p0)), .unset, .unset, .unset, .unset, .unset, .unset, .unset, .unset] [(.int (0 : Int32)), (.int p4), (.int p1)])) rfl (by rw [hml]; rfl) (argsL := [(.int p1), (.int p4), (.int (0 : Int32))]) (rest := []) (lenOf pd_0 rfl) rfl (by show 2 * 0 + _ ≤ _; exact Nat.le_of_eq rfl) (hb hby at_9) (fun _ _ => ⟨rfl, e0, (by decide : 0 + 0 ≤ _), (by decide : 0 + 0 ≤ _)⟩)
  dsimp only [Pt.U, Pt.locs, Pt.cells, Pt.slots] at X2 l2 y2 z2 st2 hQ2
  subst l2 y2 z2
  obtain ⟨rfl, N2q, he2⟩ := hQ2
  have N2 := Fr.app N0 N2q
  have pre3 : ∀ t, Steps p.tables e below (T2.setTop (mkF m 12 #[.val (.int p0), .val (.int p1), .val (.int p2), .val (.int p3), .val (.int p4), .val (.int (own_n p0)), .unset, .unset, .unset, .unset, .unset, .unset, .unset, .unset] [(.double (own_v p1 p4 (0 : Int32)))])) t → Steps p.tables e below (s₁.setTop (entryFrame m #[(.int p0), (.int p1), (.int p2), (.int p3), (.int p4)] maxLocals)) t := fun t kt => pre1 _ (st2 _ kt)
  have pre4 : ∀ t, Steps p.tables e below (T2.setTop (mkF m 18 #[.val (.int p0), .val (.int p1), .val (.int p2), .val (.int p3), .val (.int p4), .val (.int (own_n p0)), .val (.double (own_v p1 p4 (0 : Int32))), .second, .unset, .unset, .unset, .unset, .unset, .unset] [(.int (1 : Int32)), (.int p4), (.int p2)])) t → Steps p.tables e below (s₁.setTop (entryFrame m #[(.int p0), (.int p1), (.int p2), (.int p3), (.int p4)] maxLocals)) t := fun t kt => by
    refine pre3 _ ?_
    show Steps p.tables e below (T2.setTop (mkF m 12 #[.val (.int p0), .val (.int p1), .val (.int p2), .val (.int p3), .val (.int p4), .val (.int (own_n p0)), .unset, .unset, .unset, .unset, .unset, .unset, .unset, .unset] [(.double (own_v p1 p4 (0 : Int32)))])) _
    refine XS.dstore X2.here hx rfl (hb hby at_12) rfl (l' := #[.val (.int p0), .val (.int p1), .val (.int p2), .val (.int p3), .val (.int p4), .val (.int (own_n p0)), .val (.double (own_v p1 p4 (0 : Int32))), .second, .unset, .unset, .unset, .unset, .unset, .unset]) rfl ?_
    show Steps p.tables e below (T2.setTop (mkF m 14 #[.val (.int p0), .val (.int p1), .val (.int p2), .val (.int p3), .val (.int p4), .val (.int (own_n p0)), .val (.double (own_v p1 p4 (0 : Int32))), .second, .unset, .unset, .unset, .unset, .unset, .unset] [])) _
    refine XS.iloadN X2.here hx rfl (hb hby at_14) rfl ?_
    show Steps p.tables e below (T2.setTop (mkF m 15 #[.val (.int p0), .val (.int p1), .val (.int p2), .val (.int p3), .val (.int p4), .val (.int (own_n p0)), .val (.double (own_v p1 p4 (0 : Int32))), .second, .unset, .unset, .unset, .unset, .unset, .unset] [(.int p2)])) _
    refine XS.iload X2.here hx rfl (hb hby at_15) rfl ?_
    show Steps p.tables e below (T2.setTop (mkF m 17 #[.val (.int p0), .val (.int p1), .val (.int p2), .val (.int p3), .val (.int p4), .val (.int (own_n p0)), .val (.double (own_v p1 p4 (0 : Int32))), .second, .unset, .unset, .unset, .unset, .unset, .unset] [(.int p4), (.int p2)])) _
    refine XS.iconst X2.here hx rfl (hb hby at_17) ?_
    exact kt
  obtain ⟨_, _, ⟨T5, L5, kc5, nc5⟩, -, X5, ⟨Lc5, hQ5, l5, y5, z5⟩, st5⟩ := Jvm.LawKit.callS X2 hx (y := (⟨"com/example/vidura/vidura/stats/ValuesSignedZeroFreePinLaw", "value", "(III)D"⟩ : MethodName)) hown (mvT hZ (hw _ (List.mem_of_getElem? (i := 0) rfl))) (mvT hZ (hw _ (List.mem_of_getElem? (i := 1) rfl))) (mvT hZ (hw _ (List.mem_of_getElem? (i := 2) rfl))) (mvT hZ (hw _ (List.mem_of_getElem? (i := 3) rfl))) (by decide) (backOf (W := 0) (rm1 l Z a0 hw [] p2 p4 (1 : Int32) h0 n0 Z0) hZ (hw _ (List.mem_of_getElem? (i := 3) rfl)) (hw _ (List.mem_of_getElem? (i := 2) rfl)) (by decide) (by decide)) (g := (mkF m 18 #[.val (.int p0), .val (.int p1), .val (.int p2), .val (.int p3), .val (.int p4), .val (.int (own_n p0)), .val (.double (own_v p1 p4 (0 : Int32))), .second, .unset, .unset, .unset, .unset, .unset, .unset] [(.int (1 : Int32)), (.int p4), (.int p2)])) rfl (by rw [hml]; rfl) (argsL := [(.int p2), (.int p4), (.int (1 : Int32))]) (rest := []) (lenOf pd_0 rfl) rfl (by show 2 * 0 + _ ≤ _; exact Nat.le_of_eq rfl) (hb hby at_18) (fun _ _ => ⟨rfl, he2, (by decide : 0 + 0 ≤ _), (by decide : 0 + 0 ≤ _)⟩)
  dsimp only [Pt.U, Pt.locs, Pt.cells, Pt.slots] at X5 l5 y5 z5 st5 hQ5
  subst l5 y5 z5
  obtain ⟨rfl, N5q, he5⟩ := hQ5
  have N5 := Fr.app N2 N5q
  have pre6 : ∀ t, Steps p.tables e below (T5.setTop (mkF m 21 #[.val (.int p0), .val (.int p1), .val (.int p2), .val (.int p3), .val (.int p4), .val (.int (own_n p0)), .val (.double (own_v p1 p4 (0 : Int32))), .second, .unset, .unset, .unset, .unset, .unset, .unset] [(.double (own_v p2 p4 (1 : Int32)))])) t → Steps p.tables e below (s₁.setTop (entryFrame m #[(.int p0), (.int p1), (.int p2), (.int p3), (.int p4)] maxLocals)) t := fun t kt => pre4 _ (st5 _ kt)
  have pre7 : ∀ t, Steps p.tables e below (T5.setTop (mkF m 27 #[.val (.int p0), .val (.int p1), .val (.int p2), .val (.int p3), .val (.int p4), .val (.int (own_n p0)), .val (.double (own_v p1 p4 (0 : Int32))), .second, .val (.double (own_v p2 p4 (1 : Int32))), .second, .unset, .unset, .unset, .unset] [(.int (2 : Int32)), (.int p4), (.int p3)])) t → Steps p.tables e below (s₁.setTop (entryFrame m #[(.int p0), (.int p1), (.int p2), (.int p3), (.int p4)] maxLocals)) t := fun t kt => by
    refine pre6 _ ?_
    show Steps p.tables e below (T5.setTop (mkF m 21 #[.val (.int p0), .val (.int p1), .val (.int p2), .val (.int p3), .val (.int p4), .val (.int (own_n p0)), .val (.double (own_v p1 p4 (0 : Int32))), .second, .unset, .unset, .unset, .unset, .unset, .unset] [(.double (own_v p2 p4 (1 : Int32)))])) _
    refine XS.dstore X5.here hx rfl (hb hby at_21) rfl (l' := #[.val (.int p0), .val (.int p1), .val (.int p2), .val (.int p3), .val (.int p4), .val (.int (own_n p0)), .val (.double (own_v p1 p4 (0 : Int32))), .second, .val (.double (own_v p2 p4 (1 : Int32))), .second, .unset, .unset, .unset, .unset]) rfl ?_
    show Steps p.tables e below (T5.setTop (mkF m 23 #[.val (.int p0), .val (.int p1), .val (.int p2), .val (.int p3), .val (.int p4), .val (.int (own_n p0)), .val (.double (own_v p1 p4 (0 : Int32))), .second, .val (.double (own_v p2 p4 (1 : Int32))), .second, .unset, .unset, .unset, .unset] [])) _
    refine XS.iloadN X5.here hx rfl (hb hby at_23) rfl ?_
    show Steps p.tables e below (T5.setTop (mkF m 24 #[.val (.int p0), .val (.int p1), .val (.int p2), .val (.int p3), .val (.int p4), .val (.int (own_n p0)), .val (.double (own_v p1 p4 (0 : Int32))), .second, .val (.double (own_v p2 p4 (1 : Int32))), .second, .unset, .unset, .unset, .unset] [(.int p3)])) _
    refine XS.iload X5.here hx rfl (hb hby at_24) rfl ?_
    show Steps p.tables e below (T5.setTop (mkF m 26 #[.val (.int p0), .val (.int p1), .val (.int p2), .val (.int p3), .val (.int p4), .val (.int (own_n p0)), .val (.double (own_v p1 p4 (0 : Int32))), .second, .val (.double (own_v p2 p4 (1 : Int32))), .second, .unset, .unset, .unset, .unset] [(.int p4), (.int p3)])) _
    refine XS.iconst X5.here hx rfl (hb hby at_26) ?_
    exact kt
  obtain ⟨_, _, ⟨T8, L8, kc8, nc8⟩, -, X8, ⟨Lc8, hQ8, l8, y8, z8⟩, st8⟩ := Jvm.LawKit.callS X5 hx (y := (⟨"com/example/vidura/vidura/stats/ValuesSignedZeroFreePinLaw", "value", "(III)D"⟩ : MethodName)) hown (mvT hZ (hw _ (List.mem_of_getElem? (i := 0) rfl))) (mvT hZ (hw _ (List.mem_of_getElem? (i := 1) rfl))) (mvT hZ (hw _ (List.mem_of_getElem? (i := 2) rfl))) (mvT hZ (hw _ (List.mem_of_getElem? (i := 3) rfl))) (by decide) (backOf (W := 0) (rm1 l Z a0 hw [] p3 p4 (2 : Int32) h0 n0 Z0) hZ (hw _ (List.mem_of_getElem? (i := 3) rfl)) (hw _ (List.mem_of_getElem? (i := 2) rfl)) (by decide) (by decide)) (g := (mkF m 27 #[.val (.int p0), .val (.int p1), .val (.int p2), .val (.int p3), .val (.int p4), .val (.int (own_n p0)), .val (.double (own_v p1 p4 (0 : Int32))), .second, .val (.double (own_v p2 p4 (1 : Int32))), .second, .unset, .unset, .unset, .unset] [(.int (2 : Int32)), (.int p4), (.int p3)])) rfl (by rw [hml]; rfl) (argsL := [(.int p3), (.int p4), (.int (2 : Int32))]) (rest := []) (lenOf pd_0 rfl) rfl (by show 2 * 0 + _ ≤ _; exact Nat.le_of_eq rfl) (hb hby at_27) (fun _ _ => ⟨rfl, he5, (by decide : 0 + 0 ≤ _), (by decide : 0 + 0 ≤ _)⟩)
  dsimp only [Pt.U, Pt.locs, Pt.cells, Pt.slots] at X8 l8 y8 z8 st8 hQ8
  subst l8 y8 z8
  obtain ⟨rfl, N8q, he8⟩ := hQ8
  have N8 := Fr.app N5 N8q
  have pre9 : ∀ t, Steps p.tables e below (T8.setTop (mkF m 30 #[.val (.int p0), .val (.int p1), .val (.int p2), .val (.int p3), .val (.int p4), .val (.int (own_n p0)), .val (.double (own_v p1 p4 (0 : Int32))), .second, .val (.double (own_v p2 p4 (1 : Int32))), .second, .unset, .unset, .unset, .unset] [(.double (own_v p3 p4 (2 : Int32)))])) t → Steps p.tables e below (s₁.setTop (entryFrame m #[(.int p0), (.int p1), (.int p2), (.int p3), (.int p4)] maxLocals)) t := fun t kt => pre7 _ (st8 _ kt)
  have pre10 : ∀ t, Steps p.tables e below (T8.setTop (mkF m 32 #[.val (.int p0), .val (.int p1), .val (.int p2), .val (.int p3), .val (.int p4), .val (.int (own_n p0)), .val (.double (own_v p1 p4 (0 : Int32))), .second, .val (.double (own_v p2 p4 (1 : Int32))), .second, .val (.double (own_v p3 p4 (2 : Int32))), .second, .unset, .unset] [])) t → Steps p.tables e below (s₁.setTop (entryFrame m #[(.int p0), (.int p1), (.int p2), (.int p3), (.int p4)] maxLocals)) t := fun t kt => by
    refine pre9 _ ?_
    show Steps p.tables e below (T8.setTop (mkF m 30 #[.val (.int p0), .val (.int p1), .val (.int p2), .val (.int p3), .val (.int p4), .val (.int (own_n p0)), .val (.double (own_v p1 p4 (0 : Int32))), .second, .val (.double (own_v p2 p4 (1 : Int32))), .second, .unset, .unset, .unset, .unset] [(.double (own_v p3 p4 (2 : Int32)))])) _
    refine XS.dstore X8.here hx rfl (hb hby at_30) rfl (l' := #[.val (.int p0), .val (.int p1), .val (.int p2), .val (.int p3), .val (.int p4), .val (.int (own_n p0)), .val (.double (own_v p1 p4 (0 : Int32))), .second, .val (.double (own_v p2 p4 (1 : Int32))), .second, .val (.double (own_v p3 p4 (2 : Int32))), .second, .unset, .unset]) rfl ?_
    exact kt
  rcases own_nf p0 with hn | hn | hn | hn
  · have pre11 : ∀ t, Steps p.tables e below (T8.setTop (mkF m 34 #[.val (.int p0), .val (.int p1), .val (.int p2), .val (.int p3), .val (.int p4), .val (.int (0 : Int32)), .val (.double (own_v p1 p4 (0 : Int32))), .second, .val (.double (own_v p2 p4 (1 : Int32))), .second, .val (.double (own_v p3 p4 (2 : Int32))), .second, .unset, .unset] [(.int (0 : Int32))])) t → Steps p.tables e below (s₁.setTop (entryFrame m #[(.int p0), (.int p1), (.int p2), (.int p3), (.int p4)] maxLocals)) t := fun t kt => by
      refine pre10 _ ?_
      show Steps p.tables e below (T8.setTop (mkF m 32 #[.val (.int p0), .val (.int p1), .val (.int p2), .val (.int p3), .val (.int p4), .val (.int (own_n p0)), .val (.double (own_v p1 p4 (0 : Int32))), .second, .val (.double (own_v p2 p4 (1 : Int32))), .second, .val (.double (own_v p3 p4 (2 : Int32))), .second, .unset, .unset] [])) _
      refine XS.iload X8.here hx rfl (hb hby at_32) rfl ?_
      show Steps p.tables e below (T8.setTop (mkF m 34 #[.val (.int p0), .val (.int p1), .val (.int p2), .val (.int p3), .val (.int p4), .val (.int (own_n p0)), .val (.double (own_v p1 p4 (0 : Int32))), .second, .val (.double (own_v p2 p4 (1 : Int32))), .second, .val (.double (own_v p3 p4 (2 : Int32))), .second, .unset, .unset] [(.int (own_n p0))])) _
      rw [show (own_n p0) = (0 : Int32) from hn]
      exact kt
    obtain ⟨T12, h12, k12, X12, e12, E12, A12, st12⟩ := newP X8 hx hZ (hw _ (List.mem_of_getElem? (i := 4) rfl)) he8 (g := (mkF m 34 #[.val (.int p0), .val (.int p1), .val (.int p2), .val (.int p3), .val (.int p4), .val (.int (0 : Int32)), .val (.double (own_v p1 p4 (0 : Int32))), .second, .val (.double (own_v p2 p4 (1 : Int32))), .second, .val (.double (own_v p3 p4 (2 : Int32))), .second, .unset, .unset] [(.int (0 : Int32))])) rfl (hb hby at_34) rfl (by decide) (cap := 0) (by decide) (by decide) (by decide) (by decide)
    obtain ⟨b12, gq12⟩ : ∃ z, z = h0.size := ⟨_, rfl⟩
    rw [← gq12] at A12 st12
    have gg_b12 : n0 ≤ b12 := Nat.le_trans Z0 (Nat.le_of_eq gq12.symm)
    have V12 : Arv Z h12 b12 k12 .double (0 : Int32) [] (.double 0) := Arv.new A12 (by decide)
    have pre13 : ∀ t, Steps p.tables e below (T12.setTop (mkF m 36 #[.val (.int p0), .val (.int p1), .val (.int p2), .val (.int p3), .val (.int p4), .val (.int (0 : Int32)), .val (.double (own_v p1 p4 (0 : Int32))), .second, .val (.double (own_v p2 p4 (1 : Int32))), .second, .val (.double (own_v p3 p4 (2 : Int32))), .second, .unset, .unset] [(.ref b12)])) t → Steps p.tables e below (s₁.setTop (entryFrame m #[(.int p0), (.int p1), (.int p2), (.int p3), (.int p4)] maxLocals)) t := fun t kt => pre11 _ (st12 _ kt)
    have z14 : n0 ≤ h12.size := (Nat.le_trans Z0 E12.1)
    have pre15 : ∀ t, Steps p.tables e below (T12.setTop (mkF m 75 #[.val (.int p0), .val (.int p1), .val (.int p2), .val (.int p3), .val (.int p4), .val (.int (0 : Int32)), .val (.double (own_v p1 p4 (0 : Int32))), .second, .val (.double (own_v p2 p4 (1 : Int32))), .second, .val (.double (own_v p3 p4 (2 : Int32))), .second, .val (.ref b12), .unset] [(.ref b12)])) t → Steps p.tables e below (s₁.setTop (entryFrame m #[(.int p0), (.int p1), (.int p2), (.int p3), (.int p4)] maxLocals)) t := fun t kt => by
      refine pre13 _ ?_
      show Steps p.tables e below (T12.setTop (mkF m 36 #[.val (.int p0), .val (.int p1), .val (.int p2), .val (.int p3), .val (.int p4), .val (.int (0 : Int32)), .val (.double (own_v p1 p4 (0 : Int32))), .second, .val (.double (own_v p2 p4 (1 : Int32))), .second, .val (.double (own_v p3 p4 (2 : Int32))), .second, .unset, .unset] [(.ref b12)])) _
      refine XS.astore X12.here hx rfl (hb hby at_36) rfl rfl (l' := #[.val (.int p0), .val (.int p1), .val (.int p2), .val (.int p3), .val (.int p4), .val (.int (0 : Int32)), .val (.double (own_v p1 p4 (0 : Int32))), .second, .val (.double (own_v p2 p4 (1 : Int32))), .second, .val (.double (own_v p3 p4 (2 : Int32))), .second, .val (.ref b12), .unset]) rfl ?_
      show Steps p.tables e below (T12.setTop (mkF m 38 #[.val (.int p0), .val (.int p1), .val (.int p2), .val (.int p3), .val (.int p4), .val (.int (0 : Int32)), .val (.double (own_v p1 p4 (0 : Int32))), .second, .val (.double (own_v p2 p4 (1 : Int32))), .second, .val (.double (own_v p3 p4 (2 : Int32))), .second, .val (.ref b12), .unset] [])) _
      refine XS.iload X12.here hx rfl (hb hby at_38) rfl ?_
      show Steps p.tables e below (T12.setTop (mkF m 40 #[.val (.int p0), .val (.int p1), .val (.int p2), .val (.int p3), .val (.int p4), .val (.int (0 : Int32)), .val (.double (own_v p1 p4 (0 : Int32))), .second, .val (.double (own_v p2 p4 (1 : Int32))), .second, .val (.double (own_v p3 p4 (2 : Int32))), .second, .val (.ref b12), .unset] [(.int (0 : Int32))])) _
      refine XS.ifYes X12.here hx rfl (pc0 := 40) (pc' := 49) rfl (hb hby at_40) rfl ((if0 _ _).trans (flt (by decide : ¬ ((0 : Int32) < (0 : Int32)))).2.2.2) (by decide) (by decide) ?_
      show Steps p.tables e below (T12.setTop (mkF m 49 #[.val (.int p0), .val (.int p1), .val (.int p2), .val (.int p3), .val (.int p4), .val (.int (0 : Int32)), .val (.double (own_v p1 p4 (0 : Int32))), .second, .val (.double (own_v p2 p4 (1 : Int32))), .second, .val (.double (own_v p3 p4 (2 : Int32))), .second, .val (.ref b12), .unset] [])) _
      refine XS.iload X12.here hx rfl (hb hby at_49) rfl ?_
      show Steps p.tables e below (T12.setTop (mkF m 51 #[.val (.int p0), .val (.int p1), .val (.int p2), .val (.int p3), .val (.int p4), .val (.int (0 : Int32)), .val (.double (own_v p1 p4 (0 : Int32))), .second, .val (.double (own_v p2 p4 (1 : Int32))), .second, .val (.double (own_v p3 p4 (2 : Int32))), .second, .val (.ref b12), .unset] [(.int (0 : Int32))])) _
      refine XS.iconst X12.here hx rfl (hb hby at_51) ?_
      show Steps p.tables e below (T12.setTop (mkF m 52 #[.val (.int p0), .val (.int p1), .val (.int p2), .val (.int p3), .val (.int p4), .val (.int (0 : Int32)), .val (.double (own_v p1 p4 (0 : Int32))), .second, .val (.double (own_v p2 p4 (1 : Int32))), .second, .val (.double (own_v p3 p4 (2 : Int32))), .second, .val (.ref b12), .unset] [(.int (1 : Int32)), (.int (0 : Int32))])) _
      refine XS.icmpYes X12.here hx rfl (pc0 := 52) (pc' := 61) rfl (hb hby at_52) rfl (flt (by decide : ¬ ((1 : Int32) < (0 : Int32)))).2.2.2 (by decide) (by decide) ?_
      show Steps p.tables e below (T12.setTop (mkF m 61 #[.val (.int p0), .val (.int p1), .val (.int p2), .val (.int p3), .val (.int p4), .val (.int (0 : Int32)), .val (.double (own_v p1 p4 (0 : Int32))), .second, .val (.double (own_v p2 p4 (1 : Int32))), .second, .val (.double (own_v p3 p4 (2 : Int32))), .second, .val (.ref b12), .unset] [])) _
      refine XS.iload X12.here hx rfl (hb hby at_61) rfl ?_
      show Steps p.tables e below (T12.setTop (mkF m 63 #[.val (.int p0), .val (.int p1), .val (.int p2), .val (.int p3), .val (.int p4), .val (.int (0 : Int32)), .val (.double (own_v p1 p4 (0 : Int32))), .second, .val (.double (own_v p2 p4 (1 : Int32))), .second, .val (.double (own_v p3 p4 (2 : Int32))), .second, .val (.ref b12), .unset] [(.int (0 : Int32))])) _
      refine XS.iconst X12.here hx rfl (hb hby at_63) ?_
      show Steps p.tables e below (T12.setTop (mkF m 64 #[.val (.int p0), .val (.int p1), .val (.int p2), .val (.int p3), .val (.int p4), .val (.int (0 : Int32)), .val (.double (own_v p1 p4 (0 : Int32))), .second, .val (.double (own_v p2 p4 (1 : Int32))), .second, .val (.double (own_v p3 p4 (2 : Int32))), .second, .val (.ref b12), .unset] [(.int (2 : Int32)), (.int (0 : Int32))])) _
      refine XS.icmpYes X12.here hx rfl (pc0 := 64) (pc' := 73) rfl (hb hby at_64) rfl (flt (by decide : ¬ ((2 : Int32) < (0 : Int32)))).2.2.2 (by decide) (by decide) ?_
      show Steps p.tables e below (T12.setTop (mkF m 73 #[.val (.int p0), .val (.int p1), .val (.int p2), .val (.int p3), .val (.int p4), .val (.int (0 : Int32)), .val (.double (own_v p1 p4 (0 : Int32))), .second, .val (.double (own_v p2 p4 (1 : Int32))), .second, .val (.double (own_v p3 p4 (2 : Int32))), .second, .val (.ref b12), .unset] [])) _
      refine XS.aload X12.here hx rfl (hb hby at_73) rfl rfl ?_
      exact kt
    obtain ⟨_, _, ⟨T16, L16, kc16, nc16⟩, -, X16, ⟨Lc16, hQ16, l16, y16, z16⟩, st16⟩ := Jvm.LawKit.callS X12 hx (y := (⟨"com/example/vidura/vidura/stats/Values", "signedZeroFree", "([D)[D"⟩ : MethodName)) hown (mvT hZ (hw _ (List.mem_of_getElem? (i := 5) rfl))) (mvT hZ (hw _ (List.mem_of_getElem? (i := 6) rfl))) (mvT hZ (hw _ (List.mem_of_getElem? (i := 7) rfl))) (mvT hZ (hw _ (List.mem_of_getElem? (i := 8) rfl))) (by decide) (backOf (W := 0) (rm2m0 l Z a0 hw [] b12 k12  h12 n0 z14 V12 ) hZ (hw _ (List.mem_of_getElem? (i := 8) rfl)) (hw _ (List.mem_of_getElem? (i := 7) rfl)) (by decide) (by decide)) (g := (mkF m 75 #[.val (.int p0), .val (.int p1), .val (.int p2), .val (.int p3), .val (.int p4), .val (.int (0 : Int32)), .val (.double (own_v p1 p4 (0 : Int32))), .second, .val (.double (own_v p2 p4 (1 : Int32))), .second, .val (.double (own_v p3 p4 (2 : Int32))), .second, .val (.ref b12), .unset] [(.ref b12)])) rfl (by rw [hml]; rfl) (argsL := [(.ref b12)]) (rest := []) (lenOf pd_1 rfl) rfl (by show 2 * 0 + _ ≤ _; exact Nat.le_of_eq rfl) (hb hby at_75) (fun _ _ => ⟨rfl, e12, (by decide : 1 + 1 ≤ _), (by decide : 0 + 0 ≤ _)⟩)
    dsimp only [Pt.U, Pt.locs, Pt.cells, Pt.slots] at X16 l16 y16 z16 st16 hQ16
    subst l16 y16 z16
    obtain ⟨rfl, N16q, K16, ⟨kk16, Va16⟩⟩ := hQ16
    have N16 := Fr.app N8 N16q
    obtain ⟨b16, gq16⟩ : ∃ z, z = h12.size := ⟨_, rfl⟩
    rw [← gq16] at Va16 st16
    have gg_b16 : n0 ≤ b16 := Nat.le_trans z14 (Nat.le_of_eq gq16.symm)
    have pre17 : ∀ t, Steps p.tables e below (T16.setTop (mkF m 78 #[.val (.int p0), .val (.int p1), .val (.int p2), .val (.int p3), .val (.int p4), .val (.int (0 : Int32)), .val (.double (own_v p1 p4 (0 : Int32))), .second, .val (.double (own_v p2 p4 (1 : Int32))), .second, .val (.double (own_v p3 p4 (2 : Int32))), .second, .val (.ref b12), .unset] [(.ref b16)])) t → Steps p.tables e below (s₁.setTop (entryFrame m #[(.int p0), (.int p1), (.int p2), (.int p3), (.int p4)] maxLocals)) t := fun t kt => pre15 _ (st16 _ kt)
    have pre18 : ∀ t, Steps p.tables e below (T16.setTop (mkF m 87 #[.val (.int p0), .val (.int p1), .val (.int p2), .val (.int p3), .val (.int p4), .val (.int (0 : Int32)), .val (.double (own_v p1 p4 (0 : Int32))), .second, .val (.double (own_v p2 p4 (1 : Int32))), .second, .val (.double (own_v p3 p4 (2 : Int32))), .second, .val (.ref b12), .val (.ref b16)] [(.ref b16)])) t → Steps p.tables e below (s₁.setTop (entryFrame m #[(.int p0), (.int p1), (.int p2), (.int p3), (.int p4)] maxLocals)) t := fun t kt => by
      refine pre17 _ ?_
      show Steps p.tables e below (T16.setTop (mkF m 78 #[.val (.int p0), .val (.int p1), .val (.int p2), .val (.int p3), .val (.int p4), .val (.int (0 : Int32)), .val (.double (own_v p1 p4 (0 : Int32))), .second, .val (.double (own_v p2 p4 (1 : Int32))), .second, .val (.double (own_v p3 p4 (2 : Int32))), .second, .val (.ref b12), .unset] [(.ref b16)])) _
      refine XS.astore X16.here hx rfl (hb hby at_78) rfl rfl (l' := #[.val (.int p0), .val (.int p1), .val (.int p2), .val (.int p3), .val (.int p4), .val (.int (0 : Int32)), .val (.double (own_v p1 p4 (0 : Int32))), .second, .val (.double (own_v p2 p4 (1 : Int32))), .second, .val (.double (own_v p3 p4 (2 : Int32))), .second, .val (.ref b12), .val (.ref b16)]) rfl ?_
      show Steps p.tables e below (T16.setTop (mkF m 80 #[.val (.int p0), .val (.int p1), .val (.int p2), .val (.int p3), .val (.int p4), .val (.int (0 : Int32)), .val (.double (own_v p1 p4 (0 : Int32))), .second, .val (.double (own_v p2 p4 (1 : Int32))), .second, .val (.double (own_v p3 p4 (2 : Int32))), .second, .val (.ref b12), .val (.ref b16)] [])) _
      refine XS.aload X16.here hx rfl (hb hby at_80) rfl rfl ?_
      show Steps p.tables e below (T16.setTop (mkF m 82 #[.val (.int p0), .val (.int p1), .val (.int p2), .val (.int p3), .val (.int p4), .val (.int (0 : Int32)), .val (.double (own_v p1 p4 (0 : Int32))), .second, .val (.double (own_v p2 p4 (1 : Int32))), .second, .val (.double (own_v p3 p4 (2 : Int32))), .second, .val (.ref b12), .val (.ref b16)] [(.ref b16)])) _
      refine XS.ifnullNo X16.here hx rfl (hb hby at_82) rfl ?_
      show Steps p.tables e below (T16.setTop (mkF m 85 #[.val (.int p0), .val (.int p1), .val (.int p2), .val (.int p3), .val (.int p4), .val (.int (0 : Int32)), .val (.double (own_v p1 p4 (0 : Int32))), .second, .val (.double (own_v p2 p4 (1 : Int32))), .second, .val (.double (own_v p3 p4 (2 : Int32))), .second, .val (.ref b12), .val (.ref b16)] [])) _
      refine XS.aload X16.here hx rfl (hb hby at_85) rfl rfl ?_
      exact kt
    obtain ⟨cl19, Ar19, qk19, Sz19, Nn19, Hh19, Gg19⟩ := id Va16
    have z20 : n0 ≤ T16.heap.size := (Nat.le_trans z14 K16.1)
    have pre21 : ∀ t, Steps p.tables e below (T16.setTop (mkF m 104 #[.val (.int p0), .val (.int p1), .val (.int p2), .val (.int p3), .val (.int p4), .val (.int (0 : Int32)), .val (.double (own_v p1 p4 (0 : Int32))), .second, .val (.double (own_v p2 p4 (1 : Int32))), .second, .val (.double (own_v p3 p4 (2 : Int32))), .second, .val (.ref b12), .val (.ref b16)] [(.int (0 : Int32)), (.int (0 : Int32)), (.double (own_v p1 p4 (0 : Int32))), (.ref b16), (.ref b12)])) t → Steps p.tables e below (s₁.setTop (entryFrame m #[(.int p0), (.int p1), (.int p2), (.int p3), (.int p4)] maxLocals)) t := fun t kt => by
      refine pre18 _ ?_
      show Steps p.tables e below (T16.setTop (mkF m 87 #[.val (.int p0), .val (.int p1), .val (.int p2), .val (.int p3), .val (.int p4), .val (.int (0 : Int32)), .val (.double (own_v p1 p4 (0 : Int32))), .second, .val (.double (own_v p2 p4 (1 : Int32))), .second, .val (.double (own_v p3 p4 (2 : Int32))), .second, .val (.ref b12), .val (.ref b16)] [(.ref b16)])) _
      refine X16.arraylength hx Ar19.1 (State.isArrayOf_alike hZ.alike Ar19.2.1) (g := (mkF m 87 #[.val (.int p0), .val (.int p1), .val (.int p2), .val (.int p3), .val (.int p4), .val (.int (0 : Int32)), .val (.double (own_v p1 p4 (0 : Int32))), .second, .val (.double (own_v p2 p4 (1 : Int32))), .second, .val (.double (own_v p3 p4 (2 : Int32))), .second, .val (.ref b12), .val (.ref b16)] [(.ref b16)])) rfl rfl (hb hby at_87) _ ?_
      rw [len_of Sz19 Nn19]
      show Steps p.tables e below (T16.setTop (mkF m 88 #[.val (.int p0), .val (.int p1), .val (.int p2), .val (.int p3), .val (.int p4), .val (.int (0 : Int32)), .val (.double (own_v p1 p4 (0 : Int32))), .second, .val (.double (own_v p2 p4 (1 : Int32))), .second, .val (.double (own_v p3 p4 (2 : Int32))), .second, .val (.ref b12), .val (.ref b16)] [(.int (0 : Int32))])) _
      refine XS.iload X16.here hx rfl (hb hby at_88) rfl ?_
      show Steps p.tables e below (T16.setTop (mkF m 90 #[.val (.int p0), .val (.int p1), .val (.int p2), .val (.int p3), .val (.int p4), .val (.int (0 : Int32)), .val (.double (own_v p1 p4 (0 : Int32))), .second, .val (.double (own_v p2 p4 (1 : Int32))), .second, .val (.double (own_v p3 p4 (2 : Int32))), .second, .val (.ref b12), .val (.ref b16)] [(.int (0 : Int32)), (.int (0 : Int32))])) _
      refine XS.icmpYes X16.here hx rfl (pc0 := 90) (pc' := 95) rfl (hb hby at_90) rfl (teq (by decide : (0 : Int32) = (0 : Int32))).1 (by decide) (by decide) ?_
      show Steps p.tables e below (T16.setTop (mkF m 95 #[.val (.int p0), .val (.int p1), .val (.int p2), .val (.int p3), .val (.int p4), .val (.int (0 : Int32)), .val (.double (own_v p1 p4 (0 : Int32))), .second, .val (.double (own_v p2 p4 (1 : Int32))), .second, .val (.double (own_v p3 p4 (2 : Int32))), .second, .val (.ref b12), .val (.ref b16)] [])) _
      refine XS.aload X16.here hx rfl (hb hby at_95) rfl rfl ?_
      show Steps p.tables e below (T16.setTop (mkF m 97 #[.val (.int p0), .val (.int p1), .val (.int p2), .val (.int p3), .val (.int p4), .val (.int (0 : Int32)), .val (.double (own_v p1 p4 (0 : Int32))), .second, .val (.double (own_v p2 p4 (1 : Int32))), .second, .val (.double (own_v p3 p4 (2 : Int32))), .second, .val (.ref b12), .val (.ref b16)] [(.ref b12)])) _
      refine XS.aload X16.here hx rfl (hb hby at_97) rfl rfl ?_
      show Steps p.tables e below (T16.setTop (mkF m 99 #[.val (.int p0), .val (.int p1), .val (.int p2), .val (.int p3), .val (.int p4), .val (.int (0 : Int32)), .val (.double (own_v p1 p4 (0 : Int32))), .second, .val (.double (own_v p2 p4 (1 : Int32))), .second, .val (.double (own_v p3 p4 (2 : Int32))), .second, .val (.ref b12), .val (.ref b16)] [(.ref b16), (.ref b12)])) _
      refine XS.dload X16.here hx rfl (hb hby at_99) rfl ?_
      show Steps p.tables e below (T16.setTop (mkF m 101 #[.val (.int p0), .val (.int p1), .val (.int p2), .val (.int p3), .val (.int p4), .val (.int (0 : Int32)), .val (.double (own_v p1 p4 (0 : Int32))), .second, .val (.double (own_v p2 p4 (1 : Int32))), .second, .val (.double (own_v p3 p4 (2 : Int32))), .second, .val (.ref b12), .val (.ref b16)] [(.double (own_v p1 p4 (0 : Int32))), (.ref b16), (.ref b12)])) _
      refine XS.iconst X16.here hx rfl (hb hby at_101) ?_
      show Steps p.tables e below (T16.setTop (mkF m 102 #[.val (.int p0), .val (.int p1), .val (.int p2), .val (.int p3), .val (.int p4), .val (.int (0 : Int32)), .val (.double (own_v p1 p4 (0 : Int32))), .second, .val (.double (own_v p2 p4 (1 : Int32))), .second, .val (.double (own_v p3 p4 (2 : Int32))), .second, .val (.ref b12), .val (.ref b16)] [(.int (0 : Int32)), (.double (own_v p1 p4 (0 : Int32))), (.ref b16), (.ref b12)])) _
      refine XS.iload X16.here hx rfl (hb hby at_102) rfl ?_
      exact kt
    obtain ⟨_, _, ⟨T22, L22, kc22, nc22⟩, -, X22, ⟨Lc22, hQ22, l22, y22, z22⟩, st22⟩ := Jvm.LawKit.callS X16 hx (y := (⟨"com/example/vidura/vidura/stats/ValuesSignedZeroFreePinLaw", "ok", "([D[DDII)Z"⟩ : MethodName)) hown (mvT hZ (hw _ (List.mem_of_getElem? (i := 9) rfl))) (mvT hZ (hw _ (List.mem_of_getElem? (i := 10) rfl))) (mvT hZ (hw _ (List.mem_of_getElem? (i := 2) rfl))) (mvT hZ (hw _ (List.mem_of_getElem? (i := 11) rfl))) (by decide) (backOf (W := 0) (rm3n l Z a0 hw [] b12 b16 (own_v p1 p4 (0 : Int32)) (0 : Int32) (0 : Int32) T16.heap n0 z20 (by decide)) hZ (hw _ (List.mem_of_getElem? (i := 11) rfl)) (hw _ (List.mem_of_getElem? (i := 2) rfl)) (by decide) (by decide)) (g := (mkF m 104 #[.val (.int p0), .val (.int p1), .val (.int p2), .val (.int p3), .val (.int p4), .val (.int (0 : Int32)), .val (.double (own_v p1 p4 (0 : Int32))), .second, .val (.double (own_v p2 p4 (1 : Int32))), .second, .val (.double (own_v p3 p4 (2 : Int32))), .second, .val (.ref b12), .val (.ref b16)] [(.int (0 : Int32)), (.int (0 : Int32)), (.double (own_v p1 p4 (0 : Int32))), (.ref b16), (.ref b12)])) rfl (by rw [hml]; rfl) (argsL := [(.ref b12), (.ref b16), (.double (own_v p1 p4 (0 : Int32))), (.int (0 : Int32)), (.int (0 : Int32))]) (rest := []) (lenOf pd_2 rfl) rfl (by show 2 * 0 + _ ≤ _; exact Nat.le_of_eq rfl) (hb hby at_104) (fun _ _ => ⟨rfl, rfl, (by decide : 2 + 0 ≤ _), (by decide : 0 + 0 ≤ _)⟩)
    dsimp only [Pt.U, Pt.locs, Pt.cells, Pt.slots] at X22 l22 y22 z22 st22 hQ22
    subst l22 y22 z22
    obtain ⟨rfl, N22q, he22⟩ := hQ22
    have N22 := Fr.app N16 N22q
    have pre23 : ∀ t, Steps p.tables e below (T22.setTop (mkF m 107 #[.val (.int p0), .val (.int p1), .val (.int p2), .val (.int p3), .val (.int p4), .val (.int (0 : Int32)), .val (.double (own_v p1 p4 (0 : Int32))), .second, .val (.double (own_v p2 p4 (1 : Int32))), .second, .val (.double (own_v p3 p4 (2 : Int32))), .second, .val (.ref b12), .val (.ref b16)] [(.int (1 : Int32))])) t → Steps p.tables e below (s₁.setTop (entryFrame m #[(.int p0), (.int p1), (.int p2), (.int p3), (.int p4)] maxLocals)) t := fun t kt => pre21 _ (st22 _ kt)
    have pre24 : ∀ t, Steps p.tables e below (T22.setTop (mkF m 119 #[.val (.int p0), .val (.int p1), .val (.int p2), .val (.int p3), .val (.int p4), .val (.int (0 : Int32)), .val (.double (own_v p1 p4 (0 : Int32))), .second, .val (.double (own_v p2 p4 (1 : Int32))), .second, .val (.double (own_v p3 p4 (2 : Int32))), .second, .val (.ref b12), .val (.ref b16)] [(.int (0 : Int32)), (.int (1 : Int32)), (.double (own_v p2 p4 (1 : Int32))), (.ref b16), (.ref b12)])) t → Steps p.tables e below (s₁.setTop (entryFrame m #[(.int p0), (.int p1), (.int p2), (.int p3), (.int p4)] maxLocals)) t := fun t kt => by
      refine pre23 _ ?_
      show Steps p.tables e below (T22.setTop (mkF m 107 #[.val (.int p0), .val (.int p1), .val (.int p2), .val (.int p3), .val (.int p4), .val (.int (0 : Int32)), .val (.double (own_v p1 p4 (0 : Int32))), .second, .val (.double (own_v p2 p4 (1 : Int32))), .second, .val (.double (own_v p3 p4 (2 : Int32))), .second, .val (.ref b12), .val (.ref b16)] [(.int (1 : Int32))])) _
      refine XS.ifNo X22.here hx rfl (hb hby at_107) rfl ((if0 _ _).trans (feq (by decide : ¬ ((1 : Int32) = (0 : Int32)))).1) ?_
      show Steps p.tables e below (T22.setTop (mkF m 110 #[.val (.int p0), .val (.int p1), .val (.int p2), .val (.int p3), .val (.int p4), .val (.int (0 : Int32)), .val (.double (own_v p1 p4 (0 : Int32))), .second, .val (.double (own_v p2 p4 (1 : Int32))), .second, .val (.double (own_v p3 p4 (2 : Int32))), .second, .val (.ref b12), .val (.ref b16)] [])) _
      refine XS.aload X22.here hx rfl (hb hby at_110) rfl rfl ?_
      show Steps p.tables e below (T22.setTop (mkF m 112 #[.val (.int p0), .val (.int p1), .val (.int p2), .val (.int p3), .val (.int p4), .val (.int (0 : Int32)), .val (.double (own_v p1 p4 (0 : Int32))), .second, .val (.double (own_v p2 p4 (1 : Int32))), .second, .val (.double (own_v p3 p4 (2 : Int32))), .second, .val (.ref b12), .val (.ref b16)] [(.ref b12)])) _
      refine XS.aload X22.here hx rfl (hb hby at_112) rfl rfl ?_
      show Steps p.tables e below (T22.setTop (mkF m 114 #[.val (.int p0), .val (.int p1), .val (.int p2), .val (.int p3), .val (.int p4), .val (.int (0 : Int32)), .val (.double (own_v p1 p4 (0 : Int32))), .second, .val (.double (own_v p2 p4 (1 : Int32))), .second, .val (.double (own_v p3 p4 (2 : Int32))), .second, .val (.ref b12), .val (.ref b16)] [(.ref b16), (.ref b12)])) _
      refine XS.dload X22.here hx rfl (hb hby at_114) rfl ?_
      show Steps p.tables e below (T22.setTop (mkF m 116 #[.val (.int p0), .val (.int p1), .val (.int p2), .val (.int p3), .val (.int p4), .val (.int (0 : Int32)), .val (.double (own_v p1 p4 (0 : Int32))), .second, .val (.double (own_v p2 p4 (1 : Int32))), .second, .val (.double (own_v p3 p4 (2 : Int32))), .second, .val (.ref b12), .val (.ref b16)] [(.double (own_v p2 p4 (1 : Int32))), (.ref b16), (.ref b12)])) _
      refine XS.iconst X22.here hx rfl (hb hby at_116) ?_
      show Steps p.tables e below (T22.setTop (mkF m 117 #[.val (.int p0), .val (.int p1), .val (.int p2), .val (.int p3), .val (.int p4), .val (.int (0 : Int32)), .val (.double (own_v p1 p4 (0 : Int32))), .second, .val (.double (own_v p2 p4 (1 : Int32))), .second, .val (.double (own_v p3 p4 (2 : Int32))), .second, .val (.ref b12), .val (.ref b16)] [(.int (1 : Int32)), (.double (own_v p2 p4 (1 : Int32))), (.ref b16), (.ref b12)])) _
      refine XS.iload X22.here hx rfl (hb hby at_117) rfl ?_
      exact kt
    obtain ⟨_, _, ⟨T25, L25, kc25, nc25⟩, -, X25, ⟨Lc25, hQ25, l25, y25, z25⟩, st25⟩ := Jvm.LawKit.callS X22 hx (y := (⟨"com/example/vidura/vidura/stats/ValuesSignedZeroFreePinLaw", "ok", "([D[DDII)Z"⟩ : MethodName)) hown (mvT hZ (hw _ (List.mem_of_getElem? (i := 9) rfl))) (mvT hZ (hw _ (List.mem_of_getElem? (i := 10) rfl))) (mvT hZ (hw _ (List.mem_of_getElem? (i := 2) rfl))) (mvT hZ (hw _ (List.mem_of_getElem? (i := 11) rfl))) (by decide) (backOf (W := 0) (rm3n l Z a0 hw [] b12 b16 (own_v p2 p4 (1 : Int32)) (1 : Int32) (0 : Int32) T16.heap n0 z20 (by decide)) hZ (hw _ (List.mem_of_getElem? (i := 11) rfl)) (hw _ (List.mem_of_getElem? (i := 2) rfl)) (by decide) (by decide)) (g := (mkF m 119 #[.val (.int p0), .val (.int p1), .val (.int p2), .val (.int p3), .val (.int p4), .val (.int (0 : Int32)), .val (.double (own_v p1 p4 (0 : Int32))), .second, .val (.double (own_v p2 p4 (1 : Int32))), .second, .val (.double (own_v p3 p4 (2 : Int32))), .second, .val (.ref b12), .val (.ref b16)] [(.int (0 : Int32)), (.int (1 : Int32)), (.double (own_v p2 p4 (1 : Int32))), (.ref b16), (.ref b12)])) rfl (by rw [hml]; rfl) (argsL := [(.ref b12), (.ref b16), (.double (own_v p2 p4 (1 : Int32))), (.int (1 : Int32)), (.int (0 : Int32))]) (rest := []) (lenOf pd_2 rfl) rfl (by show 2 * 0 + _ ≤ _; exact Nat.le_of_eq rfl) (hb hby at_119) (fun _ _ => ⟨rfl, he22, (by decide : 2 + 0 ≤ _), (by decide : 0 + 0 ≤ _)⟩)
    dsimp only [Pt.U, Pt.locs, Pt.cells, Pt.slots] at X25 l25 y25 z25 st25 hQ25
    subst l25 y25 z25
    obtain ⟨rfl, N25q, he25⟩ := hQ25
    have N25 := Fr.app N22 N25q
    have pre26 : ∀ t, Steps p.tables e below (T25.setTop (mkF m 122 #[.val (.int p0), .val (.int p1), .val (.int p2), .val (.int p3), .val (.int p4), .val (.int (0 : Int32)), .val (.double (own_v p1 p4 (0 : Int32))), .second, .val (.double (own_v p2 p4 (1 : Int32))), .second, .val (.double (own_v p3 p4 (2 : Int32))), .second, .val (.ref b12), .val (.ref b16)] [(.int (1 : Int32))])) t → Steps p.tables e below (s₁.setTop (entryFrame m #[(.int p0), (.int p1), (.int p2), (.int p3), (.int p4)] maxLocals)) t := fun t kt => pre24 _ (st25 _ kt)
    have pre27 : ∀ t, Steps p.tables e below (T25.setTop (mkF m 134 #[.val (.int p0), .val (.int p1), .val (.int p2), .val (.int p3), .val (.int p4), .val (.int (0 : Int32)), .val (.double (own_v p1 p4 (0 : Int32))), .second, .val (.double (own_v p2 p4 (1 : Int32))), .second, .val (.double (own_v p3 p4 (2 : Int32))), .second, .val (.ref b12), .val (.ref b16)] [(.int (0 : Int32)), (.int (2 : Int32)), (.double (own_v p3 p4 (2 : Int32))), (.ref b16), (.ref b12)])) t → Steps p.tables e below (s₁.setTop (entryFrame m #[(.int p0), (.int p1), (.int p2), (.int p3), (.int p4)] maxLocals)) t := fun t kt => by
      refine pre26 _ ?_
      show Steps p.tables e below (T25.setTop (mkF m 122 #[.val (.int p0), .val (.int p1), .val (.int p2), .val (.int p3), .val (.int p4), .val (.int (0 : Int32)), .val (.double (own_v p1 p4 (0 : Int32))), .second, .val (.double (own_v p2 p4 (1 : Int32))), .second, .val (.double (own_v p3 p4 (2 : Int32))), .second, .val (.ref b12), .val (.ref b16)] [(.int (1 : Int32))])) _
      refine XS.ifNo X25.here hx rfl (hb hby at_122) rfl ((if0 _ _).trans (feq (by decide : ¬ ((1 : Int32) = (0 : Int32)))).1) ?_
      show Steps p.tables e below (T25.setTop (mkF m 125 #[.val (.int p0), .val (.int p1), .val (.int p2), .val (.int p3), .val (.int p4), .val (.int (0 : Int32)), .val (.double (own_v p1 p4 (0 : Int32))), .second, .val (.double (own_v p2 p4 (1 : Int32))), .second, .val (.double (own_v p3 p4 (2 : Int32))), .second, .val (.ref b12), .val (.ref b16)] [])) _
      refine XS.aload X25.here hx rfl (hb hby at_125) rfl rfl ?_
      show Steps p.tables e below (T25.setTop (mkF m 127 #[.val (.int p0), .val (.int p1), .val (.int p2), .val (.int p3), .val (.int p4), .val (.int (0 : Int32)), .val (.double (own_v p1 p4 (0 : Int32))), .second, .val (.double (own_v p2 p4 (1 : Int32))), .second, .val (.double (own_v p3 p4 (2 : Int32))), .second, .val (.ref b12), .val (.ref b16)] [(.ref b12)])) _
      refine XS.aload X25.here hx rfl (hb hby at_127) rfl rfl ?_
      show Steps p.tables e below (T25.setTop (mkF m 129 #[.val (.int p0), .val (.int p1), .val (.int p2), .val (.int p3), .val (.int p4), .val (.int (0 : Int32)), .val (.double (own_v p1 p4 (0 : Int32))), .second, .val (.double (own_v p2 p4 (1 : Int32))), .second, .val (.double (own_v p3 p4 (2 : Int32))), .second, .val (.ref b12), .val (.ref b16)] [(.ref b16), (.ref b12)])) _
      refine XS.dload X25.here hx rfl (hb hby at_129) rfl ?_
      show Steps p.tables e below (T25.setTop (mkF m 131 #[.val (.int p0), .val (.int p1), .val (.int p2), .val (.int p3), .val (.int p4), .val (.int (0 : Int32)), .val (.double (own_v p1 p4 (0 : Int32))), .second, .val (.double (own_v p2 p4 (1 : Int32))), .second, .val (.double (own_v p3 p4 (2 : Int32))), .second, .val (.ref b12), .val (.ref b16)] [(.double (own_v p3 p4 (2 : Int32))), (.ref b16), (.ref b12)])) _
      refine XS.iconst X25.here hx rfl (hb hby at_131) ?_
      show Steps p.tables e below (T25.setTop (mkF m 132 #[.val (.int p0), .val (.int p1), .val (.int p2), .val (.int p3), .val (.int p4), .val (.int (0 : Int32)), .val (.double (own_v p1 p4 (0 : Int32))), .second, .val (.double (own_v p2 p4 (1 : Int32))), .second, .val (.double (own_v p3 p4 (2 : Int32))), .second, .val (.ref b12), .val (.ref b16)] [(.int (2 : Int32)), (.double (own_v p3 p4 (2 : Int32))), (.ref b16), (.ref b12)])) _
      refine XS.iload X25.here hx rfl (hb hby at_132) rfl ?_
      exact kt
    obtain ⟨_, _, ⟨T28, L28, kc28, nc28⟩, -, X28, ⟨Lc28, hQ28, l28, y28, z28⟩, st28⟩ := Jvm.LawKit.callS X25 hx (y := (⟨"com/example/vidura/vidura/stats/ValuesSignedZeroFreePinLaw", "ok", "([D[DDII)Z"⟩ : MethodName)) hown (mvT hZ (hw _ (List.mem_of_getElem? (i := 9) rfl))) (mvT hZ (hw _ (List.mem_of_getElem? (i := 10) rfl))) (mvT hZ (hw _ (List.mem_of_getElem? (i := 2) rfl))) (mvT hZ (hw _ (List.mem_of_getElem? (i := 11) rfl))) (by decide) (backOf (W := 0) (rm3n l Z a0 hw [] b12 b16 (own_v p3 p4 (2 : Int32)) (2 : Int32) (0 : Int32) T16.heap n0 z20 (by decide)) hZ (hw _ (List.mem_of_getElem? (i := 11) rfl)) (hw _ (List.mem_of_getElem? (i := 2) rfl)) (by decide) (by decide)) (g := (mkF m 134 #[.val (.int p0), .val (.int p1), .val (.int p2), .val (.int p3), .val (.int p4), .val (.int (0 : Int32)), .val (.double (own_v p1 p4 (0 : Int32))), .second, .val (.double (own_v p2 p4 (1 : Int32))), .second, .val (.double (own_v p3 p4 (2 : Int32))), .second, .val (.ref b12), .val (.ref b16)] [(.int (0 : Int32)), (.int (2 : Int32)), (.double (own_v p3 p4 (2 : Int32))), (.ref b16), (.ref b12)])) rfl (by rw [hml]; rfl) (argsL := [(.ref b12), (.ref b16), (.double (own_v p3 p4 (2 : Int32))), (.int (2 : Int32)), (.int (0 : Int32))]) (rest := []) (lenOf pd_2 rfl) rfl (by show 2 * 0 + _ ≤ _; exact Nat.le_of_eq rfl) (hb hby at_134) (fun _ _ => ⟨rfl, he25, (by decide : 2 + 0 ≤ _), (by decide : 0 + 0 ≤ _)⟩)
    dsimp only [Pt.U, Pt.locs, Pt.cells, Pt.slots] at X28 l28 y28 z28 st28 hQ28
    subst l28 y28 z28
    obtain ⟨rfl, N28q, he28⟩ := hQ28
    have N28 := Fr.app N25 N28q
    have pre29 : ∀ t, Steps p.tables e below (T28.setTop (mkF m 137 #[.val (.int p0), .val (.int p1), .val (.int p2), .val (.int p3), .val (.int p4), .val (.int (0 : Int32)), .val (.double (own_v p1 p4 (0 : Int32))), .second, .val (.double (own_v p2 p4 (1 : Int32))), .second, .val (.double (own_v p3 p4 (2 : Int32))), .second, .val (.ref b12), .val (.ref b16)] [(.int (1 : Int32))])) t → Steps p.tables e below (s₁.setTop (entryFrame m #[(.int p0), (.int p1), (.int p2), (.int p3), (.int p4)] maxLocals)) t := fun t kt => pre27 _ (st28 _ kt)
    have pre30 : ∀ t, Steps p.tables e below (T28.setTop (mkF m 145 #[.val (.int p0), .val (.int p1), .val (.int p2), .val (.int p3), .val (.int p4), .val (.int (0 : Int32)), .val (.double (own_v p1 p4 (0 : Int32))), .second, .val (.double (own_v p2 p4 (1 : Int32))), .second, .val (.double (own_v p3 p4 (2 : Int32))), .second, .val (.ref b12), .val (.ref b16)] [(.int (1 : Int32))])) t → Steps p.tables e below (s₁.setTop (entryFrame m #[(.int p0), (.int p1), (.int p2), (.int p3), (.int p4)] maxLocals)) t := fun t kt => by
      refine pre29 _ ?_
      show Steps p.tables e below (T28.setTop (mkF m 137 #[.val (.int p0), .val (.int p1), .val (.int p2), .val (.int p3), .val (.int p4), .val (.int (0 : Int32)), .val (.double (own_v p1 p4 (0 : Int32))), .second, .val (.double (own_v p2 p4 (1 : Int32))), .second, .val (.double (own_v p3 p4 (2 : Int32))), .second, .val (.ref b12), .val (.ref b16)] [(.int (1 : Int32))])) _
      refine XS.ifNo X28.here hx rfl (hb hby at_137) rfl ((if0 _ _).trans (feq (by decide : ¬ ((1 : Int32) = (0 : Int32)))).1) ?_
      show Steps p.tables e below (T28.setTop (mkF m 140 #[.val (.int p0), .val (.int p1), .val (.int p2), .val (.int p3), .val (.int p4), .val (.int (0 : Int32)), .val (.double (own_v p1 p4 (0 : Int32))), .second, .val (.double (own_v p2 p4 (1 : Int32))), .second, .val (.double (own_v p3 p4 (2 : Int32))), .second, .val (.ref b12), .val (.ref b16)] [])) _
      refine XS.iconst X28.here hx rfl (hb hby at_140) ?_
      show Steps p.tables e below (T28.setTop (mkF m 141 #[.val (.int p0), .val (.int p1), .val (.int p2), .val (.int p3), .val (.int p4), .val (.int (0 : Int32)), .val (.double (own_v p1 p4 (0 : Int32))), .second, .val (.double (own_v p2 p4 (1 : Int32))), .second, .val (.double (own_v p3 p4 (2 : Int32))), .second, .val (.ref b12), .val (.ref b16)] [(.int (1 : Int32))])) _
      refine XS.goto X28.here hx rfl (pc0 := 141) (pc' := 145) rfl (hb hby at_141) (by decide) (by decide) ?_
      exact kt
    obtain ⟨fs, hr, hrun, hended, hW, hsame⟩ := X28.leave (v := (some (.int (1 : Int32)))) (fun h => by rw [Bd.returns] at h; cases h)
    refine ⟨_, _, pre30 _ ?_, hrun, hended, _, _, rfl, ?_, ⟨_, rfl⟩, hW, hsame.mono (by decide) (by decide)⟩
    · show Steps p.tables e below (T28.setTop (mkF m 145 #[.val (.int p0), .val (.int p1), .val (.int p2), .val (.int p3), .val (.int p4), .val (.int (0 : Int32)), .val (.double (own_v p1 p4 (0 : Int32))), .second, .val (.double (own_v p2 p4 (1 : Int32))), .second, .val (.double (own_v p3 p4 (2 : Int32))), .second, .val (.ref b12), .val (.ref b16)] [(.int (1 : Int32))])) _
      exact retN X28 hx (t := .boolean) Bd.returns (by simp) (hb hby at_145) hr
    · show Q0 Z p0 p1 p2 p3 p4 h0 n0 _ T28.heap _
      rw [he28]
      exact ⟨rfl, N28⟩
  · have pre31 : ∀ t, Steps p.tables e below (T8.setTop (mkF m 34 #[.val (.int p0), .val (.int p1), .val (.int p2), .val (.int p3), .val (.int p4), .val (.int (1 : Int32)), .val (.double (own_v p1 p4 (0 : Int32))), .second, .val (.double (own_v p2 p4 (1 : Int32))), .second, .val (.double (own_v p3 p4 (2 : Int32))), .second, .unset, .unset] [(.int (1 : Int32))])) t → Steps p.tables e below (s₁.setTop (entryFrame m #[(.int p0), (.int p1), (.int p2), (.int p3), (.int p4)] maxLocals)) t := fun t kt => by
      refine pre10 _ ?_
      show Steps p.tables e below (T8.setTop (mkF m 32 #[.val (.int p0), .val (.int p1), .val (.int p2), .val (.int p3), .val (.int p4), .val (.int (own_n p0)), .val (.double (own_v p1 p4 (0 : Int32))), .second, .val (.double (own_v p2 p4 (1 : Int32))), .second, .val (.double (own_v p3 p4 (2 : Int32))), .second, .unset, .unset] [])) _
      refine XS.iload X8.here hx rfl (hb hby at_32) rfl ?_
      show Steps p.tables e below (T8.setTop (mkF m 34 #[.val (.int p0), .val (.int p1), .val (.int p2), .val (.int p3), .val (.int p4), .val (.int (own_n p0)), .val (.double (own_v p1 p4 (0 : Int32))), .second, .val (.double (own_v p2 p4 (1 : Int32))), .second, .val (.double (own_v p3 p4 (2 : Int32))), .second, .unset, .unset] [(.int (own_n p0))])) _
      rw [show (own_n p0) = (1 : Int32) from hn]
      exact kt
    obtain ⟨T32, h32, k32, X32, e32, E32, A32, st32⟩ := newP X8 hx hZ (hw _ (List.mem_of_getElem? (i := 4) rfl)) he8 (g := (mkF m 34 #[.val (.int p0), .val (.int p1), .val (.int p2), .val (.int p3), .val (.int p4), .val (.int (1 : Int32)), .val (.double (own_v p1 p4 (0 : Int32))), .second, .val (.double (own_v p2 p4 (1 : Int32))), .second, .val (.double (own_v p3 p4 (2 : Int32))), .second, .unset, .unset] [(.int (1 : Int32))])) rfl (hb hby at_34) rfl (by decide) (cap := 1) (by decide) (by decide) (by decide) (by decide)
    obtain ⟨b32, gq32⟩ : ∃ z, z = h0.size := ⟨_, rfl⟩
    rw [← gq32] at A32 st32
    have gg_b32 : n0 ≤ b32 := Nat.le_trans Z0 (Nat.le_of_eq gq32.symm)
    have V32 : Arv Z h32 b32 k32 .double (1 : Int32) [(.double 0)] (.double 0) := (Arv.new A32 (by decide)).pad (pad_rep [] (.double 0) 1)
    have pre33 : ∀ t, Steps p.tables e below (T32.setTop (mkF m 36 #[.val (.int p0), .val (.int p1), .val (.int p2), .val (.int p3), .val (.int p4), .val (.int (1 : Int32)), .val (.double (own_v p1 p4 (0 : Int32))), .second, .val (.double (own_v p2 p4 (1 : Int32))), .second, .val (.double (own_v p3 p4 (2 : Int32))), .second, .unset, .unset] [(.ref b32)])) t → Steps p.tables e below (s₁.setTop (entryFrame m #[(.int p0), (.int p1), (.int p2), (.int p3), (.int p4)] maxLocals)) t := fun t kt => pre31 _ (st32 _ kt)
    obtain ⟨cl34, Ar34, qk34, Sz34, Nn34, Hh34, Gg34⟩ := id V32
    have hin34 : ¬ ((0 : Int32) < 0 ∨ cl34.slots.size ≤ ((0 : Int32)).toNatClampNeg) := inb_of Sz34 ⟨by decide, by decide⟩
    have pre35 : ∀ t, Steps p.tables e below (T32.setTop (mkF m 48 #[.val (.int p0), .val (.int p1), .val (.int p2), .val (.int p3), .val (.int p4), .val (.int (1 : Int32)), .val (.double (own_v p1 p4 (0 : Int32))), .second, .val (.double (own_v p2 p4 (1 : Int32))), .second, .val (.double (own_v p3 p4 (2 : Int32))), .second, .val (.ref b32), .unset] [(.double (own_v p1 p4 (0 : Int32))), (.int (0 : Int32)), (.ref b32)])) t → Steps p.tables e below (s₁.setTop (entryFrame m #[(.int p0), (.int p1), (.int p2), (.int p3), (.int p4)] maxLocals)) t := fun t kt => by
      refine pre33 _ ?_
      show Steps p.tables e below (T32.setTop (mkF m 36 #[.val (.int p0), .val (.int p1), .val (.int p2), .val (.int p3), .val (.int p4), .val (.int (1 : Int32)), .val (.double (own_v p1 p4 (0 : Int32))), .second, .val (.double (own_v p2 p4 (1 : Int32))), .second, .val (.double (own_v p3 p4 (2 : Int32))), .second, .unset, .unset] [(.ref b32)])) _
      refine XS.astore X32.here hx rfl (hb hby at_36) rfl rfl (l' := #[.val (.int p0), .val (.int p1), .val (.int p2), .val (.int p3), .val (.int p4), .val (.int (1 : Int32)), .val (.double (own_v p1 p4 (0 : Int32))), .second, .val (.double (own_v p2 p4 (1 : Int32))), .second, .val (.double (own_v p3 p4 (2 : Int32))), .second, .val (.ref b32), .unset]) rfl ?_
      show Steps p.tables e below (T32.setTop (mkF m 38 #[.val (.int p0), .val (.int p1), .val (.int p2), .val (.int p3), .val (.int p4), .val (.int (1 : Int32)), .val (.double (own_v p1 p4 (0 : Int32))), .second, .val (.double (own_v p2 p4 (1 : Int32))), .second, .val (.double (own_v p3 p4 (2 : Int32))), .second, .val (.ref b32), .unset] [])) _
      refine XS.iload X32.here hx rfl (hb hby at_38) rfl ?_
      show Steps p.tables e below (T32.setTop (mkF m 40 #[.val (.int p0), .val (.int p1), .val (.int p2), .val (.int p3), .val (.int p4), .val (.int (1 : Int32)), .val (.double (own_v p1 p4 (0 : Int32))), .second, .val (.double (own_v p2 p4 (1 : Int32))), .second, .val (.double (own_v p3 p4 (2 : Int32))), .second, .val (.ref b32), .unset] [(.int (1 : Int32))])) _
      refine XS.ifNo X32.here hx rfl (hb hby at_40) rfl ((if0 _ _).trans (tlt (by decide : (0 : Int32) < (1 : Int32))).2.2.2) ?_
      show Steps p.tables e below (T32.setTop (mkF m 43 #[.val (.int p0), .val (.int p1), .val (.int p2), .val (.int p3), .val (.int p4), .val (.int (1 : Int32)), .val (.double (own_v p1 p4 (0 : Int32))), .second, .val (.double (own_v p2 p4 (1 : Int32))), .second, .val (.double (own_v p3 p4 (2 : Int32))), .second, .val (.ref b32), .unset] [])) _
      refine XS.aload X32.here hx rfl (hb hby at_43) rfl rfl ?_
      show Steps p.tables e below (T32.setTop (mkF m 45 #[.val (.int p0), .val (.int p1), .val (.int p2), .val (.int p3), .val (.int p4), .val (.int (1 : Int32)), .val (.double (own_v p1 p4 (0 : Int32))), .second, .val (.double (own_v p2 p4 (1 : Int32))), .second, .val (.double (own_v p3 p4 (2 : Int32))), .second, .val (.ref b32), .unset] [(.ref b32)])) _
      refine XS.iconst X32.here hx rfl (hb hby at_45) ?_
      show Steps p.tables e below (T32.setTop (mkF m 46 #[.val (.int p0), .val (.int p1), .val (.int p2), .val (.int p3), .val (.int p4), .val (.int (1 : Int32)), .val (.double (own_v p1 p4 (0 : Int32))), .second, .val (.double (own_v p2 p4 (1 : Int32))), .second, .val (.double (own_v p3 p4 (2 : Int32))), .second, .val (.ref b32), .unset] [(.int (0 : Int32)), (.ref b32)])) _
      refine XS.dload X32.here hx rfl (hb hby at_46) rfl ?_
      exact kt
    obtain ⟨T36, h36, X36, e36, W36, st36⟩ := stD X32 hx hZ e32 Ar34 (j := (0 : Int32)) hin34 (g := (mkF m 48 #[.val (.int p0), .val (.int p1), .val (.int p2), .val (.int p3), .val (.int p4), .val (.int (1 : Int32)), .val (.double (own_v p1 p4 (0 : Int32))), .second, .val (.double (own_v p2 p4 (1 : Int32))), .second, .val (.double (own_v p3 p4 (2 : Int32))), .second, .val (.ref b32), .unset] [(.double (own_v p1 p4 (0 : Int32))), (.int (0 : Int32)), (.ref b32)])) rfl rfl (hb hby at_48)
    have V36 := Arv.set Ar34 qk34 Sz34 Nn34 Hh34 Gg34 rfl W36 0 rfl (Nat.le_of_ble_eq_true rfl)
    have V36' : Arv Z h36 b32 k32 .double (1 : Int32) [(.double (own_v p1 p4 (0 : Int32)))] (.double 0) := V36
    have N36 := Fr.snoc X36 N8 gg_b32
    have pre37 : ∀ t, Steps p.tables e below (T36.setTop (mkF m 49 #[.val (.int p0), .val (.int p1), .val (.int p2), .val (.int p3), .val (.int p4), .val (.int (1 : Int32)), .val (.double (own_v p1 p4 (0 : Int32))), .second, .val (.double (own_v p2 p4 (1 : Int32))), .second, .val (.double (own_v p3 p4 (2 : Int32))), .second, .val (.ref b32), .unset] [])) t → Steps p.tables e below (s₁.setTop (entryFrame m #[(.int p0), (.int p1), (.int p2), (.int p3), (.int p4)] maxLocals)) t := fun t kt => pre35 _ (st36 _ kt)
    have z38 : n0 ≤ h36.size := (Nat.le_trans (Nat.le_trans Z0 E32.1) (Keep.of_wr W36).1)
    have pre39 : ∀ t, Steps p.tables e below (T36.setTop (mkF m 75 #[.val (.int p0), .val (.int p1), .val (.int p2), .val (.int p3), .val (.int p4), .val (.int (1 : Int32)), .val (.double (own_v p1 p4 (0 : Int32))), .second, .val (.double (own_v p2 p4 (1 : Int32))), .second, .val (.double (own_v p3 p4 (2 : Int32))), .second, .val (.ref b32), .unset] [(.ref b32)])) t → Steps p.tables e below (s₁.setTop (entryFrame m #[(.int p0), (.int p1), (.int p2), (.int p3), (.int p4)] maxLocals)) t := fun t kt => by
      refine pre37 _ ?_
      show Steps p.tables e below (T36.setTop (mkF m 49 #[.val (.int p0), .val (.int p1), .val (.int p2), .val (.int p3), .val (.int p4), .val (.int (1 : Int32)), .val (.double (own_v p1 p4 (0 : Int32))), .second, .val (.double (own_v p2 p4 (1 : Int32))), .second, .val (.double (own_v p3 p4 (2 : Int32))), .second, .val (.ref b32), .unset] [])) _
      refine XS.iload X36.here hx rfl (hb hby at_49) rfl ?_
      show Steps p.tables e below (T36.setTop (mkF m 51 #[.val (.int p0), .val (.int p1), .val (.int p2), .val (.int p3), .val (.int p4), .val (.int (1 : Int32)), .val (.double (own_v p1 p4 (0 : Int32))), .second, .val (.double (own_v p2 p4 (1 : Int32))), .second, .val (.double (own_v p3 p4 (2 : Int32))), .second, .val (.ref b32), .unset] [(.int (1 : Int32))])) _
      refine XS.iconst X36.here hx rfl (hb hby at_51) ?_
      show Steps p.tables e below (T36.setTop (mkF m 52 #[.val (.int p0), .val (.int p1), .val (.int p2), .val (.int p3), .val (.int p4), .val (.int (1 : Int32)), .val (.double (own_v p1 p4 (0 : Int32))), .second, .val (.double (own_v p2 p4 (1 : Int32))), .second, .val (.double (own_v p3 p4 (2 : Int32))), .second, .val (.ref b32), .unset] [(.int (1 : Int32)), (.int (1 : Int32))])) _
      refine XS.icmpYes X36.here hx rfl (pc0 := 52) (pc' := 61) rfl (hb hby at_52) rfl (flt (by decide : ¬ ((1 : Int32) < (1 : Int32)))).2.2.2 (by decide) (by decide) ?_
      show Steps p.tables e below (T36.setTop (mkF m 61 #[.val (.int p0), .val (.int p1), .val (.int p2), .val (.int p3), .val (.int p4), .val (.int (1 : Int32)), .val (.double (own_v p1 p4 (0 : Int32))), .second, .val (.double (own_v p2 p4 (1 : Int32))), .second, .val (.double (own_v p3 p4 (2 : Int32))), .second, .val (.ref b32), .unset] [])) _
      refine XS.iload X36.here hx rfl (hb hby at_61) rfl ?_
      show Steps p.tables e below (T36.setTop (mkF m 63 #[.val (.int p0), .val (.int p1), .val (.int p2), .val (.int p3), .val (.int p4), .val (.int (1 : Int32)), .val (.double (own_v p1 p4 (0 : Int32))), .second, .val (.double (own_v p2 p4 (1 : Int32))), .second, .val (.double (own_v p3 p4 (2 : Int32))), .second, .val (.ref b32), .unset] [(.int (1 : Int32))])) _
      refine XS.iconst X36.here hx rfl (hb hby at_63) ?_
      show Steps p.tables e below (T36.setTop (mkF m 64 #[.val (.int p0), .val (.int p1), .val (.int p2), .val (.int p3), .val (.int p4), .val (.int (1 : Int32)), .val (.double (own_v p1 p4 (0 : Int32))), .second, .val (.double (own_v p2 p4 (1 : Int32))), .second, .val (.double (own_v p3 p4 (2 : Int32))), .second, .val (.ref b32), .unset] [(.int (2 : Int32)), (.int (1 : Int32))])) _
      refine XS.icmpYes X36.here hx rfl (pc0 := 64) (pc' := 73) rfl (hb hby at_64) rfl (flt (by decide : ¬ ((2 : Int32) < (1 : Int32)))).2.2.2 (by decide) (by decide) ?_
      show Steps p.tables e below (T36.setTop (mkF m 73 #[.val (.int p0), .val (.int p1), .val (.int p2), .val (.int p3), .val (.int p4), .val (.int (1 : Int32)), .val (.double (own_v p1 p4 (0 : Int32))), .second, .val (.double (own_v p2 p4 (1 : Int32))), .second, .val (.double (own_v p3 p4 (2 : Int32))), .second, .val (.ref b32), .unset] [])) _
      refine XS.aload X36.here hx rfl (hb hby at_73) rfl rfl ?_
      exact kt
    obtain ⟨_, _, ⟨T40, L40, kc40, nc40⟩, -, X40, ⟨Lc40, hQ40, l40, y40, z40⟩, st40⟩ := Jvm.LawKit.callS X36 hx (y := (⟨"com/example/vidura/vidura/stats/Values", "signedZeroFree", "([D)[D"⟩ : MethodName)) hown (mvT hZ (hw _ (List.mem_of_getElem? (i := 5) rfl))) (mvT hZ (hw _ (List.mem_of_getElem? (i := 6) rfl))) (mvT hZ (hw _ (List.mem_of_getElem? (i := 7) rfl))) (mvT hZ (hw _ (List.mem_of_getElem? (i := 8) rfl))) (by decide) (backOf (W := 0) (rm2m1 l Z a0 hw [] b32 k32 (own_v p1 p4 (0 : Int32)) h36 n0 z38 V36' (own_v_fin p1 p4 (0 : Int32))) hZ (hw _ (List.mem_of_getElem? (i := 8) rfl)) (hw _ (List.mem_of_getElem? (i := 7) rfl)) (by decide) (by decide)) (g := (mkF m 75 #[.val (.int p0), .val (.int p1), .val (.int p2), .val (.int p3), .val (.int p4), .val (.int (1 : Int32)), .val (.double (own_v p1 p4 (0 : Int32))), .second, .val (.double (own_v p2 p4 (1 : Int32))), .second, .val (.double (own_v p3 p4 (2 : Int32))), .second, .val (.ref b32), .unset] [(.ref b32)])) rfl (by rw [hml]; rfl) (argsL := [(.ref b32)]) (rest := []) (lenOf pd_1 rfl) rfl (by show 2 * 0 + _ ≤ _; exact Nat.le_of_eq rfl) (hb hby at_75) (fun _ _ => ⟨rfl, e36, (by decide : 1 + 1 ≤ _), (by decide : 1 + 1 ≤ _)⟩)
    dsimp only [Pt.U, Pt.locs, Pt.cells, Pt.slots] at X40 l40 y40 z40 st40 hQ40
    subst l40 y40 z40
    obtain ⟨rfl, N40q, K40, ⟨kk40, Va40⟩⟩ := hQ40
    have N40 := Fr.app N36 N40q
    obtain ⟨b40, gq40⟩ : ∃ z, z = h36.size := ⟨_, rfl⟩
    rw [← gq40] at Va40 st40
    have gg_b40 : n0 ≤ b40 := Nat.le_trans z38 (Nat.le_of_eq gq40.symm)
    have pre41 : ∀ t, Steps p.tables e below (T40.setTop (mkF m 78 #[.val (.int p0), .val (.int p1), .val (.int p2), .val (.int p3), .val (.int p4), .val (.int (1 : Int32)), .val (.double (own_v p1 p4 (0 : Int32))), .second, .val (.double (own_v p2 p4 (1 : Int32))), .second, .val (.double (own_v p3 p4 (2 : Int32))), .second, .val (.ref b32), .unset] [(.ref b40)])) t → Steps p.tables e below (s₁.setTop (entryFrame m #[(.int p0), (.int p1), (.int p2), (.int p3), (.int p4)] maxLocals)) t := fun t kt => pre39 _ (st40 _ kt)
    have pre42 : ∀ t, Steps p.tables e below (T40.setTop (mkF m 87 #[.val (.int p0), .val (.int p1), .val (.int p2), .val (.int p3), .val (.int p4), .val (.int (1 : Int32)), .val (.double (own_v p1 p4 (0 : Int32))), .second, .val (.double (own_v p2 p4 (1 : Int32))), .second, .val (.double (own_v p3 p4 (2 : Int32))), .second, .val (.ref b32), .val (.ref b40)] [(.ref b40)])) t → Steps p.tables e below (s₁.setTop (entryFrame m #[(.int p0), (.int p1), (.int p2), (.int p3), (.int p4)] maxLocals)) t := fun t kt => by
      refine pre41 _ ?_
      show Steps p.tables e below (T40.setTop (mkF m 78 #[.val (.int p0), .val (.int p1), .val (.int p2), .val (.int p3), .val (.int p4), .val (.int (1 : Int32)), .val (.double (own_v p1 p4 (0 : Int32))), .second, .val (.double (own_v p2 p4 (1 : Int32))), .second, .val (.double (own_v p3 p4 (2 : Int32))), .second, .val (.ref b32), .unset] [(.ref b40)])) _
      refine XS.astore X40.here hx rfl (hb hby at_78) rfl rfl (l' := #[.val (.int p0), .val (.int p1), .val (.int p2), .val (.int p3), .val (.int p4), .val (.int (1 : Int32)), .val (.double (own_v p1 p4 (0 : Int32))), .second, .val (.double (own_v p2 p4 (1 : Int32))), .second, .val (.double (own_v p3 p4 (2 : Int32))), .second, .val (.ref b32), .val (.ref b40)]) rfl ?_
      show Steps p.tables e below (T40.setTop (mkF m 80 #[.val (.int p0), .val (.int p1), .val (.int p2), .val (.int p3), .val (.int p4), .val (.int (1 : Int32)), .val (.double (own_v p1 p4 (0 : Int32))), .second, .val (.double (own_v p2 p4 (1 : Int32))), .second, .val (.double (own_v p3 p4 (2 : Int32))), .second, .val (.ref b32), .val (.ref b40)] [])) _
      refine XS.aload X40.here hx rfl (hb hby at_80) rfl rfl ?_
      show Steps p.tables e below (T40.setTop (mkF m 82 #[.val (.int p0), .val (.int p1), .val (.int p2), .val (.int p3), .val (.int p4), .val (.int (1 : Int32)), .val (.double (own_v p1 p4 (0 : Int32))), .second, .val (.double (own_v p2 p4 (1 : Int32))), .second, .val (.double (own_v p3 p4 (2 : Int32))), .second, .val (.ref b32), .val (.ref b40)] [(.ref b40)])) _
      refine XS.ifnullNo X40.here hx rfl (hb hby at_82) rfl ?_
      show Steps p.tables e below (T40.setTop (mkF m 85 #[.val (.int p0), .val (.int p1), .val (.int p2), .val (.int p3), .val (.int p4), .val (.int (1 : Int32)), .val (.double (own_v p1 p4 (0 : Int32))), .second, .val (.double (own_v p2 p4 (1 : Int32))), .second, .val (.double (own_v p3 p4 (2 : Int32))), .second, .val (.ref b32), .val (.ref b40)] [])) _
      refine XS.aload X40.here hx rfl (hb hby at_85) rfl rfl ?_
      exact kt
    obtain ⟨cl43, Ar43, qk43, Sz43, Nn43, Hh43, Gg43⟩ := id Va40
    have z44 : n0 ≤ T40.heap.size := (Nat.le_trans z38 K40.1)
    have f45 := (V36'.keep K40 nin0)
    have pre46 : ∀ t, Steps p.tables e below (T40.setTop (mkF m 104 #[.val (.int p0), .val (.int p1), .val (.int p2), .val (.int p3), .val (.int p4), .val (.int (1 : Int32)), .val (.double (own_v p1 p4 (0 : Int32))), .second, .val (.double (own_v p2 p4 (1 : Int32))), .second, .val (.double (own_v p3 p4 (2 : Int32))), .second, .val (.ref b32), .val (.ref b40)] [(.int (1 : Int32)), (.int (0 : Int32)), (.double (own_v p1 p4 (0 : Int32))), (.ref b40), (.ref b32)])) t → Steps p.tables e below (s₁.setTop (entryFrame m #[(.int p0), (.int p1), (.int p2), (.int p3), (.int p4)] maxLocals)) t := fun t kt => by
      refine pre42 _ ?_
      show Steps p.tables e below (T40.setTop (mkF m 87 #[.val (.int p0), .val (.int p1), .val (.int p2), .val (.int p3), .val (.int p4), .val (.int (1 : Int32)), .val (.double (own_v p1 p4 (0 : Int32))), .second, .val (.double (own_v p2 p4 (1 : Int32))), .second, .val (.double (own_v p3 p4 (2 : Int32))), .second, .val (.ref b32), .val (.ref b40)] [(.ref b40)])) _
      refine X40.arraylength hx Ar43.1 (State.isArrayOf_alike hZ.alike Ar43.2.1) (g := (mkF m 87 #[.val (.int p0), .val (.int p1), .val (.int p2), .val (.int p3), .val (.int p4), .val (.int (1 : Int32)), .val (.double (own_v p1 p4 (0 : Int32))), .second, .val (.double (own_v p2 p4 (1 : Int32))), .second, .val (.double (own_v p3 p4 (2 : Int32))), .second, .val (.ref b32), .val (.ref b40)] [(.ref b40)])) rfl rfl (hb hby at_87) _ ?_
      rw [len_of Sz43 Nn43]
      show Steps p.tables e below (T40.setTop (mkF m 88 #[.val (.int p0), .val (.int p1), .val (.int p2), .val (.int p3), .val (.int p4), .val (.int (1 : Int32)), .val (.double (own_v p1 p4 (0 : Int32))), .second, .val (.double (own_v p2 p4 (1 : Int32))), .second, .val (.double (own_v p3 p4 (2 : Int32))), .second, .val (.ref b32), .val (.ref b40)] [(.int (1 : Int32))])) _
      refine XS.iload X40.here hx rfl (hb hby at_88) rfl ?_
      show Steps p.tables e below (T40.setTop (mkF m 90 #[.val (.int p0), .val (.int p1), .val (.int p2), .val (.int p3), .val (.int p4), .val (.int (1 : Int32)), .val (.double (own_v p1 p4 (0 : Int32))), .second, .val (.double (own_v p2 p4 (1 : Int32))), .second, .val (.double (own_v p3 p4 (2 : Int32))), .second, .val (.ref b32), .val (.ref b40)] [(.int (1 : Int32)), (.int (1 : Int32))])) _
      refine XS.icmpYes X40.here hx rfl (pc0 := 90) (pc' := 95) rfl (hb hby at_90) rfl (teq (by decide : (1 : Int32) = (1 : Int32))).1 (by decide) (by decide) ?_
      show Steps p.tables e below (T40.setTop (mkF m 95 #[.val (.int p0), .val (.int p1), .val (.int p2), .val (.int p3), .val (.int p4), .val (.int (1 : Int32)), .val (.double (own_v p1 p4 (0 : Int32))), .second, .val (.double (own_v p2 p4 (1 : Int32))), .second, .val (.double (own_v p3 p4 (2 : Int32))), .second, .val (.ref b32), .val (.ref b40)] [])) _
      refine XS.aload X40.here hx rfl (hb hby at_95) rfl rfl ?_
      show Steps p.tables e below (T40.setTop (mkF m 97 #[.val (.int p0), .val (.int p1), .val (.int p2), .val (.int p3), .val (.int p4), .val (.int (1 : Int32)), .val (.double (own_v p1 p4 (0 : Int32))), .second, .val (.double (own_v p2 p4 (1 : Int32))), .second, .val (.double (own_v p3 p4 (2 : Int32))), .second, .val (.ref b32), .val (.ref b40)] [(.ref b32)])) _
      refine XS.aload X40.here hx rfl (hb hby at_97) rfl rfl ?_
      show Steps p.tables e below (T40.setTop (mkF m 99 #[.val (.int p0), .val (.int p1), .val (.int p2), .val (.int p3), .val (.int p4), .val (.int (1 : Int32)), .val (.double (own_v p1 p4 (0 : Int32))), .second, .val (.double (own_v p2 p4 (1 : Int32))), .second, .val (.double (own_v p3 p4 (2 : Int32))), .second, .val (.ref b32), .val (.ref b40)] [(.ref b40), (.ref b32)])) _
      refine XS.dload X40.here hx rfl (hb hby at_99) rfl ?_
      show Steps p.tables e below (T40.setTop (mkF m 101 #[.val (.int p0), .val (.int p1), .val (.int p2), .val (.int p3), .val (.int p4), .val (.int (1 : Int32)), .val (.double (own_v p1 p4 (0 : Int32))), .second, .val (.double (own_v p2 p4 (1 : Int32))), .second, .val (.double (own_v p3 p4 (2 : Int32))), .second, .val (.ref b32), .val (.ref b40)] [(.double (own_v p1 p4 (0 : Int32))), (.ref b40), (.ref b32)])) _
      refine XS.iconst X40.here hx rfl (hb hby at_101) ?_
      show Steps p.tables e below (T40.setTop (mkF m 102 #[.val (.int p0), .val (.int p1), .val (.int p2), .val (.int p3), .val (.int p4), .val (.int (1 : Int32)), .val (.double (own_v p1 p4 (0 : Int32))), .second, .val (.double (own_v p2 p4 (1 : Int32))), .second, .val (.double (own_v p3 p4 (2 : Int32))), .second, .val (.ref b32), .val (.ref b40)] [(.int (0 : Int32)), (.double (own_v p1 p4 (0 : Int32))), (.ref b40), (.ref b32)])) _
      refine XS.iload X40.here hx rfl (hb hby at_102) rfl ?_
      exact kt
    obtain ⟨_, _, ⟨T47, L47, kc47, nc47⟩, -, X47, ⟨Lc47, hQ47, l47, y47, z47⟩, st47⟩ := Jvm.LawKit.callS X40 hx (y := (⟨"com/example/vidura/vidura/stats/ValuesSignedZeroFreePinLaw", "ok", "([D[DDII)Z"⟩ : MethodName)) hown (mvT hZ (hw _ (List.mem_of_getElem? (i := 9) rfl))) (mvT hZ (hw _ (List.mem_of_getElem? (i := 10) rfl))) (mvT hZ (hw _ (List.mem_of_getElem? (i := 2) rfl))) (mvT hZ (hw _ (List.mem_of_getElem? (i := 11) rfl))) (by decide) (backOf (W := 0) (rm3 l Z a0 hw [] b32 b40 (own_v p1 p4 (0 : Int32)) (0 : Int32) (1 : Int32) k32 kk40 [(.double (own_v p1 p4 (0 : Int32)))] [(.double (own_r (own_v p1 p4 (0 : Int32))))] T40.heap n0 z44 f45 Va40 (by decide) (by decide) rfl rfl (own_v_fin p1 p4 (0 : Int32))) hZ (hw _ (List.mem_of_getElem? (i := 11) rfl)) (hw _ (List.mem_of_getElem? (i := 2) rfl)) (by decide) (by decide)) (g := (mkF m 104 #[.val (.int p0), .val (.int p1), .val (.int p2), .val (.int p3), .val (.int p4), .val (.int (1 : Int32)), .val (.double (own_v p1 p4 (0 : Int32))), .second, .val (.double (own_v p2 p4 (1 : Int32))), .second, .val (.double (own_v p3 p4 (2 : Int32))), .second, .val (.ref b32), .val (.ref b40)] [(.int (1 : Int32)), (.int (0 : Int32)), (.double (own_v p1 p4 (0 : Int32))), (.ref b40), (.ref b32)])) rfl (by rw [hml]; rfl) (argsL := [(.ref b32), (.ref b40), (.double (own_v p1 p4 (0 : Int32))), (.int (0 : Int32)), (.int (1 : Int32))]) (rest := []) (lenOf pd_2 rfl) rfl (by show 2 * 0 + _ ≤ _; exact Nat.le_of_eq rfl) (hb hby at_104) (fun _ _ => ⟨rfl, rfl, (by decide : 2 + 0 ≤ _), (by decide : 2 + 0 ≤ _)⟩)
    dsimp only [Pt.U, Pt.locs, Pt.cells, Pt.slots] at X47 l47 y47 z47 st47 hQ47
    subst l47 y47 z47
    obtain ⟨rfl, N47q, he47⟩ := hQ47
    have N47 := Fr.app N40 N47q
    have pre48 : ∀ t, Steps p.tables e below (T47.setTop (mkF m 107 #[.val (.int p0), .val (.int p1), .val (.int p2), .val (.int p3), .val (.int p4), .val (.int (1 : Int32)), .val (.double (own_v p1 p4 (0 : Int32))), .second, .val (.double (own_v p2 p4 (1 : Int32))), .second, .val (.double (own_v p3 p4 (2 : Int32))), .second, .val (.ref b32), .val (.ref b40)] [(.int (1 : Int32))])) t → Steps p.tables e below (s₁.setTop (entryFrame m #[(.int p0), (.int p1), (.int p2), (.int p3), (.int p4)] maxLocals)) t := fun t kt => pre46 _ (st47 _ kt)
    have pre49 : ∀ t, Steps p.tables e below (T47.setTop (mkF m 119 #[.val (.int p0), .val (.int p1), .val (.int p2), .val (.int p3), .val (.int p4), .val (.int (1 : Int32)), .val (.double (own_v p1 p4 (0 : Int32))), .second, .val (.double (own_v p2 p4 (1 : Int32))), .second, .val (.double (own_v p3 p4 (2 : Int32))), .second, .val (.ref b32), .val (.ref b40)] [(.int (1 : Int32)), (.int (1 : Int32)), (.double (own_v p2 p4 (1 : Int32))), (.ref b40), (.ref b32)])) t → Steps p.tables e below (s₁.setTop (entryFrame m #[(.int p0), (.int p1), (.int p2), (.int p3), (.int p4)] maxLocals)) t := fun t kt => by
      refine pre48 _ ?_
      show Steps p.tables e below (T47.setTop (mkF m 107 #[.val (.int p0), .val (.int p1), .val (.int p2), .val (.int p3), .val (.int p4), .val (.int (1 : Int32)), .val (.double (own_v p1 p4 (0 : Int32))), .second, .val (.double (own_v p2 p4 (1 : Int32))), .second, .val (.double (own_v p3 p4 (2 : Int32))), .second, .val (.ref b32), .val (.ref b40)] [(.int (1 : Int32))])) _
      refine XS.ifNo X47.here hx rfl (hb hby at_107) rfl ((if0 _ _).trans (feq (by decide : ¬ ((1 : Int32) = (0 : Int32)))).1) ?_
      show Steps p.tables e below (T47.setTop (mkF m 110 #[.val (.int p0), .val (.int p1), .val (.int p2), .val (.int p3), .val (.int p4), .val (.int (1 : Int32)), .val (.double (own_v p1 p4 (0 : Int32))), .second, .val (.double (own_v p2 p4 (1 : Int32))), .second, .val (.double (own_v p3 p4 (2 : Int32))), .second, .val (.ref b32), .val (.ref b40)] [])) _
      refine XS.aload X47.here hx rfl (hb hby at_110) rfl rfl ?_
      show Steps p.tables e below (T47.setTop (mkF m 112 #[.val (.int p0), .val (.int p1), .val (.int p2), .val (.int p3), .val (.int p4), .val (.int (1 : Int32)), .val (.double (own_v p1 p4 (0 : Int32))), .second, .val (.double (own_v p2 p4 (1 : Int32))), .second, .val (.double (own_v p3 p4 (2 : Int32))), .second, .val (.ref b32), .val (.ref b40)] [(.ref b32)])) _
      refine XS.aload X47.here hx rfl (hb hby at_112) rfl rfl ?_
      show Steps p.tables e below (T47.setTop (mkF m 114 #[.val (.int p0), .val (.int p1), .val (.int p2), .val (.int p3), .val (.int p4), .val (.int (1 : Int32)), .val (.double (own_v p1 p4 (0 : Int32))), .second, .val (.double (own_v p2 p4 (1 : Int32))), .second, .val (.double (own_v p3 p4 (2 : Int32))), .second, .val (.ref b32), .val (.ref b40)] [(.ref b40), (.ref b32)])) _
      refine XS.dload X47.here hx rfl (hb hby at_114) rfl ?_
      show Steps p.tables e below (T47.setTop (mkF m 116 #[.val (.int p0), .val (.int p1), .val (.int p2), .val (.int p3), .val (.int p4), .val (.int (1 : Int32)), .val (.double (own_v p1 p4 (0 : Int32))), .second, .val (.double (own_v p2 p4 (1 : Int32))), .second, .val (.double (own_v p3 p4 (2 : Int32))), .second, .val (.ref b32), .val (.ref b40)] [(.double (own_v p2 p4 (1 : Int32))), (.ref b40), (.ref b32)])) _
      refine XS.iconst X47.here hx rfl (hb hby at_116) ?_
      show Steps p.tables e below (T47.setTop (mkF m 117 #[.val (.int p0), .val (.int p1), .val (.int p2), .val (.int p3), .val (.int p4), .val (.int (1 : Int32)), .val (.double (own_v p1 p4 (0 : Int32))), .second, .val (.double (own_v p2 p4 (1 : Int32))), .second, .val (.double (own_v p3 p4 (2 : Int32))), .second, .val (.ref b32), .val (.ref b40)] [(.int (1 : Int32)), (.double (own_v p2 p4 (1 : Int32))), (.ref b40), (.ref b32)])) _
      refine XS.iload X47.here hx rfl (hb hby at_117) rfl ?_
      exact kt
    obtain ⟨_, _, ⟨T50, L50, kc50, nc50⟩, -, X50, ⟨Lc50, hQ50, l50, y50, z50⟩, st50⟩ := Jvm.LawKit.callS X47 hx (y := (⟨"com/example/vidura/vidura/stats/ValuesSignedZeroFreePinLaw", "ok", "([D[DDII)Z"⟩ : MethodName)) hown (mvT hZ (hw _ (List.mem_of_getElem? (i := 9) rfl))) (mvT hZ (hw _ (List.mem_of_getElem? (i := 10) rfl))) (mvT hZ (hw _ (List.mem_of_getElem? (i := 2) rfl))) (mvT hZ (hw _ (List.mem_of_getElem? (i := 11) rfl))) (by decide) (backOf (W := 0) (rm3n l Z a0 hw [] b32 b40 (own_v p2 p4 (1 : Int32)) (1 : Int32) (1 : Int32) T40.heap n0 z44 (by decide)) hZ (hw _ (List.mem_of_getElem? (i := 11) rfl)) (hw _ (List.mem_of_getElem? (i := 2) rfl)) (by decide) (by decide)) (g := (mkF m 119 #[.val (.int p0), .val (.int p1), .val (.int p2), .val (.int p3), .val (.int p4), .val (.int (1 : Int32)), .val (.double (own_v p1 p4 (0 : Int32))), .second, .val (.double (own_v p2 p4 (1 : Int32))), .second, .val (.double (own_v p3 p4 (2 : Int32))), .second, .val (.ref b32), .val (.ref b40)] [(.int (1 : Int32)), (.int (1 : Int32)), (.double (own_v p2 p4 (1 : Int32))), (.ref b40), (.ref b32)])) rfl (by rw [hml]; rfl) (argsL := [(.ref b32), (.ref b40), (.double (own_v p2 p4 (1 : Int32))), (.int (1 : Int32)), (.int (1 : Int32))]) (rest := []) (lenOf pd_2 rfl) rfl (by show 2 * 0 + _ ≤ _; exact Nat.le_of_eq rfl) (hb hby at_119) (fun _ _ => ⟨rfl, he47, (by decide : 2 + 0 ≤ _), (by decide : 2 + 0 ≤ _)⟩)
    dsimp only [Pt.U, Pt.locs, Pt.cells, Pt.slots] at X50 l50 y50 z50 st50 hQ50
    subst l50 y50 z50
    obtain ⟨rfl, N50q, he50⟩ := hQ50
    have N50 := Fr.app N47 N50q
    have pre51 : ∀ t, Steps p.tables e below (T50.setTop (mkF m 122 #[.val (.int p0), .val (.int p1), .val (.int p2), .val (.int p3), .val (.int p4), .val (.int (1 : Int32)), .val (.double (own_v p1 p4 (0 : Int32))), .second, .val (.double (own_v p2 p4 (1 : Int32))), .second, .val (.double (own_v p3 p4 (2 : Int32))), .second, .val (.ref b32), .val (.ref b40)] [(.int (1 : Int32))])) t → Steps p.tables e below (s₁.setTop (entryFrame m #[(.int p0), (.int p1), (.int p2), (.int p3), (.int p4)] maxLocals)) t := fun t kt => pre49 _ (st50 _ kt)
    have pre52 : ∀ t, Steps p.tables e below (T50.setTop (mkF m 134 #[.val (.int p0), .val (.int p1), .val (.int p2), .val (.int p3), .val (.int p4), .val (.int (1 : Int32)), .val (.double (own_v p1 p4 (0 : Int32))), .second, .val (.double (own_v p2 p4 (1 : Int32))), .second, .val (.double (own_v p3 p4 (2 : Int32))), .second, .val (.ref b32), .val (.ref b40)] [(.int (1 : Int32)), (.int (2 : Int32)), (.double (own_v p3 p4 (2 : Int32))), (.ref b40), (.ref b32)])) t → Steps p.tables e below (s₁.setTop (entryFrame m #[(.int p0), (.int p1), (.int p2), (.int p3), (.int p4)] maxLocals)) t := fun t kt => by
      refine pre51 _ ?_
      show Steps p.tables e below (T50.setTop (mkF m 122 #[.val (.int p0), .val (.int p1), .val (.int p2), .val (.int p3), .val (.int p4), .val (.int (1 : Int32)), .val (.double (own_v p1 p4 (0 : Int32))), .second, .val (.double (own_v p2 p4 (1 : Int32))), .second, .val (.double (own_v p3 p4 (2 : Int32))), .second, .val (.ref b32), .val (.ref b40)] [(.int (1 : Int32))])) _
      refine XS.ifNo X50.here hx rfl (hb hby at_122) rfl ((if0 _ _).trans (feq (by decide : ¬ ((1 : Int32) = (0 : Int32)))).1) ?_
      show Steps p.tables e below (T50.setTop (mkF m 125 #[.val (.int p0), .val (.int p1), .val (.int p2), .val (.int p3), .val (.int p4), .val (.int (1 : Int32)), .val (.double (own_v p1 p4 (0 : Int32))), .second, .val (.double (own_v p2 p4 (1 : Int32))), .second, .val (.double (own_v p3 p4 (2 : Int32))), .second, .val (.ref b32), .val (.ref b40)] [])) _
      refine XS.aload X50.here hx rfl (hb hby at_125) rfl rfl ?_
      show Steps p.tables e below (T50.setTop (mkF m 127 #[.val (.int p0), .val (.int p1), .val (.int p2), .val (.int p3), .val (.int p4), .val (.int (1 : Int32)), .val (.double (own_v p1 p4 (0 : Int32))), .second, .val (.double (own_v p2 p4 (1 : Int32))), .second, .val (.double (own_v p3 p4 (2 : Int32))), .second, .val (.ref b32), .val (.ref b40)] [(.ref b32)])) _
      refine XS.aload X50.here hx rfl (hb hby at_127) rfl rfl ?_
      show Steps p.tables e below (T50.setTop (mkF m 129 #[.val (.int p0), .val (.int p1), .val (.int p2), .val (.int p3), .val (.int p4), .val (.int (1 : Int32)), .val (.double (own_v p1 p4 (0 : Int32))), .second, .val (.double (own_v p2 p4 (1 : Int32))), .second, .val (.double (own_v p3 p4 (2 : Int32))), .second, .val (.ref b32), .val (.ref b40)] [(.ref b40), (.ref b32)])) _
      refine XS.dload X50.here hx rfl (hb hby at_129) rfl ?_
      show Steps p.tables e below (T50.setTop (mkF m 131 #[.val (.int p0), .val (.int p1), .val (.int p2), .val (.int p3), .val (.int p4), .val (.int (1 : Int32)), .val (.double (own_v p1 p4 (0 : Int32))), .second, .val (.double (own_v p2 p4 (1 : Int32))), .second, .val (.double (own_v p3 p4 (2 : Int32))), .second, .val (.ref b32), .val (.ref b40)] [(.double (own_v p3 p4 (2 : Int32))), (.ref b40), (.ref b32)])) _
      refine XS.iconst X50.here hx rfl (hb hby at_131) ?_
      show Steps p.tables e below (T50.setTop (mkF m 132 #[.val (.int p0), .val (.int p1), .val (.int p2), .val (.int p3), .val (.int p4), .val (.int (1 : Int32)), .val (.double (own_v p1 p4 (0 : Int32))), .second, .val (.double (own_v p2 p4 (1 : Int32))), .second, .val (.double (own_v p3 p4 (2 : Int32))), .second, .val (.ref b32), .val (.ref b40)] [(.int (2 : Int32)), (.double (own_v p3 p4 (2 : Int32))), (.ref b40), (.ref b32)])) _
      refine XS.iload X50.here hx rfl (hb hby at_132) rfl ?_
      exact kt
    obtain ⟨_, _, ⟨T53, L53, kc53, nc53⟩, -, X53, ⟨Lc53, hQ53, l53, y53, z53⟩, st53⟩ := Jvm.LawKit.callS X50 hx (y := (⟨"com/example/vidura/vidura/stats/ValuesSignedZeroFreePinLaw", "ok", "([D[DDII)Z"⟩ : MethodName)) hown (mvT hZ (hw _ (List.mem_of_getElem? (i := 9) rfl))) (mvT hZ (hw _ (List.mem_of_getElem? (i := 10) rfl))) (mvT hZ (hw _ (List.mem_of_getElem? (i := 2) rfl))) (mvT hZ (hw _ (List.mem_of_getElem? (i := 11) rfl))) (by decide) (backOf (W := 0) (rm3n l Z a0 hw [] b32 b40 (own_v p3 p4 (2 : Int32)) (2 : Int32) (1 : Int32) T40.heap n0 z44 (by decide)) hZ (hw _ (List.mem_of_getElem? (i := 11) rfl)) (hw _ (List.mem_of_getElem? (i := 2) rfl)) (by decide) (by decide)) (g := (mkF m 134 #[.val (.int p0), .val (.int p1), .val (.int p2), .val (.int p3), .val (.int p4), .val (.int (1 : Int32)), .val (.double (own_v p1 p4 (0 : Int32))), .second, .val (.double (own_v p2 p4 (1 : Int32))), .second, .val (.double (own_v p3 p4 (2 : Int32))), .second, .val (.ref b32), .val (.ref b40)] [(.int (1 : Int32)), (.int (2 : Int32)), (.double (own_v p3 p4 (2 : Int32))), (.ref b40), (.ref b32)])) rfl (by rw [hml]; rfl) (argsL := [(.ref b32), (.ref b40), (.double (own_v p3 p4 (2 : Int32))), (.int (2 : Int32)), (.int (1 : Int32))]) (rest := []) (lenOf pd_2 rfl) rfl (by show 2 * 0 + _ ≤ _; exact Nat.le_of_eq rfl) (hb hby at_134) (fun _ _ => ⟨rfl, he50, (by decide : 2 + 0 ≤ _), (by decide : 2 + 0 ≤ _)⟩)
    dsimp only [Pt.U, Pt.locs, Pt.cells, Pt.slots] at X53 l53 y53 z53 st53 hQ53
    subst l53 y53 z53
    obtain ⟨rfl, N53q, he53⟩ := hQ53
    have N53 := Fr.app N50 N53q
    have pre54 : ∀ t, Steps p.tables e below (T53.setTop (mkF m 137 #[.val (.int p0), .val (.int p1), .val (.int p2), .val (.int p3), .val (.int p4), .val (.int (1 : Int32)), .val (.double (own_v p1 p4 (0 : Int32))), .second, .val (.double (own_v p2 p4 (1 : Int32))), .second, .val (.double (own_v p3 p4 (2 : Int32))), .second, .val (.ref b32), .val (.ref b40)] [(.int (1 : Int32))])) t → Steps p.tables e below (s₁.setTop (entryFrame m #[(.int p0), (.int p1), (.int p2), (.int p3), (.int p4)] maxLocals)) t := fun t kt => pre52 _ (st53 _ kt)
    have pre55 : ∀ t, Steps p.tables e below (T53.setTop (mkF m 145 #[.val (.int p0), .val (.int p1), .val (.int p2), .val (.int p3), .val (.int p4), .val (.int (1 : Int32)), .val (.double (own_v p1 p4 (0 : Int32))), .second, .val (.double (own_v p2 p4 (1 : Int32))), .second, .val (.double (own_v p3 p4 (2 : Int32))), .second, .val (.ref b32), .val (.ref b40)] [(.int (1 : Int32))])) t → Steps p.tables e below (s₁.setTop (entryFrame m #[(.int p0), (.int p1), (.int p2), (.int p3), (.int p4)] maxLocals)) t := fun t kt => by
      refine pre54 _ ?_
      show Steps p.tables e below (T53.setTop (mkF m 137 #[.val (.int p0), .val (.int p1), .val (.int p2), .val (.int p3), .val (.int p4), .val (.int (1 : Int32)), .val (.double (own_v p1 p4 (0 : Int32))), .second, .val (.double (own_v p2 p4 (1 : Int32))), .second, .val (.double (own_v p3 p4 (2 : Int32))), .second, .val (.ref b32), .val (.ref b40)] [(.int (1 : Int32))])) _
      refine XS.ifNo X53.here hx rfl (hb hby at_137) rfl ((if0 _ _).trans (feq (by decide : ¬ ((1 : Int32) = (0 : Int32)))).1) ?_
      show Steps p.tables e below (T53.setTop (mkF m 140 #[.val (.int p0), .val (.int p1), .val (.int p2), .val (.int p3), .val (.int p4), .val (.int (1 : Int32)), .val (.double (own_v p1 p4 (0 : Int32))), .second, .val (.double (own_v p2 p4 (1 : Int32))), .second, .val (.double (own_v p3 p4 (2 : Int32))), .second, .val (.ref b32), .val (.ref b40)] [])) _
      refine XS.iconst X53.here hx rfl (hb hby at_140) ?_
      show Steps p.tables e below (T53.setTop (mkF m 141 #[.val (.int p0), .val (.int p1), .val (.int p2), .val (.int p3), .val (.int p4), .val (.int (1 : Int32)), .val (.double (own_v p1 p4 (0 : Int32))), .second, .val (.double (own_v p2 p4 (1 : Int32))), .second, .val (.double (own_v p3 p4 (2 : Int32))), .second, .val (.ref b32), .val (.ref b40)] [(.int (1 : Int32))])) _
      refine XS.goto X53.here hx rfl (pc0 := 141) (pc' := 145) rfl (hb hby at_141) (by decide) (by decide) ?_
      exact kt
    obtain ⟨fs, hr, hrun, hended, hW, hsame⟩ := X53.leave (v := (some (.int (1 : Int32)))) (fun h => by rw [Bd.returns] at h; cases h)
    refine ⟨_, _, pre55 _ ?_, hrun, hended, _, _, rfl, ?_, ⟨_, rfl⟩, hW, hsame.mono (by decide) (by decide)⟩
    · show Steps p.tables e below (T53.setTop (mkF m 145 #[.val (.int p0), .val (.int p1), .val (.int p2), .val (.int p3), .val (.int p4), .val (.int (1 : Int32)), .val (.double (own_v p1 p4 (0 : Int32))), .second, .val (.double (own_v p2 p4 (1 : Int32))), .second, .val (.double (own_v p3 p4 (2 : Int32))), .second, .val (.ref b32), .val (.ref b40)] [(.int (1 : Int32))])) _
      exact retN X53 hx (t := .boolean) Bd.returns (by simp) (hb hby at_145) hr
    · show Q0 Z p0 p1 p2 p3 p4 h0 n0 _ T53.heap _
      rw [he53]
      exact ⟨rfl, N53⟩
  · have pre56 : ∀ t, Steps p.tables e below (T8.setTop (mkF m 34 #[.val (.int p0), .val (.int p1), .val (.int p2), .val (.int p3), .val (.int p4), .val (.int (2 : Int32)), .val (.double (own_v p1 p4 (0 : Int32))), .second, .val (.double (own_v p2 p4 (1 : Int32))), .second, .val (.double (own_v p3 p4 (2 : Int32))), .second, .unset, .unset] [(.int (2 : Int32))])) t → Steps p.tables e below (s₁.setTop (entryFrame m #[(.int p0), (.int p1), (.int p2), (.int p3), (.int p4)] maxLocals)) t := fun t kt => by
      refine pre10 _ ?_
      show Steps p.tables e below (T8.setTop (mkF m 32 #[.val (.int p0), .val (.int p1), .val (.int p2), .val (.int p3), .val (.int p4), .val (.int (own_n p0)), .val (.double (own_v p1 p4 (0 : Int32))), .second, .val (.double (own_v p2 p4 (1 : Int32))), .second, .val (.double (own_v p3 p4 (2 : Int32))), .second, .unset, .unset] [])) _
      refine XS.iload X8.here hx rfl (hb hby at_32) rfl ?_
      show Steps p.tables e below (T8.setTop (mkF m 34 #[.val (.int p0), .val (.int p1), .val (.int p2), .val (.int p3), .val (.int p4), .val (.int (own_n p0)), .val (.double (own_v p1 p4 (0 : Int32))), .second, .val (.double (own_v p2 p4 (1 : Int32))), .second, .val (.double (own_v p3 p4 (2 : Int32))), .second, .unset, .unset] [(.int (own_n p0))])) _
      rw [show (own_n p0) = (2 : Int32) from hn]
      exact kt
    obtain ⟨T57, h57, k57, X57, e57, E57, A57, st57⟩ := newP X8 hx hZ (hw _ (List.mem_of_getElem? (i := 4) rfl)) he8 (g := (mkF m 34 #[.val (.int p0), .val (.int p1), .val (.int p2), .val (.int p3), .val (.int p4), .val (.int (2 : Int32)), .val (.double (own_v p1 p4 (0 : Int32))), .second, .val (.double (own_v p2 p4 (1 : Int32))), .second, .val (.double (own_v p3 p4 (2 : Int32))), .second, .unset, .unset] [(.int (2 : Int32))])) rfl (hb hby at_34) rfl (by decide) (cap := 2) (by decide) (by decide) (by decide) (by decide)
    obtain ⟨b57, gq57⟩ : ∃ z, z = h0.size := ⟨_, rfl⟩
    rw [← gq57] at A57 st57
    have gg_b57 : n0 ≤ b57 := Nat.le_trans Z0 (Nat.le_of_eq gq57.symm)
    have V57 : Arv Z h57 b57 k57 .double (2 : Int32) [(.double 0), (.double 0)] (.double 0) := (Arv.new A57 (by decide)).pad (pad_rep [] (.double 0) 2)
    have pre58 : ∀ t, Steps p.tables e below (T57.setTop (mkF m 36 #[.val (.int p0), .val (.int p1), .val (.int p2), .val (.int p3), .val (.int p4), .val (.int (2 : Int32)), .val (.double (own_v p1 p4 (0 : Int32))), .second, .val (.double (own_v p2 p4 (1 : Int32))), .second, .val (.double (own_v p3 p4 (2 : Int32))), .second, .unset, .unset] [(.ref b57)])) t → Steps p.tables e below (s₁.setTop (entryFrame m #[(.int p0), (.int p1), (.int p2), (.int p3), (.int p4)] maxLocals)) t := fun t kt => pre56 _ (st57 _ kt)
    obtain ⟨cl59, Ar59, qk59, Sz59, Nn59, Hh59, Gg59⟩ := id V57
    have hin59 : ¬ ((0 : Int32) < 0 ∨ cl59.slots.size ≤ ((0 : Int32)).toNatClampNeg) := inb_of Sz59 ⟨by decide, by decide⟩
    have pre60 : ∀ t, Steps p.tables e below (T57.setTop (mkF m 48 #[.val (.int p0), .val (.int p1), .val (.int p2), .val (.int p3), .val (.int p4), .val (.int (2 : Int32)), .val (.double (own_v p1 p4 (0 : Int32))), .second, .val (.double (own_v p2 p4 (1 : Int32))), .second, .val (.double (own_v p3 p4 (2 : Int32))), .second, .val (.ref b57), .unset] [(.double (own_v p1 p4 (0 : Int32))), (.int (0 : Int32)), (.ref b57)])) t → Steps p.tables e below (s₁.setTop (entryFrame m #[(.int p0), (.int p1), (.int p2), (.int p3), (.int p4)] maxLocals)) t := fun t kt => by
      refine pre58 _ ?_
      show Steps p.tables e below (T57.setTop (mkF m 36 #[.val (.int p0), .val (.int p1), .val (.int p2), .val (.int p3), .val (.int p4), .val (.int (2 : Int32)), .val (.double (own_v p1 p4 (0 : Int32))), .second, .val (.double (own_v p2 p4 (1 : Int32))), .second, .val (.double (own_v p3 p4 (2 : Int32))), .second, .unset, .unset] [(.ref b57)])) _
      refine XS.astore X57.here hx rfl (hb hby at_36) rfl rfl (l' := #[.val (.int p0), .val (.int p1), .val (.int p2), .val (.int p3), .val (.int p4), .val (.int (2 : Int32)), .val (.double (own_v p1 p4 (0 : Int32))), .second, .val (.double (own_v p2 p4 (1 : Int32))), .second, .val (.double (own_v p3 p4 (2 : Int32))), .second, .val (.ref b57), .unset]) rfl ?_
      show Steps p.tables e below (T57.setTop (mkF m 38 #[.val (.int p0), .val (.int p1), .val (.int p2), .val (.int p3), .val (.int p4), .val (.int (2 : Int32)), .val (.double (own_v p1 p4 (0 : Int32))), .second, .val (.double (own_v p2 p4 (1 : Int32))), .second, .val (.double (own_v p3 p4 (2 : Int32))), .second, .val (.ref b57), .unset] [])) _
      refine XS.iload X57.here hx rfl (hb hby at_38) rfl ?_
      show Steps p.tables e below (T57.setTop (mkF m 40 #[.val (.int p0), .val (.int p1), .val (.int p2), .val (.int p3), .val (.int p4), .val (.int (2 : Int32)), .val (.double (own_v p1 p4 (0 : Int32))), .second, .val (.double (own_v p2 p4 (1 : Int32))), .second, .val (.double (own_v p3 p4 (2 : Int32))), .second, .val (.ref b57), .unset] [(.int (2 : Int32))])) _
      refine XS.ifNo X57.here hx rfl (hb hby at_40) rfl ((if0 _ _).trans (tlt (by decide : (0 : Int32) < (2 : Int32))).2.2.2) ?_
      show Steps p.tables e below (T57.setTop (mkF m 43 #[.val (.int p0), .val (.int p1), .val (.int p2), .val (.int p3), .val (.int p4), .val (.int (2 : Int32)), .val (.double (own_v p1 p4 (0 : Int32))), .second, .val (.double (own_v p2 p4 (1 : Int32))), .second, .val (.double (own_v p3 p4 (2 : Int32))), .second, .val (.ref b57), .unset] [])) _
      refine XS.aload X57.here hx rfl (hb hby at_43) rfl rfl ?_
      show Steps p.tables e below (T57.setTop (mkF m 45 #[.val (.int p0), .val (.int p1), .val (.int p2), .val (.int p3), .val (.int p4), .val (.int (2 : Int32)), .val (.double (own_v p1 p4 (0 : Int32))), .second, .val (.double (own_v p2 p4 (1 : Int32))), .second, .val (.double (own_v p3 p4 (2 : Int32))), .second, .val (.ref b57), .unset] [(.ref b57)])) _
      refine XS.iconst X57.here hx rfl (hb hby at_45) ?_
      show Steps p.tables e below (T57.setTop (mkF m 46 #[.val (.int p0), .val (.int p1), .val (.int p2), .val (.int p3), .val (.int p4), .val (.int (2 : Int32)), .val (.double (own_v p1 p4 (0 : Int32))), .second, .val (.double (own_v p2 p4 (1 : Int32))), .second, .val (.double (own_v p3 p4 (2 : Int32))), .second, .val (.ref b57), .unset] [(.int (0 : Int32)), (.ref b57)])) _
      refine XS.dload X57.here hx rfl (hb hby at_46) rfl ?_
      exact kt
    obtain ⟨T61, h61, X61, e61, W61, st61⟩ := stD X57 hx hZ e57 Ar59 (j := (0 : Int32)) hin59 (g := (mkF m 48 #[.val (.int p0), .val (.int p1), .val (.int p2), .val (.int p3), .val (.int p4), .val (.int (2 : Int32)), .val (.double (own_v p1 p4 (0 : Int32))), .second, .val (.double (own_v p2 p4 (1 : Int32))), .second, .val (.double (own_v p3 p4 (2 : Int32))), .second, .val (.ref b57), .unset] [(.double (own_v p1 p4 (0 : Int32))), (.int (0 : Int32)), (.ref b57)])) rfl rfl (hb hby at_48)
    have V61 := Arv.set Ar59 qk59 Sz59 Nn59 Hh59 Gg59 rfl W61 0 rfl (Nat.le_of_ble_eq_true rfl)
    have V61' : Arv Z h61 b57 k57 .double (2 : Int32) [(.double (own_v p1 p4 (0 : Int32))), (.double 0)] (.double 0) := V61
    have N61 := Fr.snoc X61 N8 gg_b57
    have pre62 : ∀ t, Steps p.tables e below (T61.setTop (mkF m 49 #[.val (.int p0), .val (.int p1), .val (.int p2), .val (.int p3), .val (.int p4), .val (.int (2 : Int32)), .val (.double (own_v p1 p4 (0 : Int32))), .second, .val (.double (own_v p2 p4 (1 : Int32))), .second, .val (.double (own_v p3 p4 (2 : Int32))), .second, .val (.ref b57), .unset] [])) t → Steps p.tables e below (s₁.setTop (entryFrame m #[(.int p0), (.int p1), (.int p2), (.int p3), (.int p4)] maxLocals)) t := fun t kt => pre60 _ (st61 _ kt)
    obtain ⟨cl63, Ar63, qk63, Sz63, Nn63, Hh63, Gg63⟩ := id V61'
    have hin63 : ¬ ((1 : Int32) < 0 ∨ cl63.slots.size ≤ ((1 : Int32)).toNatClampNeg) := inb_of Sz63 ⟨by decide, by decide⟩
    have pre64 : ∀ t, Steps p.tables e below (T61.setTop (mkF m 60 #[.val (.int p0), .val (.int p1), .val (.int p2), .val (.int p3), .val (.int p4), .val (.int (2 : Int32)), .val (.double (own_v p1 p4 (0 : Int32))), .second, .val (.double (own_v p2 p4 (1 : Int32))), .second, .val (.double (own_v p3 p4 (2 : Int32))), .second, .val (.ref b57), .unset] [(.double (own_v p2 p4 (1 : Int32))), (.int (1 : Int32)), (.ref b57)])) t → Steps p.tables e below (s₁.setTop (entryFrame m #[(.int p0), (.int p1), (.int p2), (.int p3), (.int p4)] maxLocals)) t := fun t kt => by
      refine pre62 _ ?_
      show Steps p.tables e below (T61.setTop (mkF m 49 #[.val (.int p0), .val (.int p1), .val (.int p2), .val (.int p3), .val (.int p4), .val (.int (2 : Int32)), .val (.double (own_v p1 p4 (0 : Int32))), .second, .val (.double (own_v p2 p4 (1 : Int32))), .second, .val (.double (own_v p3 p4 (2 : Int32))), .second, .val (.ref b57), .unset] [])) _
      refine XS.iload X61.here hx rfl (hb hby at_49) rfl ?_
      show Steps p.tables e below (T61.setTop (mkF m 51 #[.val (.int p0), .val (.int p1), .val (.int p2), .val (.int p3), .val (.int p4), .val (.int (2 : Int32)), .val (.double (own_v p1 p4 (0 : Int32))), .second, .val (.double (own_v p2 p4 (1 : Int32))), .second, .val (.double (own_v p3 p4 (2 : Int32))), .second, .val (.ref b57), .unset] [(.int (2 : Int32))])) _
      refine XS.iconst X61.here hx rfl (hb hby at_51) ?_
      show Steps p.tables e below (T61.setTop (mkF m 52 #[.val (.int p0), .val (.int p1), .val (.int p2), .val (.int p3), .val (.int p4), .val (.int (2 : Int32)), .val (.double (own_v p1 p4 (0 : Int32))), .second, .val (.double (own_v p2 p4 (1 : Int32))), .second, .val (.double (own_v p3 p4 (2 : Int32))), .second, .val (.ref b57), .unset] [(.int (1 : Int32)), (.int (2 : Int32))])) _
      refine XS.icmpNo X61.here hx rfl (hb hby at_52) rfl (tlt (by decide : (1 : Int32) < (2 : Int32))).2.2.2 ?_
      show Steps p.tables e below (T61.setTop (mkF m 55 #[.val (.int p0), .val (.int p1), .val (.int p2), .val (.int p3), .val (.int p4), .val (.int (2 : Int32)), .val (.double (own_v p1 p4 (0 : Int32))), .second, .val (.double (own_v p2 p4 (1 : Int32))), .second, .val (.double (own_v p3 p4 (2 : Int32))), .second, .val (.ref b57), .unset] [])) _
      refine XS.aload X61.here hx rfl (hb hby at_55) rfl rfl ?_
      show Steps p.tables e below (T61.setTop (mkF m 57 #[.val (.int p0), .val (.int p1), .val (.int p2), .val (.int p3), .val (.int p4), .val (.int (2 : Int32)), .val (.double (own_v p1 p4 (0 : Int32))), .second, .val (.double (own_v p2 p4 (1 : Int32))), .second, .val (.double (own_v p3 p4 (2 : Int32))), .second, .val (.ref b57), .unset] [(.ref b57)])) _
      refine XS.iconst X61.here hx rfl (hb hby at_57) ?_
      show Steps p.tables e below (T61.setTop (mkF m 58 #[.val (.int p0), .val (.int p1), .val (.int p2), .val (.int p3), .val (.int p4), .val (.int (2 : Int32)), .val (.double (own_v p1 p4 (0 : Int32))), .second, .val (.double (own_v p2 p4 (1 : Int32))), .second, .val (.double (own_v p3 p4 (2 : Int32))), .second, .val (.ref b57), .unset] [(.int (1 : Int32)), (.ref b57)])) _
      refine XS.dload X61.here hx rfl (hb hby at_58) rfl ?_
      exact kt
    obtain ⟨T65, h65, X65, e65, W65, st65⟩ := stD X61 hx hZ e61 Ar63 (j := (1 : Int32)) hin63 (g := (mkF m 60 #[.val (.int p0), .val (.int p1), .val (.int p2), .val (.int p3), .val (.int p4), .val (.int (2 : Int32)), .val (.double (own_v p1 p4 (0 : Int32))), .second, .val (.double (own_v p2 p4 (1 : Int32))), .second, .val (.double (own_v p3 p4 (2 : Int32))), .second, .val (.ref b57), .unset] [(.double (own_v p2 p4 (1 : Int32))), (.int (1 : Int32)), (.ref b57)])) rfl rfl (hb hby at_60)
    have V65 := Arv.set Ar63 qk63 Sz63 Nn63 Hh63 Gg63 rfl W65 1 rfl (Nat.le_of_ble_eq_true rfl)
    have V65' : Arv Z h65 b57 k57 .double (2 : Int32) [(.double (own_v p1 p4 (0 : Int32))), (.double (own_v p2 p4 (1 : Int32)))] (.double 0) := V65
    have N65 := Fr.snoc X65 N61 gg_b57
    have pre66 : ∀ t, Steps p.tables e below (T65.setTop (mkF m 61 #[.val (.int p0), .val (.int p1), .val (.int p2), .val (.int p3), .val (.int p4), .val (.int (2 : Int32)), .val (.double (own_v p1 p4 (0 : Int32))), .second, .val (.double (own_v p2 p4 (1 : Int32))), .second, .val (.double (own_v p3 p4 (2 : Int32))), .second, .val (.ref b57), .unset] [])) t → Steps p.tables e below (s₁.setTop (entryFrame m #[(.int p0), (.int p1), (.int p2), (.int p3), (.int p4)] maxLocals)) t := fun t kt => pre64 _ (st65 _ kt)
    have z67 : n0 ≤ h65.size := (Nat.le_trans (Nat.le_trans (Nat.le_trans Z0 E57.1) (Keep.of_wr W61).1) (Keep.of_wr W65).1)
    have pre68 : ∀ t, Steps p.tables e below (T65.setTop (mkF m 75 #[.val (.int p0), .val (.int p1), .val (.int p2), .val (.int p3), .val (.int p4), .val (.int (2 : Int32)), .val (.double (own_v p1 p4 (0 : Int32))), .second, .val (.double (own_v p2 p4 (1 : Int32))), .second, .val (.double (own_v p3 p4 (2 : Int32))), .second, .val (.ref b57), .unset] [(.ref b57)])) t → Steps p.tables e below (s₁.setTop (entryFrame m #[(.int p0), (.int p1), (.int p2), (.int p3), (.int p4)] maxLocals)) t := fun t kt => by
      refine pre66 _ ?_
      show Steps p.tables e below (T65.setTop (mkF m 61 #[.val (.int p0), .val (.int p1), .val (.int p2), .val (.int p3), .val (.int p4), .val (.int (2 : Int32)), .val (.double (own_v p1 p4 (0 : Int32))), .second, .val (.double (own_v p2 p4 (1 : Int32))), .second, .val (.double (own_v p3 p4 (2 : Int32))), .second, .val (.ref b57), .unset] [])) _
      refine XS.iload X65.here hx rfl (hb hby at_61) rfl ?_
      show Steps p.tables e below (T65.setTop (mkF m 63 #[.val (.int p0), .val (.int p1), .val (.int p2), .val (.int p3), .val (.int p4), .val (.int (2 : Int32)), .val (.double (own_v p1 p4 (0 : Int32))), .second, .val (.double (own_v p2 p4 (1 : Int32))), .second, .val (.double (own_v p3 p4 (2 : Int32))), .second, .val (.ref b57), .unset] [(.int (2 : Int32))])) _
      refine XS.iconst X65.here hx rfl (hb hby at_63) ?_
      show Steps p.tables e below (T65.setTop (mkF m 64 #[.val (.int p0), .val (.int p1), .val (.int p2), .val (.int p3), .val (.int p4), .val (.int (2 : Int32)), .val (.double (own_v p1 p4 (0 : Int32))), .second, .val (.double (own_v p2 p4 (1 : Int32))), .second, .val (.double (own_v p3 p4 (2 : Int32))), .second, .val (.ref b57), .unset] [(.int (2 : Int32)), (.int (2 : Int32))])) _
      refine XS.icmpYes X65.here hx rfl (pc0 := 64) (pc' := 73) rfl (hb hby at_64) rfl (flt (by decide : ¬ ((2 : Int32) < (2 : Int32)))).2.2.2 (by decide) (by decide) ?_
      show Steps p.tables e below (T65.setTop (mkF m 73 #[.val (.int p0), .val (.int p1), .val (.int p2), .val (.int p3), .val (.int p4), .val (.int (2 : Int32)), .val (.double (own_v p1 p4 (0 : Int32))), .second, .val (.double (own_v p2 p4 (1 : Int32))), .second, .val (.double (own_v p3 p4 (2 : Int32))), .second, .val (.ref b57), .unset] [])) _
      refine XS.aload X65.here hx rfl (hb hby at_73) rfl rfl ?_
      exact kt
    obtain ⟨_, _, ⟨T69, L69, kc69, nc69⟩, -, X69, ⟨Lc69, hQ69, l69, y69, z69⟩, st69⟩ := Jvm.LawKit.callS X65 hx (y := (⟨"com/example/vidura/vidura/stats/Values", "signedZeroFree", "([D)[D"⟩ : MethodName)) hown (mvT hZ (hw _ (List.mem_of_getElem? (i := 5) rfl))) (mvT hZ (hw _ (List.mem_of_getElem? (i := 6) rfl))) (mvT hZ (hw _ (List.mem_of_getElem? (i := 7) rfl))) (mvT hZ (hw _ (List.mem_of_getElem? (i := 8) rfl))) (by decide) (backOf (W := 0) (rm2m2 l Z a0 hw [] b57 k57 (own_v p1 p4 (0 : Int32)) (own_v p2 p4 (1 : Int32)) h65 n0 z67 V65' (own_v_fin p1 p4 (0 : Int32)) (own_v_fin p2 p4 (1 : Int32))) hZ (hw _ (List.mem_of_getElem? (i := 8) rfl)) (hw _ (List.mem_of_getElem? (i := 7) rfl)) (by decide) (by decide)) (g := (mkF m 75 #[.val (.int p0), .val (.int p1), .val (.int p2), .val (.int p3), .val (.int p4), .val (.int (2 : Int32)), .val (.double (own_v p1 p4 (0 : Int32))), .second, .val (.double (own_v p2 p4 (1 : Int32))), .second, .val (.double (own_v p3 p4 (2 : Int32))), .second, .val (.ref b57), .unset] [(.ref b57)])) rfl (by rw [hml]; rfl) (argsL := [(.ref b57)]) (rest := []) (lenOf pd_1 rfl) rfl (by show 2 * 0 + _ ≤ _; exact Nat.le_of_eq rfl) (hb hby at_75) (fun _ _ => ⟨rfl, e65, (by decide : 1 + 1 ≤ _), (by decide : 2 + 2 ≤ _)⟩)
    dsimp only [Pt.U, Pt.locs, Pt.cells, Pt.slots] at X69 l69 y69 z69 st69 hQ69
    subst l69 y69 z69
    obtain ⟨rfl, N69q, K69, ⟨kk69, Va69⟩⟩ := hQ69
    have N69 := Fr.app N65 N69q
    obtain ⟨b69, gq69⟩ : ∃ z, z = h65.size := ⟨_, rfl⟩
    rw [← gq69] at Va69 st69
    have gg_b69 : n0 ≤ b69 := Nat.le_trans z67 (Nat.le_of_eq gq69.symm)
    have pre70 : ∀ t, Steps p.tables e below (T69.setTop (mkF m 78 #[.val (.int p0), .val (.int p1), .val (.int p2), .val (.int p3), .val (.int p4), .val (.int (2 : Int32)), .val (.double (own_v p1 p4 (0 : Int32))), .second, .val (.double (own_v p2 p4 (1 : Int32))), .second, .val (.double (own_v p3 p4 (2 : Int32))), .second, .val (.ref b57), .unset] [(.ref b69)])) t → Steps p.tables e below (s₁.setTop (entryFrame m #[(.int p0), (.int p1), (.int p2), (.int p3), (.int p4)] maxLocals)) t := fun t kt => pre68 _ (st69 _ kt)
    have pre71 : ∀ t, Steps p.tables e below (T69.setTop (mkF m 87 #[.val (.int p0), .val (.int p1), .val (.int p2), .val (.int p3), .val (.int p4), .val (.int (2 : Int32)), .val (.double (own_v p1 p4 (0 : Int32))), .second, .val (.double (own_v p2 p4 (1 : Int32))), .second, .val (.double (own_v p3 p4 (2 : Int32))), .second, .val (.ref b57), .val (.ref b69)] [(.ref b69)])) t → Steps p.tables e below (s₁.setTop (entryFrame m #[(.int p0), (.int p1), (.int p2), (.int p3), (.int p4)] maxLocals)) t := fun t kt => by
      refine pre70 _ ?_
      show Steps p.tables e below (T69.setTop (mkF m 78 #[.val (.int p0), .val (.int p1), .val (.int p2), .val (.int p3), .val (.int p4), .val (.int (2 : Int32)), .val (.double (own_v p1 p4 (0 : Int32))), .second, .val (.double (own_v p2 p4 (1 : Int32))), .second, .val (.double (own_v p3 p4 (2 : Int32))), .second, .val (.ref b57), .unset] [(.ref b69)])) _
      refine XS.astore X69.here hx rfl (hb hby at_78) rfl rfl (l' := #[.val (.int p0), .val (.int p1), .val (.int p2), .val (.int p3), .val (.int p4), .val (.int (2 : Int32)), .val (.double (own_v p1 p4 (0 : Int32))), .second, .val (.double (own_v p2 p4 (1 : Int32))), .second, .val (.double (own_v p3 p4 (2 : Int32))), .second, .val (.ref b57), .val (.ref b69)]) rfl ?_
      show Steps p.tables e below (T69.setTop (mkF m 80 #[.val (.int p0), .val (.int p1), .val (.int p2), .val (.int p3), .val (.int p4), .val (.int (2 : Int32)), .val (.double (own_v p1 p4 (0 : Int32))), .second, .val (.double (own_v p2 p4 (1 : Int32))), .second, .val (.double (own_v p3 p4 (2 : Int32))), .second, .val (.ref b57), .val (.ref b69)] [])) _
      refine XS.aload X69.here hx rfl (hb hby at_80) rfl rfl ?_
      show Steps p.tables e below (T69.setTop (mkF m 82 #[.val (.int p0), .val (.int p1), .val (.int p2), .val (.int p3), .val (.int p4), .val (.int (2 : Int32)), .val (.double (own_v p1 p4 (0 : Int32))), .second, .val (.double (own_v p2 p4 (1 : Int32))), .second, .val (.double (own_v p3 p4 (2 : Int32))), .second, .val (.ref b57), .val (.ref b69)] [(.ref b69)])) _
      refine XS.ifnullNo X69.here hx rfl (hb hby at_82) rfl ?_
      show Steps p.tables e below (T69.setTop (mkF m 85 #[.val (.int p0), .val (.int p1), .val (.int p2), .val (.int p3), .val (.int p4), .val (.int (2 : Int32)), .val (.double (own_v p1 p4 (0 : Int32))), .second, .val (.double (own_v p2 p4 (1 : Int32))), .second, .val (.double (own_v p3 p4 (2 : Int32))), .second, .val (.ref b57), .val (.ref b69)] [])) _
      refine XS.aload X69.here hx rfl (hb hby at_85) rfl rfl ?_
      exact kt
    obtain ⟨cl72, Ar72, qk72, Sz72, Nn72, Hh72, Gg72⟩ := id Va69
    have z73 : n0 ≤ T69.heap.size := (Nat.le_trans z67 K69.1)
    have f74 := (V65'.keep K69 nin0)
    have pre75 : ∀ t, Steps p.tables e below (T69.setTop (mkF m 104 #[.val (.int p0), .val (.int p1), .val (.int p2), .val (.int p3), .val (.int p4), .val (.int (2 : Int32)), .val (.double (own_v p1 p4 (0 : Int32))), .second, .val (.double (own_v p2 p4 (1 : Int32))), .second, .val (.double (own_v p3 p4 (2 : Int32))), .second, .val (.ref b57), .val (.ref b69)] [(.int (2 : Int32)), (.int (0 : Int32)), (.double (own_v p1 p4 (0 : Int32))), (.ref b69), (.ref b57)])) t → Steps p.tables e below (s₁.setTop (entryFrame m #[(.int p0), (.int p1), (.int p2), (.int p3), (.int p4)] maxLocals)) t := fun t kt => by
      refine pre71 _ ?_
      show Steps p.tables e below (T69.setTop (mkF m 87 #[.val (.int p0), .val (.int p1), .val (.int p2), .val (.int p3), .val (.int p4), .val (.int (2 : Int32)), .val (.double (own_v p1 p4 (0 : Int32))), .second, .val (.double (own_v p2 p4 (1 : Int32))), .second, .val (.double (own_v p3 p4 (2 : Int32))), .second, .val (.ref b57), .val (.ref b69)] [(.ref b69)])) _
      refine X69.arraylength hx Ar72.1 (State.isArrayOf_alike hZ.alike Ar72.2.1) (g := (mkF m 87 #[.val (.int p0), .val (.int p1), .val (.int p2), .val (.int p3), .val (.int p4), .val (.int (2 : Int32)), .val (.double (own_v p1 p4 (0 : Int32))), .second, .val (.double (own_v p2 p4 (1 : Int32))), .second, .val (.double (own_v p3 p4 (2 : Int32))), .second, .val (.ref b57), .val (.ref b69)] [(.ref b69)])) rfl rfl (hb hby at_87) _ ?_
      rw [len_of Sz72 Nn72]
      show Steps p.tables e below (T69.setTop (mkF m 88 #[.val (.int p0), .val (.int p1), .val (.int p2), .val (.int p3), .val (.int p4), .val (.int (2 : Int32)), .val (.double (own_v p1 p4 (0 : Int32))), .second, .val (.double (own_v p2 p4 (1 : Int32))), .second, .val (.double (own_v p3 p4 (2 : Int32))), .second, .val (.ref b57), .val (.ref b69)] [(.int (2 : Int32))])) _
      refine XS.iload X69.here hx rfl (hb hby at_88) rfl ?_
      show Steps p.tables e below (T69.setTop (mkF m 90 #[.val (.int p0), .val (.int p1), .val (.int p2), .val (.int p3), .val (.int p4), .val (.int (2 : Int32)), .val (.double (own_v p1 p4 (0 : Int32))), .second, .val (.double (own_v p2 p4 (1 : Int32))), .second, .val (.double (own_v p3 p4 (2 : Int32))), .second, .val (.ref b57), .val (.ref b69)] [(.int (2 : Int32)), (.int (2 : Int32))])) _
      refine XS.icmpYes X69.here hx rfl (pc0 := 90) (pc' := 95) rfl (hb hby at_90) rfl (teq (by decide : (2 : Int32) = (2 : Int32))).1 (by decide) (by decide) ?_
      show Steps p.tables e below (T69.setTop (mkF m 95 #[.val (.int p0), .val (.int p1), .val (.int p2), .val (.int p3), .val (.int p4), .val (.int (2 : Int32)), .val (.double (own_v p1 p4 (0 : Int32))), .second, .val (.double (own_v p2 p4 (1 : Int32))), .second, .val (.double (own_v p3 p4 (2 : Int32))), .second, .val (.ref b57), .val (.ref b69)] [])) _
      refine XS.aload X69.here hx rfl (hb hby at_95) rfl rfl ?_
      show Steps p.tables e below (T69.setTop (mkF m 97 #[.val (.int p0), .val (.int p1), .val (.int p2), .val (.int p3), .val (.int p4), .val (.int (2 : Int32)), .val (.double (own_v p1 p4 (0 : Int32))), .second, .val (.double (own_v p2 p4 (1 : Int32))), .second, .val (.double (own_v p3 p4 (2 : Int32))), .second, .val (.ref b57), .val (.ref b69)] [(.ref b57)])) _
      refine XS.aload X69.here hx rfl (hb hby at_97) rfl rfl ?_
      show Steps p.tables e below (T69.setTop (mkF m 99 #[.val (.int p0), .val (.int p1), .val (.int p2), .val (.int p3), .val (.int p4), .val (.int (2 : Int32)), .val (.double (own_v p1 p4 (0 : Int32))), .second, .val (.double (own_v p2 p4 (1 : Int32))), .second, .val (.double (own_v p3 p4 (2 : Int32))), .second, .val (.ref b57), .val (.ref b69)] [(.ref b69), (.ref b57)])) _
      refine XS.dload X69.here hx rfl (hb hby at_99) rfl ?_
      show Steps p.tables e below (T69.setTop (mkF m 101 #[.val (.int p0), .val (.int p1), .val (.int p2), .val (.int p3), .val (.int p4), .val (.int (2 : Int32)), .val (.double (own_v p1 p4 (0 : Int32))), .second, .val (.double (own_v p2 p4 (1 : Int32))), .second, .val (.double (own_v p3 p4 (2 : Int32))), .second, .val (.ref b57), .val (.ref b69)] [(.double (own_v p1 p4 (0 : Int32))), (.ref b69), (.ref b57)])) _
      refine XS.iconst X69.here hx rfl (hb hby at_101) ?_
      show Steps p.tables e below (T69.setTop (mkF m 102 #[.val (.int p0), .val (.int p1), .val (.int p2), .val (.int p3), .val (.int p4), .val (.int (2 : Int32)), .val (.double (own_v p1 p4 (0 : Int32))), .second, .val (.double (own_v p2 p4 (1 : Int32))), .second, .val (.double (own_v p3 p4 (2 : Int32))), .second, .val (.ref b57), .val (.ref b69)] [(.int (0 : Int32)), (.double (own_v p1 p4 (0 : Int32))), (.ref b69), (.ref b57)])) _
      refine XS.iload X69.here hx rfl (hb hby at_102) rfl ?_
      exact kt
    obtain ⟨_, _, ⟨T76, L76, kc76, nc76⟩, -, X76, ⟨Lc76, hQ76, l76, y76, z76⟩, st76⟩ := Jvm.LawKit.callS X69 hx (y := (⟨"com/example/vidura/vidura/stats/ValuesSignedZeroFreePinLaw", "ok", "([D[DDII)Z"⟩ : MethodName)) hown (mvT hZ (hw _ (List.mem_of_getElem? (i := 9) rfl))) (mvT hZ (hw _ (List.mem_of_getElem? (i := 10) rfl))) (mvT hZ (hw _ (List.mem_of_getElem? (i := 2) rfl))) (mvT hZ (hw _ (List.mem_of_getElem? (i := 11) rfl))) (by decide) (backOf (W := 0) (rm3 l Z a0 hw [] b57 b69 (own_v p1 p4 (0 : Int32)) (0 : Int32) (2 : Int32) k57 kk69 [(.double (own_v p1 p4 (0 : Int32))), (.double (own_v p2 p4 (1 : Int32)))] [(.double (own_r (own_v p1 p4 (0 : Int32)))), (.double (own_r (own_v p2 p4 (1 : Int32))))] T69.heap n0 z73 f74 Va69 (by decide) (by decide) rfl rfl (own_v_fin p1 p4 (0 : Int32))) hZ (hw _ (List.mem_of_getElem? (i := 11) rfl)) (hw _ (List.mem_of_getElem? (i := 2) rfl)) (by decide) (by decide)) (g := (mkF m 104 #[.val (.int p0), .val (.int p1), .val (.int p2), .val (.int p3), .val (.int p4), .val (.int (2 : Int32)), .val (.double (own_v p1 p4 (0 : Int32))), .second, .val (.double (own_v p2 p4 (1 : Int32))), .second, .val (.double (own_v p3 p4 (2 : Int32))), .second, .val (.ref b57), .val (.ref b69)] [(.int (2 : Int32)), (.int (0 : Int32)), (.double (own_v p1 p4 (0 : Int32))), (.ref b69), (.ref b57)])) rfl (by rw [hml]; rfl) (argsL := [(.ref b57), (.ref b69), (.double (own_v p1 p4 (0 : Int32))), (.int (0 : Int32)), (.int (2 : Int32))]) (rest := []) (lenOf pd_2 rfl) rfl (by show 2 * 0 + _ ≤ _; exact Nat.le_of_eq rfl) (hb hby at_104) (fun _ _ => ⟨rfl, rfl, (by decide : 2 + 0 ≤ _), (by decide : 4 + 0 ≤ _)⟩)
    dsimp only [Pt.U, Pt.locs, Pt.cells, Pt.slots] at X76 l76 y76 z76 st76 hQ76
    subst l76 y76 z76
    obtain ⟨rfl, N76q, he76⟩ := hQ76
    have N76 := Fr.app N69 N76q
    have pre77 : ∀ t, Steps p.tables e below (T76.setTop (mkF m 107 #[.val (.int p0), .val (.int p1), .val (.int p2), .val (.int p3), .val (.int p4), .val (.int (2 : Int32)), .val (.double (own_v p1 p4 (0 : Int32))), .second, .val (.double (own_v p2 p4 (1 : Int32))), .second, .val (.double (own_v p3 p4 (2 : Int32))), .second, .val (.ref b57), .val (.ref b69)] [(.int (1 : Int32))])) t → Steps p.tables e below (s₁.setTop (entryFrame m #[(.int p0), (.int p1), (.int p2), (.int p3), (.int p4)] maxLocals)) t := fun t kt => pre75 _ (st76 _ kt)
    have pre78 : ∀ t, Steps p.tables e below (T76.setTop (mkF m 119 #[.val (.int p0), .val (.int p1), .val (.int p2), .val (.int p3), .val (.int p4), .val (.int (2 : Int32)), .val (.double (own_v p1 p4 (0 : Int32))), .second, .val (.double (own_v p2 p4 (1 : Int32))), .second, .val (.double (own_v p3 p4 (2 : Int32))), .second, .val (.ref b57), .val (.ref b69)] [(.int (2 : Int32)), (.int (1 : Int32)), (.double (own_v p2 p4 (1 : Int32))), (.ref b69), (.ref b57)])) t → Steps p.tables e below (s₁.setTop (entryFrame m #[(.int p0), (.int p1), (.int p2), (.int p3), (.int p4)] maxLocals)) t := fun t kt => by
      refine pre77 _ ?_
      show Steps p.tables e below (T76.setTop (mkF m 107 #[.val (.int p0), .val (.int p1), .val (.int p2), .val (.int p3), .val (.int p4), .val (.int (2 : Int32)), .val (.double (own_v p1 p4 (0 : Int32))), .second, .val (.double (own_v p2 p4 (1 : Int32))), .second, .val (.double (own_v p3 p4 (2 : Int32))), .second, .val (.ref b57), .val (.ref b69)] [(.int (1 : Int32))])) _
      refine XS.ifNo X76.here hx rfl (hb hby at_107) rfl ((if0 _ _).trans (feq (by decide : ¬ ((1 : Int32) = (0 : Int32)))).1) ?_
      show Steps p.tables e below (T76.setTop (mkF m 110 #[.val (.int p0), .val (.int p1), .val (.int p2), .val (.int p3), .val (.int p4), .val (.int (2 : Int32)), .val (.double (own_v p1 p4 (0 : Int32))), .second, .val (.double (own_v p2 p4 (1 : Int32))), .second, .val (.double (own_v p3 p4 (2 : Int32))), .second, .val (.ref b57), .val (.ref b69)] [])) _
      refine XS.aload X76.here hx rfl (hb hby at_110) rfl rfl ?_
      show Steps p.tables e below (T76.setTop (mkF m 112 #[.val (.int p0), .val (.int p1), .val (.int p2), .val (.int p3), .val (.int p4), .val (.int (2 : Int32)), .val (.double (own_v p1 p4 (0 : Int32))), .second, .val (.double (own_v p2 p4 (1 : Int32))), .second, .val (.double (own_v p3 p4 (2 : Int32))), .second, .val (.ref b57), .val (.ref b69)] [(.ref b57)])) _
      refine XS.aload X76.here hx rfl (hb hby at_112) rfl rfl ?_
      show Steps p.tables e below (T76.setTop (mkF m 114 #[.val (.int p0), .val (.int p1), .val (.int p2), .val (.int p3), .val (.int p4), .val (.int (2 : Int32)), .val (.double (own_v p1 p4 (0 : Int32))), .second, .val (.double (own_v p2 p4 (1 : Int32))), .second, .val (.double (own_v p3 p4 (2 : Int32))), .second, .val (.ref b57), .val (.ref b69)] [(.ref b69), (.ref b57)])) _
      refine XS.dload X76.here hx rfl (hb hby at_114) rfl ?_
      show Steps p.tables e below (T76.setTop (mkF m 116 #[.val (.int p0), .val (.int p1), .val (.int p2), .val (.int p3), .val (.int p4), .val (.int (2 : Int32)), .val (.double (own_v p1 p4 (0 : Int32))), .second, .val (.double (own_v p2 p4 (1 : Int32))), .second, .val (.double (own_v p3 p4 (2 : Int32))), .second, .val (.ref b57), .val (.ref b69)] [(.double (own_v p2 p4 (1 : Int32))), (.ref b69), (.ref b57)])) _
      refine XS.iconst X76.here hx rfl (hb hby at_116) ?_
      show Steps p.tables e below (T76.setTop (mkF m 117 #[.val (.int p0), .val (.int p1), .val (.int p2), .val (.int p3), .val (.int p4), .val (.int (2 : Int32)), .val (.double (own_v p1 p4 (0 : Int32))), .second, .val (.double (own_v p2 p4 (1 : Int32))), .second, .val (.double (own_v p3 p4 (2 : Int32))), .second, .val (.ref b57), .val (.ref b69)] [(.int (1 : Int32)), (.double (own_v p2 p4 (1 : Int32))), (.ref b69), (.ref b57)])) _
      refine XS.iload X76.here hx rfl (hb hby at_117) rfl ?_
      exact kt
    obtain ⟨_, _, ⟨T79, L79, kc79, nc79⟩, -, X79, ⟨Lc79, hQ79, l79, y79, z79⟩, st79⟩ := Jvm.LawKit.callS X76 hx (y := (⟨"com/example/vidura/vidura/stats/ValuesSignedZeroFreePinLaw", "ok", "([D[DDII)Z"⟩ : MethodName)) hown (mvT hZ (hw _ (List.mem_of_getElem? (i := 9) rfl))) (mvT hZ (hw _ (List.mem_of_getElem? (i := 10) rfl))) (mvT hZ (hw _ (List.mem_of_getElem? (i := 2) rfl))) (mvT hZ (hw _ (List.mem_of_getElem? (i := 11) rfl))) (by decide) (backOf (W := 0) (rm3 l Z a0 hw [] b57 b69 (own_v p2 p4 (1 : Int32)) (1 : Int32) (2 : Int32) k57 kk69 [(.double (own_v p1 p4 (0 : Int32))), (.double (own_v p2 p4 (1 : Int32)))] [(.double (own_r (own_v p1 p4 (0 : Int32)))), (.double (own_r (own_v p2 p4 (1 : Int32))))] T69.heap n0 z73 f74 Va69 (by decide) (by decide) rfl rfl (own_v_fin p2 p4 (1 : Int32))) hZ (hw _ (List.mem_of_getElem? (i := 11) rfl)) (hw _ (List.mem_of_getElem? (i := 2) rfl)) (by decide) (by decide)) (g := (mkF m 119 #[.val (.int p0), .val (.int p1), .val (.int p2), .val (.int p3), .val (.int p4), .val (.int (2 : Int32)), .val (.double (own_v p1 p4 (0 : Int32))), .second, .val (.double (own_v p2 p4 (1 : Int32))), .second, .val (.double (own_v p3 p4 (2 : Int32))), .second, .val (.ref b57), .val (.ref b69)] [(.int (2 : Int32)), (.int (1 : Int32)), (.double (own_v p2 p4 (1 : Int32))), (.ref b69), (.ref b57)])) rfl (by rw [hml]; rfl) (argsL := [(.ref b57), (.ref b69), (.double (own_v p2 p4 (1 : Int32))), (.int (1 : Int32)), (.int (2 : Int32))]) (rest := []) (lenOf pd_2 rfl) rfl (by show 2 * 0 + _ ≤ _; exact Nat.le_of_eq rfl) (hb hby at_119) (fun _ _ => ⟨rfl, he76, (by decide : 2 + 0 ≤ _), (by decide : 4 + 0 ≤ _)⟩)
    dsimp only [Pt.U, Pt.locs, Pt.cells, Pt.slots] at X79 l79 y79 z79 st79 hQ79
    subst l79 y79 z79
    obtain ⟨rfl, N79q, he79⟩ := hQ79
    have N79 := Fr.app N76 N79q
    have pre80 : ∀ t, Steps p.tables e below (T79.setTop (mkF m 122 #[.val (.int p0), .val (.int p1), .val (.int p2), .val (.int p3), .val (.int p4), .val (.int (2 : Int32)), .val (.double (own_v p1 p4 (0 : Int32))), .second, .val (.double (own_v p2 p4 (1 : Int32))), .second, .val (.double (own_v p3 p4 (2 : Int32))), .second, .val (.ref b57), .val (.ref b69)] [(.int (1 : Int32))])) t → Steps p.tables e below (s₁.setTop (entryFrame m #[(.int p0), (.int p1), (.int p2), (.int p3), (.int p4)] maxLocals)) t := fun t kt => pre78 _ (st79 _ kt)
    have pre81 : ∀ t, Steps p.tables e below (T79.setTop (mkF m 134 #[.val (.int p0), .val (.int p1), .val (.int p2), .val (.int p3), .val (.int p4), .val (.int (2 : Int32)), .val (.double (own_v p1 p4 (0 : Int32))), .second, .val (.double (own_v p2 p4 (1 : Int32))), .second, .val (.double (own_v p3 p4 (2 : Int32))), .second, .val (.ref b57), .val (.ref b69)] [(.int (2 : Int32)), (.int (2 : Int32)), (.double (own_v p3 p4 (2 : Int32))), (.ref b69), (.ref b57)])) t → Steps p.tables e below (s₁.setTop (entryFrame m #[(.int p0), (.int p1), (.int p2), (.int p3), (.int p4)] maxLocals)) t := fun t kt => by
      refine pre80 _ ?_
      show Steps p.tables e below (T79.setTop (mkF m 122 #[.val (.int p0), .val (.int p1), .val (.int p2), .val (.int p3), .val (.int p4), .val (.int (2 : Int32)), .val (.double (own_v p1 p4 (0 : Int32))), .second, .val (.double (own_v p2 p4 (1 : Int32))), .second, .val (.double (own_v p3 p4 (2 : Int32))), .second, .val (.ref b57), .val (.ref b69)] [(.int (1 : Int32))])) _
      refine XS.ifNo X79.here hx rfl (hb hby at_122) rfl ((if0 _ _).trans (feq (by decide : ¬ ((1 : Int32) = (0 : Int32)))).1) ?_
      show Steps p.tables e below (T79.setTop (mkF m 125 #[.val (.int p0), .val (.int p1), .val (.int p2), .val (.int p3), .val (.int p4), .val (.int (2 : Int32)), .val (.double (own_v p1 p4 (0 : Int32))), .second, .val (.double (own_v p2 p4 (1 : Int32))), .second, .val (.double (own_v p3 p4 (2 : Int32))), .second, .val (.ref b57), .val (.ref b69)] [])) _
      refine XS.aload X79.here hx rfl (hb hby at_125) rfl rfl ?_
      show Steps p.tables e below (T79.setTop (mkF m 127 #[.val (.int p0), .val (.int p1), .val (.int p2), .val (.int p3), .val (.int p4), .val (.int (2 : Int32)), .val (.double (own_v p1 p4 (0 : Int32))), .second, .val (.double (own_v p2 p4 (1 : Int32))), .second, .val (.double (own_v p3 p4 (2 : Int32))), .second, .val (.ref b57), .val (.ref b69)] [(.ref b57)])) _
      refine XS.aload X79.here hx rfl (hb hby at_127) rfl rfl ?_
      show Steps p.tables e below (T79.setTop (mkF m 129 #[.val (.int p0), .val (.int p1), .val (.int p2), .val (.int p3), .val (.int p4), .val (.int (2 : Int32)), .val (.double (own_v p1 p4 (0 : Int32))), .second, .val (.double (own_v p2 p4 (1 : Int32))), .second, .val (.double (own_v p3 p4 (2 : Int32))), .second, .val (.ref b57), .val (.ref b69)] [(.ref b69), (.ref b57)])) _
      refine XS.dload X79.here hx rfl (hb hby at_129) rfl ?_
      show Steps p.tables e below (T79.setTop (mkF m 131 #[.val (.int p0), .val (.int p1), .val (.int p2), .val (.int p3), .val (.int p4), .val (.int (2 : Int32)), .val (.double (own_v p1 p4 (0 : Int32))), .second, .val (.double (own_v p2 p4 (1 : Int32))), .second, .val (.double (own_v p3 p4 (2 : Int32))), .second, .val (.ref b57), .val (.ref b69)] [(.double (own_v p3 p4 (2 : Int32))), (.ref b69), (.ref b57)])) _
      refine XS.iconst X79.here hx rfl (hb hby at_131) ?_
      show Steps p.tables e below (T79.setTop (mkF m 132 #[.val (.int p0), .val (.int p1), .val (.int p2), .val (.int p3), .val (.int p4), .val (.int (2 : Int32)), .val (.double (own_v p1 p4 (0 : Int32))), .second, .val (.double (own_v p2 p4 (1 : Int32))), .second, .val (.double (own_v p3 p4 (2 : Int32))), .second, .val (.ref b57), .val (.ref b69)] [(.int (2 : Int32)), (.double (own_v p3 p4 (2 : Int32))), (.ref b69), (.ref b57)])) _
      refine XS.iload X79.here hx rfl (hb hby at_132) rfl ?_
      exact kt
    obtain ⟨_, _, ⟨T82, L82, kc82, nc82⟩, -, X82, ⟨Lc82, hQ82, l82, y82, z82⟩, st82⟩ := Jvm.LawKit.callS X79 hx (y := (⟨"com/example/vidura/vidura/stats/ValuesSignedZeroFreePinLaw", "ok", "([D[DDII)Z"⟩ : MethodName)) hown (mvT hZ (hw _ (List.mem_of_getElem? (i := 9) rfl))) (mvT hZ (hw _ (List.mem_of_getElem? (i := 10) rfl))) (mvT hZ (hw _ (List.mem_of_getElem? (i := 2) rfl))) (mvT hZ (hw _ (List.mem_of_getElem? (i := 11) rfl))) (by decide) (backOf (W := 0) (rm3n l Z a0 hw [] b57 b69 (own_v p3 p4 (2 : Int32)) (2 : Int32) (2 : Int32) T69.heap n0 z73 (by decide)) hZ (hw _ (List.mem_of_getElem? (i := 11) rfl)) (hw _ (List.mem_of_getElem? (i := 2) rfl)) (by decide) (by decide)) (g := (mkF m 134 #[.val (.int p0), .val (.int p1), .val (.int p2), .val (.int p3), .val (.int p4), .val (.int (2 : Int32)), .val (.double (own_v p1 p4 (0 : Int32))), .second, .val (.double (own_v p2 p4 (1 : Int32))), .second, .val (.double (own_v p3 p4 (2 : Int32))), .second, .val (.ref b57), .val (.ref b69)] [(.int (2 : Int32)), (.int (2 : Int32)), (.double (own_v p3 p4 (2 : Int32))), (.ref b69), (.ref b57)])) rfl (by rw [hml]; rfl) (argsL := [(.ref b57), (.ref b69), (.double (own_v p3 p4 (2 : Int32))), (.int (2 : Int32)), (.int (2 : Int32))]) (rest := []) (lenOf pd_2 rfl) rfl (by show 2 * 0 + _ ≤ _; exact Nat.le_of_eq rfl) (hb hby at_134) (fun _ _ => ⟨rfl, he79, (by decide : 2 + 0 ≤ _), (by decide : 4 + 0 ≤ _)⟩)
    dsimp only [Pt.U, Pt.locs, Pt.cells, Pt.slots] at X82 l82 y82 z82 st82 hQ82
    subst l82 y82 z82
    obtain ⟨rfl, N82q, he82⟩ := hQ82
    have N82 := Fr.app N79 N82q
    have pre83 : ∀ t, Steps p.tables e below (T82.setTop (mkF m 137 #[.val (.int p0), .val (.int p1), .val (.int p2), .val (.int p3), .val (.int p4), .val (.int (2 : Int32)), .val (.double (own_v p1 p4 (0 : Int32))), .second, .val (.double (own_v p2 p4 (1 : Int32))), .second, .val (.double (own_v p3 p4 (2 : Int32))), .second, .val (.ref b57), .val (.ref b69)] [(.int (1 : Int32))])) t → Steps p.tables e below (s₁.setTop (entryFrame m #[(.int p0), (.int p1), (.int p2), (.int p3), (.int p4)] maxLocals)) t := fun t kt => pre81 _ (st82 _ kt)
    have pre84 : ∀ t, Steps p.tables e below (T82.setTop (mkF m 145 #[.val (.int p0), .val (.int p1), .val (.int p2), .val (.int p3), .val (.int p4), .val (.int (2 : Int32)), .val (.double (own_v p1 p4 (0 : Int32))), .second, .val (.double (own_v p2 p4 (1 : Int32))), .second, .val (.double (own_v p3 p4 (2 : Int32))), .second, .val (.ref b57), .val (.ref b69)] [(.int (1 : Int32))])) t → Steps p.tables e below (s₁.setTop (entryFrame m #[(.int p0), (.int p1), (.int p2), (.int p3), (.int p4)] maxLocals)) t := fun t kt => by
      refine pre83 _ ?_
      show Steps p.tables e below (T82.setTop (mkF m 137 #[.val (.int p0), .val (.int p1), .val (.int p2), .val (.int p3), .val (.int p4), .val (.int (2 : Int32)), .val (.double (own_v p1 p4 (0 : Int32))), .second, .val (.double (own_v p2 p4 (1 : Int32))), .second, .val (.double (own_v p3 p4 (2 : Int32))), .second, .val (.ref b57), .val (.ref b69)] [(.int (1 : Int32))])) _
      refine XS.ifNo X82.here hx rfl (hb hby at_137) rfl ((if0 _ _).trans (feq (by decide : ¬ ((1 : Int32) = (0 : Int32)))).1) ?_
      show Steps p.tables e below (T82.setTop (mkF m 140 #[.val (.int p0), .val (.int p1), .val (.int p2), .val (.int p3), .val (.int p4), .val (.int (2 : Int32)), .val (.double (own_v p1 p4 (0 : Int32))), .second, .val (.double (own_v p2 p4 (1 : Int32))), .second, .val (.double (own_v p3 p4 (2 : Int32))), .second, .val (.ref b57), .val (.ref b69)] [])) _
      refine XS.iconst X82.here hx rfl (hb hby at_140) ?_
      show Steps p.tables e below (T82.setTop (mkF m 141 #[.val (.int p0), .val (.int p1), .val (.int p2), .val (.int p3), .val (.int p4), .val (.int (2 : Int32)), .val (.double (own_v p1 p4 (0 : Int32))), .second, .val (.double (own_v p2 p4 (1 : Int32))), .second, .val (.double (own_v p3 p4 (2 : Int32))), .second, .val (.ref b57), .val (.ref b69)] [(.int (1 : Int32))])) _
      refine XS.goto X82.here hx rfl (pc0 := 141) (pc' := 145) rfl (hb hby at_141) (by decide) (by decide) ?_
      exact kt
    obtain ⟨fs, hr, hrun, hended, hW, hsame⟩ := X82.leave (v := (some (.int (1 : Int32)))) (fun h => by rw [Bd.returns] at h; cases h)
    refine ⟨_, _, pre84 _ ?_, hrun, hended, _, _, rfl, ?_, ⟨_, rfl⟩, hW, hsame.mono (by decide) (by decide)⟩
    · show Steps p.tables e below (T82.setTop (mkF m 145 #[.val (.int p0), .val (.int p1), .val (.int p2), .val (.int p3), .val (.int p4), .val (.int (2 : Int32)), .val (.double (own_v p1 p4 (0 : Int32))), .second, .val (.double (own_v p2 p4 (1 : Int32))), .second, .val (.double (own_v p3 p4 (2 : Int32))), .second, .val (.ref b57), .val (.ref b69)] [(.int (1 : Int32))])) _
      exact retN X82 hx (t := .boolean) Bd.returns (by simp) (hb hby at_145) hr
    · show Q0 Z p0 p1 p2 p3 p4 h0 n0 _ T82.heap _
      rw [he82]
      exact ⟨rfl, N82⟩
  · have pre85 : ∀ t, Steps p.tables e below (T8.setTop (mkF m 34 #[.val (.int p0), .val (.int p1), .val (.int p2), .val (.int p3), .val (.int p4), .val (.int (3 : Int32)), .val (.double (own_v p1 p4 (0 : Int32))), .second, .val (.double (own_v p2 p4 (1 : Int32))), .second, .val (.double (own_v p3 p4 (2 : Int32))), .second, .unset, .unset] [(.int (3 : Int32))])) t → Steps p.tables e below (s₁.setTop (entryFrame m #[(.int p0), (.int p1), (.int p2), (.int p3), (.int p4)] maxLocals)) t := fun t kt => by
      refine pre10 _ ?_
      show Steps p.tables e below (T8.setTop (mkF m 32 #[.val (.int p0), .val (.int p1), .val (.int p2), .val (.int p3), .val (.int p4), .val (.int (own_n p0)), .val (.double (own_v p1 p4 (0 : Int32))), .second, .val (.double (own_v p2 p4 (1 : Int32))), .second, .val (.double (own_v p3 p4 (2 : Int32))), .second, .unset, .unset] [])) _
      refine XS.iload X8.here hx rfl (hb hby at_32) rfl ?_
      show Steps p.tables e below (T8.setTop (mkF m 34 #[.val (.int p0), .val (.int p1), .val (.int p2), .val (.int p3), .val (.int p4), .val (.int (own_n p0)), .val (.double (own_v p1 p4 (0 : Int32))), .second, .val (.double (own_v p2 p4 (1 : Int32))), .second, .val (.double (own_v p3 p4 (2 : Int32))), .second, .unset, .unset] [(.int (own_n p0))])) _
      rw [show (own_n p0) = (3 : Int32) from hn]
      exact kt
    obtain ⟨T86, h86, k86, X86, e86, E86, A86, st86⟩ := newP X8 hx hZ (hw _ (List.mem_of_getElem? (i := 4) rfl)) he8 (g := (mkF m 34 #[.val (.int p0), .val (.int p1), .val (.int p2), .val (.int p3), .val (.int p4), .val (.int (3 : Int32)), .val (.double (own_v p1 p4 (0 : Int32))), .second, .val (.double (own_v p2 p4 (1 : Int32))), .second, .val (.double (own_v p3 p4 (2 : Int32))), .second, .unset, .unset] [(.int (3 : Int32))])) rfl (hb hby at_34) rfl (by decide) (cap := 3) (by decide) (by decide) (by decide) (by decide)
    obtain ⟨b86, gq86⟩ : ∃ z, z = h0.size := ⟨_, rfl⟩
    rw [← gq86] at A86 st86
    have gg_b86 : n0 ≤ b86 := Nat.le_trans Z0 (Nat.le_of_eq gq86.symm)
    have V86 : Arv Z h86 b86 k86 .double (3 : Int32) [(.double 0), (.double 0), (.double 0)] (.double 0) := (Arv.new A86 (by decide)).pad (pad_rep [] (.double 0) 3)
    have pre87 : ∀ t, Steps p.tables e below (T86.setTop (mkF m 36 #[.val (.int p0), .val (.int p1), .val (.int p2), .val (.int p3), .val (.int p4), .val (.int (3 : Int32)), .val (.double (own_v p1 p4 (0 : Int32))), .second, .val (.double (own_v p2 p4 (1 : Int32))), .second, .val (.double (own_v p3 p4 (2 : Int32))), .second, .unset, .unset] [(.ref b86)])) t → Steps p.tables e below (s₁.setTop (entryFrame m #[(.int p0), (.int p1), (.int p2), (.int p3), (.int p4)] maxLocals)) t := fun t kt => pre85 _ (st86 _ kt)
    obtain ⟨cl88, Ar88, qk88, Sz88, Nn88, Hh88, Gg88⟩ := id V86
    have hin88 : ¬ ((0 : Int32) < 0 ∨ cl88.slots.size ≤ ((0 : Int32)).toNatClampNeg) := inb_of Sz88 ⟨by decide, by decide⟩
    have pre89 : ∀ t, Steps p.tables e below (T86.setTop (mkF m 48 #[.val (.int p0), .val (.int p1), .val (.int p2), .val (.int p3), .val (.int p4), .val (.int (3 : Int32)), .val (.double (own_v p1 p4 (0 : Int32))), .second, .val (.double (own_v p2 p4 (1 : Int32))), .second, .val (.double (own_v p3 p4 (2 : Int32))), .second, .val (.ref b86), .unset] [(.double (own_v p1 p4 (0 : Int32))), (.int (0 : Int32)), (.ref b86)])) t → Steps p.tables e below (s₁.setTop (entryFrame m #[(.int p0), (.int p1), (.int p2), (.int p3), (.int p4)] maxLocals)) t := fun t kt => by
      refine pre87 _ ?_
      show Steps p.tables e below (T86.setTop (mkF m 36 #[.val (.int p0), .val (.int p1), .val (.int p2), .val (.int p3), .val (.int p4), .val (.int (3 : Int32)), .val (.double (own_v p1 p4 (0 : Int32))), .second, .val (.double (own_v p2 p4 (1 : Int32))), .second, .val (.double (own_v p3 p4 (2 : Int32))), .second, .unset, .unset] [(.ref b86)])) _
      refine XS.astore X86.here hx rfl (hb hby at_36) rfl rfl (l' := #[.val (.int p0), .val (.int p1), .val (.int p2), .val (.int p3), .val (.int p4), .val (.int (3 : Int32)), .val (.double (own_v p1 p4 (0 : Int32))), .second, .val (.double (own_v p2 p4 (1 : Int32))), .second, .val (.double (own_v p3 p4 (2 : Int32))), .second, .val (.ref b86), .unset]) rfl ?_
      show Steps p.tables e below (T86.setTop (mkF m 38 #[.val (.int p0), .val (.int p1), .val (.int p2), .val (.int p3), .val (.int p4), .val (.int (3 : Int32)), .val (.double (own_v p1 p4 (0 : Int32))), .second, .val (.double (own_v p2 p4 (1 : Int32))), .second, .val (.double (own_v p3 p4 (2 : Int32))), .second, .val (.ref b86), .unset] [])) _
      refine XS.iload X86.here hx rfl (hb hby at_38) rfl ?_
      show Steps p.tables e below (T86.setTop (mkF m 40 #[.val (.int p0), .val (.int p1), .val (.int p2), .val (.int p3), .val (.int p4), .val (.int (3 : Int32)), .val (.double (own_v p1 p4 (0 : Int32))), .second, .val (.double (own_v p2 p4 (1 : Int32))), .second, .val (.double (own_v p3 p4 (2 : Int32))), .second, .val (.ref b86), .unset] [(.int (3 : Int32))])) _
      refine XS.ifNo X86.here hx rfl (hb hby at_40) rfl ((if0 _ _).trans (tlt (by decide : (0 : Int32) < (3 : Int32))).2.2.2) ?_
      show Steps p.tables e below (T86.setTop (mkF m 43 #[.val (.int p0), .val (.int p1), .val (.int p2), .val (.int p3), .val (.int p4), .val (.int (3 : Int32)), .val (.double (own_v p1 p4 (0 : Int32))), .second, .val (.double (own_v p2 p4 (1 : Int32))), .second, .val (.double (own_v p3 p4 (2 : Int32))), .second, .val (.ref b86), .unset] [])) _
      refine XS.aload X86.here hx rfl (hb hby at_43) rfl rfl ?_
      show Steps p.tables e below (T86.setTop (mkF m 45 #[.val (.int p0), .val (.int p1), .val (.int p2), .val (.int p3), .val (.int p4), .val (.int (3 : Int32)), .val (.double (own_v p1 p4 (0 : Int32))), .second, .val (.double (own_v p2 p4 (1 : Int32))), .second, .val (.double (own_v p3 p4 (2 : Int32))), .second, .val (.ref b86), .unset] [(.ref b86)])) _
      refine XS.iconst X86.here hx rfl (hb hby at_45) ?_
      show Steps p.tables e below (T86.setTop (mkF m 46 #[.val (.int p0), .val (.int p1), .val (.int p2), .val (.int p3), .val (.int p4), .val (.int (3 : Int32)), .val (.double (own_v p1 p4 (0 : Int32))), .second, .val (.double (own_v p2 p4 (1 : Int32))), .second, .val (.double (own_v p3 p4 (2 : Int32))), .second, .val (.ref b86), .unset] [(.int (0 : Int32)), (.ref b86)])) _
      refine XS.dload X86.here hx rfl (hb hby at_46) rfl ?_
      exact kt
    obtain ⟨T90, h90, X90, e90, W90, st90⟩ := stD X86 hx hZ e86 Ar88 (j := (0 : Int32)) hin88 (g := (mkF m 48 #[.val (.int p0), .val (.int p1), .val (.int p2), .val (.int p3), .val (.int p4), .val (.int (3 : Int32)), .val (.double (own_v p1 p4 (0 : Int32))), .second, .val (.double (own_v p2 p4 (1 : Int32))), .second, .val (.double (own_v p3 p4 (2 : Int32))), .second, .val (.ref b86), .unset] [(.double (own_v p1 p4 (0 : Int32))), (.int (0 : Int32)), (.ref b86)])) rfl rfl (hb hby at_48)
    have V90 := Arv.set Ar88 qk88 Sz88 Nn88 Hh88 Gg88 rfl W90 0 rfl (Nat.le_of_ble_eq_true rfl)
    have V90' : Arv Z h90 b86 k86 .double (3 : Int32) [(.double (own_v p1 p4 (0 : Int32))), (.double 0), (.double 0)] (.double 0) := V90
    have N90 := Fr.snoc X90 N8 gg_b86
    have pre91 : ∀ t, Steps p.tables e below (T90.setTop (mkF m 49 #[.val (.int p0), .val (.int p1), .val (.int p2), .val (.int p3), .val (.int p4), .val (.int (3 : Int32)), .val (.double (own_v p1 p4 (0 : Int32))), .second, .val (.double (own_v p2 p4 (1 : Int32))), .second, .val (.double (own_v p3 p4 (2 : Int32))), .second, .val (.ref b86), .unset] [])) t → Steps p.tables e below (s₁.setTop (entryFrame m #[(.int p0), (.int p1), (.int p2), (.int p3), (.int p4)] maxLocals)) t := fun t kt => pre89 _ (st90 _ kt)
    obtain ⟨cl92, Ar92, qk92, Sz92, Nn92, Hh92, Gg92⟩ := id V90'
    have hin92 : ¬ ((1 : Int32) < 0 ∨ cl92.slots.size ≤ ((1 : Int32)).toNatClampNeg) := inb_of Sz92 ⟨by decide, by decide⟩
    have pre93 : ∀ t, Steps p.tables e below (T90.setTop (mkF m 60 #[.val (.int p0), .val (.int p1), .val (.int p2), .val (.int p3), .val (.int p4), .val (.int (3 : Int32)), .val (.double (own_v p1 p4 (0 : Int32))), .second, .val (.double (own_v p2 p4 (1 : Int32))), .second, .val (.double (own_v p3 p4 (2 : Int32))), .second, .val (.ref b86), .unset] [(.double (own_v p2 p4 (1 : Int32))), (.int (1 : Int32)), (.ref b86)])) t → Steps p.tables e below (s₁.setTop (entryFrame m #[(.int p0), (.int p1), (.int p2), (.int p3), (.int p4)] maxLocals)) t := fun t kt => by
      refine pre91 _ ?_
      show Steps p.tables e below (T90.setTop (mkF m 49 #[.val (.int p0), .val (.int p1), .val (.int p2), .val (.int p3), .val (.int p4), .val (.int (3 : Int32)), .val (.double (own_v p1 p4 (0 : Int32))), .second, .val (.double (own_v p2 p4 (1 : Int32))), .second, .val (.double (own_v p3 p4 (2 : Int32))), .second, .val (.ref b86), .unset] [])) _
      refine XS.iload X90.here hx rfl (hb hby at_49) rfl ?_
      show Steps p.tables e below (T90.setTop (mkF m 51 #[.val (.int p0), .val (.int p1), .val (.int p2), .val (.int p3), .val (.int p4), .val (.int (3 : Int32)), .val (.double (own_v p1 p4 (0 : Int32))), .second, .val (.double (own_v p2 p4 (1 : Int32))), .second, .val (.double (own_v p3 p4 (2 : Int32))), .second, .val (.ref b86), .unset] [(.int (3 : Int32))])) _
      refine XS.iconst X90.here hx rfl (hb hby at_51) ?_
      show Steps p.tables e below (T90.setTop (mkF m 52 #[.val (.int p0), .val (.int p1), .val (.int p2), .val (.int p3), .val (.int p4), .val (.int (3 : Int32)), .val (.double (own_v p1 p4 (0 : Int32))), .second, .val (.double (own_v p2 p4 (1 : Int32))), .second, .val (.double (own_v p3 p4 (2 : Int32))), .second, .val (.ref b86), .unset] [(.int (1 : Int32)), (.int (3 : Int32))])) _
      refine XS.icmpNo X90.here hx rfl (hb hby at_52) rfl (tlt (by decide : (1 : Int32) < (3 : Int32))).2.2.2 ?_
      show Steps p.tables e below (T90.setTop (mkF m 55 #[.val (.int p0), .val (.int p1), .val (.int p2), .val (.int p3), .val (.int p4), .val (.int (3 : Int32)), .val (.double (own_v p1 p4 (0 : Int32))), .second, .val (.double (own_v p2 p4 (1 : Int32))), .second, .val (.double (own_v p3 p4 (2 : Int32))), .second, .val (.ref b86), .unset] [])) _
      refine XS.aload X90.here hx rfl (hb hby at_55) rfl rfl ?_
      show Steps p.tables e below (T90.setTop (mkF m 57 #[.val (.int p0), .val (.int p1), .val (.int p2), .val (.int p3), .val (.int p4), .val (.int (3 : Int32)), .val (.double (own_v p1 p4 (0 : Int32))), .second, .val (.double (own_v p2 p4 (1 : Int32))), .second, .val (.double (own_v p3 p4 (2 : Int32))), .second, .val (.ref b86), .unset] [(.ref b86)])) _
      refine XS.iconst X90.here hx rfl (hb hby at_57) ?_
      show Steps p.tables e below (T90.setTop (mkF m 58 #[.val (.int p0), .val (.int p1), .val (.int p2), .val (.int p3), .val (.int p4), .val (.int (3 : Int32)), .val (.double (own_v p1 p4 (0 : Int32))), .second, .val (.double (own_v p2 p4 (1 : Int32))), .second, .val (.double (own_v p3 p4 (2 : Int32))), .second, .val (.ref b86), .unset] [(.int (1 : Int32)), (.ref b86)])) _
      refine XS.dload X90.here hx rfl (hb hby at_58) rfl ?_
      exact kt
    obtain ⟨T94, h94, X94, e94, W94, st94⟩ := stD X90 hx hZ e90 Ar92 (j := (1 : Int32)) hin92 (g := (mkF m 60 #[.val (.int p0), .val (.int p1), .val (.int p2), .val (.int p3), .val (.int p4), .val (.int (3 : Int32)), .val (.double (own_v p1 p4 (0 : Int32))), .second, .val (.double (own_v p2 p4 (1 : Int32))), .second, .val (.double (own_v p3 p4 (2 : Int32))), .second, .val (.ref b86), .unset] [(.double (own_v p2 p4 (1 : Int32))), (.int (1 : Int32)), (.ref b86)])) rfl rfl (hb hby at_60)
    have V94 := Arv.set Ar92 qk92 Sz92 Nn92 Hh92 Gg92 rfl W94 1 rfl (Nat.le_of_ble_eq_true rfl)
    have V94' : Arv Z h94 b86 k86 .double (3 : Int32) [(.double (own_v p1 p4 (0 : Int32))), (.double (own_v p2 p4 (1 : Int32))), (.double 0)] (.double 0) := V94
    have N94 := Fr.snoc X94 N90 gg_b86
    have pre95 : ∀ t, Steps p.tables e below (T94.setTop (mkF m 61 #[.val (.int p0), .val (.int p1), .val (.int p2), .val (.int p3), .val (.int p4), .val (.int (3 : Int32)), .val (.double (own_v p1 p4 (0 : Int32))), .second, .val (.double (own_v p2 p4 (1 : Int32))), .second, .val (.double (own_v p3 p4 (2 : Int32))), .second, .val (.ref b86), .unset] [])) t → Steps p.tables e below (s₁.setTop (entryFrame m #[(.int p0), (.int p1), (.int p2), (.int p3), (.int p4)] maxLocals)) t := fun t kt => pre93 _ (st94 _ kt)
    obtain ⟨cl96, Ar96, qk96, Sz96, Nn96, Hh96, Gg96⟩ := id V94'
    have hin96 : ¬ ((2 : Int32) < 0 ∨ cl96.slots.size ≤ ((2 : Int32)).toNatClampNeg) := inb_of Sz96 ⟨by decide, by decide⟩
    have pre97 : ∀ t, Steps p.tables e below (T94.setTop (mkF m 72 #[.val (.int p0), .val (.int p1), .val (.int p2), .val (.int p3), .val (.int p4), .val (.int (3 : Int32)), .val (.double (own_v p1 p4 (0 : Int32))), .second, .val (.double (own_v p2 p4 (1 : Int32))), .second, .val (.double (own_v p3 p4 (2 : Int32))), .second, .val (.ref b86), .unset] [(.double (own_v p3 p4 (2 : Int32))), (.int (2 : Int32)), (.ref b86)])) t → Steps p.tables e below (s₁.setTop (entryFrame m #[(.int p0), (.int p1), (.int p2), (.int p3), (.int p4)] maxLocals)) t := fun t kt => by
      refine pre95 _ ?_
      show Steps p.tables e below (T94.setTop (mkF m 61 #[.val (.int p0), .val (.int p1), .val (.int p2), .val (.int p3), .val (.int p4), .val (.int (3 : Int32)), .val (.double (own_v p1 p4 (0 : Int32))), .second, .val (.double (own_v p2 p4 (1 : Int32))), .second, .val (.double (own_v p3 p4 (2 : Int32))), .second, .val (.ref b86), .unset] [])) _
      refine XS.iload X94.here hx rfl (hb hby at_61) rfl ?_
      show Steps p.tables e below (T94.setTop (mkF m 63 #[.val (.int p0), .val (.int p1), .val (.int p2), .val (.int p3), .val (.int p4), .val (.int (3 : Int32)), .val (.double (own_v p1 p4 (0 : Int32))), .second, .val (.double (own_v p2 p4 (1 : Int32))), .second, .val (.double (own_v p3 p4 (2 : Int32))), .second, .val (.ref b86), .unset] [(.int (3 : Int32))])) _
      refine XS.iconst X94.here hx rfl (hb hby at_63) ?_
      show Steps p.tables e below (T94.setTop (mkF m 64 #[.val (.int p0), .val (.int p1), .val (.int p2), .val (.int p3), .val (.int p4), .val (.int (3 : Int32)), .val (.double (own_v p1 p4 (0 : Int32))), .second, .val (.double (own_v p2 p4 (1 : Int32))), .second, .val (.double (own_v p3 p4 (2 : Int32))), .second, .val (.ref b86), .unset] [(.int (2 : Int32)), (.int (3 : Int32))])) _
      refine XS.icmpNo X94.here hx rfl (hb hby at_64) rfl (tlt (by decide : (2 : Int32) < (3 : Int32))).2.2.2 ?_
      show Steps p.tables e below (T94.setTop (mkF m 67 #[.val (.int p0), .val (.int p1), .val (.int p2), .val (.int p3), .val (.int p4), .val (.int (3 : Int32)), .val (.double (own_v p1 p4 (0 : Int32))), .second, .val (.double (own_v p2 p4 (1 : Int32))), .second, .val (.double (own_v p3 p4 (2 : Int32))), .second, .val (.ref b86), .unset] [])) _
      refine XS.aload X94.here hx rfl (hb hby at_67) rfl rfl ?_
      show Steps p.tables e below (T94.setTop (mkF m 69 #[.val (.int p0), .val (.int p1), .val (.int p2), .val (.int p3), .val (.int p4), .val (.int (3 : Int32)), .val (.double (own_v p1 p4 (0 : Int32))), .second, .val (.double (own_v p2 p4 (1 : Int32))), .second, .val (.double (own_v p3 p4 (2 : Int32))), .second, .val (.ref b86), .unset] [(.ref b86)])) _
      refine XS.iconst X94.here hx rfl (hb hby at_69) ?_
      show Steps p.tables e below (T94.setTop (mkF m 70 #[.val (.int p0), .val (.int p1), .val (.int p2), .val (.int p3), .val (.int p4), .val (.int (3 : Int32)), .val (.double (own_v p1 p4 (0 : Int32))), .second, .val (.double (own_v p2 p4 (1 : Int32))), .second, .val (.double (own_v p3 p4 (2 : Int32))), .second, .val (.ref b86), .unset] [(.int (2 : Int32)), (.ref b86)])) _
      refine XS.dload X94.here hx rfl (hb hby at_70) rfl ?_
      exact kt
    obtain ⟨T98, h98, X98, e98, W98, st98⟩ := stD X94 hx hZ e94 Ar96 (j := (2 : Int32)) hin96 (g := (mkF m 72 #[.val (.int p0), .val (.int p1), .val (.int p2), .val (.int p3), .val (.int p4), .val (.int (3 : Int32)), .val (.double (own_v p1 p4 (0 : Int32))), .second, .val (.double (own_v p2 p4 (1 : Int32))), .second, .val (.double (own_v p3 p4 (2 : Int32))), .second, .val (.ref b86), .unset] [(.double (own_v p3 p4 (2 : Int32))), (.int (2 : Int32)), (.ref b86)])) rfl rfl (hb hby at_72)
    have V98 := Arv.set Ar96 qk96 Sz96 Nn96 Hh96 Gg96 rfl W98 2 rfl (Nat.le_of_ble_eq_true rfl)
    have V98' : Arv Z h98 b86 k86 .double (3 : Int32) [(.double (own_v p1 p4 (0 : Int32))), (.double (own_v p2 p4 (1 : Int32))), (.double (own_v p3 p4 (2 : Int32)))] (.double 0) := V98
    have N98 := Fr.snoc X98 N94 gg_b86
    have pre99 : ∀ t, Steps p.tables e below (T98.setTop (mkF m 73 #[.val (.int p0), .val (.int p1), .val (.int p2), .val (.int p3), .val (.int p4), .val (.int (3 : Int32)), .val (.double (own_v p1 p4 (0 : Int32))), .second, .val (.double (own_v p2 p4 (1 : Int32))), .second, .val (.double (own_v p3 p4 (2 : Int32))), .second, .val (.ref b86), .unset] [])) t → Steps p.tables e below (s₁.setTop (entryFrame m #[(.int p0), (.int p1), (.int p2), (.int p3), (.int p4)] maxLocals)) t := fun t kt => pre97 _ (st98 _ kt)
    have z100 : n0 ≤ h98.size := (Nat.le_trans (Nat.le_trans (Nat.le_trans (Nat.le_trans Z0 E86.1) (Keep.of_wr W90).1) (Keep.of_wr W94).1) (Keep.of_wr W98).1)
    have pre101 : ∀ t, Steps p.tables e below (T98.setTop (mkF m 75 #[.val (.int p0), .val (.int p1), .val (.int p2), .val (.int p3), .val (.int p4), .val (.int (3 : Int32)), .val (.double (own_v p1 p4 (0 : Int32))), .second, .val (.double (own_v p2 p4 (1 : Int32))), .second, .val (.double (own_v p3 p4 (2 : Int32))), .second, .val (.ref b86), .unset] [(.ref b86)])) t → Steps p.tables e below (s₁.setTop (entryFrame m #[(.int p0), (.int p1), (.int p2), (.int p3), (.int p4)] maxLocals)) t := fun t kt => by
      refine pre99 _ ?_
      show Steps p.tables e below (T98.setTop (mkF m 73 #[.val (.int p0), .val (.int p1), .val (.int p2), .val (.int p3), .val (.int p4), .val (.int (3 : Int32)), .val (.double (own_v p1 p4 (0 : Int32))), .second, .val (.double (own_v p2 p4 (1 : Int32))), .second, .val (.double (own_v p3 p4 (2 : Int32))), .second, .val (.ref b86), .unset] [])) _
      refine XS.aload X98.here hx rfl (hb hby at_73) rfl rfl ?_
      exact kt
    obtain ⟨_, _, ⟨T102, L102, kc102, nc102⟩, -, X102, ⟨Lc102, hQ102, l102, y102, z102⟩, st102⟩ := Jvm.LawKit.callS X98 hx (y := (⟨"com/example/vidura/vidura/stats/Values", "signedZeroFree", "([D)[D"⟩ : MethodName)) hown (mvT hZ (hw _ (List.mem_of_getElem? (i := 5) rfl))) (mvT hZ (hw _ (List.mem_of_getElem? (i := 6) rfl))) (mvT hZ (hw _ (List.mem_of_getElem? (i := 7) rfl))) (mvT hZ (hw _ (List.mem_of_getElem? (i := 8) rfl))) (by decide) (backOf (W := 0) (rm2m3 l Z a0 hw [] b86 k86 (own_v p1 p4 (0 : Int32)) (own_v p2 p4 (1 : Int32)) (own_v p3 p4 (2 : Int32)) h98 n0 z100 V98' (own_v_fin p1 p4 (0 : Int32)) (own_v_fin p2 p4 (1 : Int32)) (own_v_fin p3 p4 (2 : Int32))) hZ (hw _ (List.mem_of_getElem? (i := 8) rfl)) (hw _ (List.mem_of_getElem? (i := 7) rfl)) (by decide) (by decide)) (g := (mkF m 75 #[.val (.int p0), .val (.int p1), .val (.int p2), .val (.int p3), .val (.int p4), .val (.int (3 : Int32)), .val (.double (own_v p1 p4 (0 : Int32))), .second, .val (.double (own_v p2 p4 (1 : Int32))), .second, .val (.double (own_v p3 p4 (2 : Int32))), .second, .val (.ref b86), .unset] [(.ref b86)])) rfl (by rw [hml]; rfl) (argsL := [(.ref b86)]) (rest := []) (lenOf pd_1 rfl) rfl (by show 2 * 0 + _ ≤ _; exact Nat.le_of_eq rfl) (hb hby at_75) (fun _ _ => ⟨rfl, e98, (by decide : 1 + 1 ≤ _), (by decide : 3 + 3 ≤ _)⟩)
    dsimp only [Pt.U, Pt.locs, Pt.cells, Pt.slots] at X102 l102 y102 z102 st102 hQ102
    subst l102 y102 z102
    obtain ⟨rfl, N102q, K102, ⟨kk102, Va102⟩⟩ := hQ102
    have N102 := Fr.app N98 N102q
    obtain ⟨b102, gq102⟩ : ∃ z, z = h98.size := ⟨_, rfl⟩
    rw [← gq102] at Va102 st102
    have gg_b102 : n0 ≤ b102 := Nat.le_trans z100 (Nat.le_of_eq gq102.symm)
    have pre103 : ∀ t, Steps p.tables e below (T102.setTop (mkF m 78 #[.val (.int p0), .val (.int p1), .val (.int p2), .val (.int p3), .val (.int p4), .val (.int (3 : Int32)), .val (.double (own_v p1 p4 (0 : Int32))), .second, .val (.double (own_v p2 p4 (1 : Int32))), .second, .val (.double (own_v p3 p4 (2 : Int32))), .second, .val (.ref b86), .unset] [(.ref b102)])) t → Steps p.tables e below (s₁.setTop (entryFrame m #[(.int p0), (.int p1), (.int p2), (.int p3), (.int p4)] maxLocals)) t := fun t kt => pre101 _ (st102 _ kt)
    have pre104 : ∀ t, Steps p.tables e below (T102.setTop (mkF m 87 #[.val (.int p0), .val (.int p1), .val (.int p2), .val (.int p3), .val (.int p4), .val (.int (3 : Int32)), .val (.double (own_v p1 p4 (0 : Int32))), .second, .val (.double (own_v p2 p4 (1 : Int32))), .second, .val (.double (own_v p3 p4 (2 : Int32))), .second, .val (.ref b86), .val (.ref b102)] [(.ref b102)])) t → Steps p.tables e below (s₁.setTop (entryFrame m #[(.int p0), (.int p1), (.int p2), (.int p3), (.int p4)] maxLocals)) t := fun t kt => by
      refine pre103 _ ?_
      show Steps p.tables e below (T102.setTop (mkF m 78 #[.val (.int p0), .val (.int p1), .val (.int p2), .val (.int p3), .val (.int p4), .val (.int (3 : Int32)), .val (.double (own_v p1 p4 (0 : Int32))), .second, .val (.double (own_v p2 p4 (1 : Int32))), .second, .val (.double (own_v p3 p4 (2 : Int32))), .second, .val (.ref b86), .unset] [(.ref b102)])) _
      refine XS.astore X102.here hx rfl (hb hby at_78) rfl rfl (l' := #[.val (.int p0), .val (.int p1), .val (.int p2), .val (.int p3), .val (.int p4), .val (.int (3 : Int32)), .val (.double (own_v p1 p4 (0 : Int32))), .second, .val (.double (own_v p2 p4 (1 : Int32))), .second, .val (.double (own_v p3 p4 (2 : Int32))), .second, .val (.ref b86), .val (.ref b102)]) rfl ?_
      show Steps p.tables e below (T102.setTop (mkF m 80 #[.val (.int p0), .val (.int p1), .val (.int p2), .val (.int p3), .val (.int p4), .val (.int (3 : Int32)), .val (.double (own_v p1 p4 (0 : Int32))), .second, .val (.double (own_v p2 p4 (1 : Int32))), .second, .val (.double (own_v p3 p4 (2 : Int32))), .second, .val (.ref b86), .val (.ref b102)] [])) _
      refine XS.aload X102.here hx rfl (hb hby at_80) rfl rfl ?_
      show Steps p.tables e below (T102.setTop (mkF m 82 #[.val (.int p0), .val (.int p1), .val (.int p2), .val (.int p3), .val (.int p4), .val (.int (3 : Int32)), .val (.double (own_v p1 p4 (0 : Int32))), .second, .val (.double (own_v p2 p4 (1 : Int32))), .second, .val (.double (own_v p3 p4 (2 : Int32))), .second, .val (.ref b86), .val (.ref b102)] [(.ref b102)])) _
      refine XS.ifnullNo X102.here hx rfl (hb hby at_82) rfl ?_
      show Steps p.tables e below (T102.setTop (mkF m 85 #[.val (.int p0), .val (.int p1), .val (.int p2), .val (.int p3), .val (.int p4), .val (.int (3 : Int32)), .val (.double (own_v p1 p4 (0 : Int32))), .second, .val (.double (own_v p2 p4 (1 : Int32))), .second, .val (.double (own_v p3 p4 (2 : Int32))), .second, .val (.ref b86), .val (.ref b102)] [])) _
      refine XS.aload X102.here hx rfl (hb hby at_85) rfl rfl ?_
      exact kt
    obtain ⟨cl105, Ar105, qk105, Sz105, Nn105, Hh105, Gg105⟩ := id Va102
    have z106 : n0 ≤ T102.heap.size := (Nat.le_trans z100 K102.1)
    have f107 := (V98'.keep K102 nin0)
    have pre108 : ∀ t, Steps p.tables e below (T102.setTop (mkF m 104 #[.val (.int p0), .val (.int p1), .val (.int p2), .val (.int p3), .val (.int p4), .val (.int (3 : Int32)), .val (.double (own_v p1 p4 (0 : Int32))), .second, .val (.double (own_v p2 p4 (1 : Int32))), .second, .val (.double (own_v p3 p4 (2 : Int32))), .second, .val (.ref b86), .val (.ref b102)] [(.int (3 : Int32)), (.int (0 : Int32)), (.double (own_v p1 p4 (0 : Int32))), (.ref b102), (.ref b86)])) t → Steps p.tables e below (s₁.setTop (entryFrame m #[(.int p0), (.int p1), (.int p2), (.int p3), (.int p4)] maxLocals)) t := fun t kt => by
      refine pre104 _ ?_
      show Steps p.tables e below (T102.setTop (mkF m 87 #[.val (.int p0), .val (.int p1), .val (.int p2), .val (.int p3), .val (.int p4), .val (.int (3 : Int32)), .val (.double (own_v p1 p4 (0 : Int32))), .second, .val (.double (own_v p2 p4 (1 : Int32))), .second, .val (.double (own_v p3 p4 (2 : Int32))), .second, .val (.ref b86), .val (.ref b102)] [(.ref b102)])) _
      refine X102.arraylength hx Ar105.1 (State.isArrayOf_alike hZ.alike Ar105.2.1) (g := (mkF m 87 #[.val (.int p0), .val (.int p1), .val (.int p2), .val (.int p3), .val (.int p4), .val (.int (3 : Int32)), .val (.double (own_v p1 p4 (0 : Int32))), .second, .val (.double (own_v p2 p4 (1 : Int32))), .second, .val (.double (own_v p3 p4 (2 : Int32))), .second, .val (.ref b86), .val (.ref b102)] [(.ref b102)])) rfl rfl (hb hby at_87) _ ?_
      rw [len_of Sz105 Nn105]
      show Steps p.tables e below (T102.setTop (mkF m 88 #[.val (.int p0), .val (.int p1), .val (.int p2), .val (.int p3), .val (.int p4), .val (.int (3 : Int32)), .val (.double (own_v p1 p4 (0 : Int32))), .second, .val (.double (own_v p2 p4 (1 : Int32))), .second, .val (.double (own_v p3 p4 (2 : Int32))), .second, .val (.ref b86), .val (.ref b102)] [(.int (3 : Int32))])) _
      refine XS.iload X102.here hx rfl (hb hby at_88) rfl ?_
      show Steps p.tables e below (T102.setTop (mkF m 90 #[.val (.int p0), .val (.int p1), .val (.int p2), .val (.int p3), .val (.int p4), .val (.int (3 : Int32)), .val (.double (own_v p1 p4 (0 : Int32))), .second, .val (.double (own_v p2 p4 (1 : Int32))), .second, .val (.double (own_v p3 p4 (2 : Int32))), .second, .val (.ref b86), .val (.ref b102)] [(.int (3 : Int32)), (.int (3 : Int32))])) _
      refine XS.icmpYes X102.here hx rfl (pc0 := 90) (pc' := 95) rfl (hb hby at_90) rfl (teq (by decide : (3 : Int32) = (3 : Int32))).1 (by decide) (by decide) ?_
      show Steps p.tables e below (T102.setTop (mkF m 95 #[.val (.int p0), .val (.int p1), .val (.int p2), .val (.int p3), .val (.int p4), .val (.int (3 : Int32)), .val (.double (own_v p1 p4 (0 : Int32))), .second, .val (.double (own_v p2 p4 (1 : Int32))), .second, .val (.double (own_v p3 p4 (2 : Int32))), .second, .val (.ref b86), .val (.ref b102)] [])) _
      refine XS.aload X102.here hx rfl (hb hby at_95) rfl rfl ?_
      show Steps p.tables e below (T102.setTop (mkF m 97 #[.val (.int p0), .val (.int p1), .val (.int p2), .val (.int p3), .val (.int p4), .val (.int (3 : Int32)), .val (.double (own_v p1 p4 (0 : Int32))), .second, .val (.double (own_v p2 p4 (1 : Int32))), .second, .val (.double (own_v p3 p4 (2 : Int32))), .second, .val (.ref b86), .val (.ref b102)] [(.ref b86)])) _
      refine XS.aload X102.here hx rfl (hb hby at_97) rfl rfl ?_
      show Steps p.tables e below (T102.setTop (mkF m 99 #[.val (.int p0), .val (.int p1), .val (.int p2), .val (.int p3), .val (.int p4), .val (.int (3 : Int32)), .val (.double (own_v p1 p4 (0 : Int32))), .second, .val (.double (own_v p2 p4 (1 : Int32))), .second, .val (.double (own_v p3 p4 (2 : Int32))), .second, .val (.ref b86), .val (.ref b102)] [(.ref b102), (.ref b86)])) _
      refine XS.dload X102.here hx rfl (hb hby at_99) rfl ?_
      show Steps p.tables e below (T102.setTop (mkF m 101 #[.val (.int p0), .val (.int p1), .val (.int p2), .val (.int p3), .val (.int p4), .val (.int (3 : Int32)), .val (.double (own_v p1 p4 (0 : Int32))), .second, .val (.double (own_v p2 p4 (1 : Int32))), .second, .val (.double (own_v p3 p4 (2 : Int32))), .second, .val (.ref b86), .val (.ref b102)] [(.double (own_v p1 p4 (0 : Int32))), (.ref b102), (.ref b86)])) _
      refine XS.iconst X102.here hx rfl (hb hby at_101) ?_
      show Steps p.tables e below (T102.setTop (mkF m 102 #[.val (.int p0), .val (.int p1), .val (.int p2), .val (.int p3), .val (.int p4), .val (.int (3 : Int32)), .val (.double (own_v p1 p4 (0 : Int32))), .second, .val (.double (own_v p2 p4 (1 : Int32))), .second, .val (.double (own_v p3 p4 (2 : Int32))), .second, .val (.ref b86), .val (.ref b102)] [(.int (0 : Int32)), (.double (own_v p1 p4 (0 : Int32))), (.ref b102), (.ref b86)])) _
      refine XS.iload X102.here hx rfl (hb hby at_102) rfl ?_
      exact kt
    obtain ⟨_, _, ⟨T109, L109, kc109, nc109⟩, -, X109, ⟨Lc109, hQ109, l109, y109, z109⟩, st109⟩ := Jvm.LawKit.callS X102 hx (y := (⟨"com/example/vidura/vidura/stats/ValuesSignedZeroFreePinLaw", "ok", "([D[DDII)Z"⟩ : MethodName)) hown (mvT hZ (hw _ (List.mem_of_getElem? (i := 9) rfl))) (mvT hZ (hw _ (List.mem_of_getElem? (i := 10) rfl))) (mvT hZ (hw _ (List.mem_of_getElem? (i := 2) rfl))) (mvT hZ (hw _ (List.mem_of_getElem? (i := 11) rfl))) (by decide) (backOf (W := 0) (rm3 l Z a0 hw [] b86 b102 (own_v p1 p4 (0 : Int32)) (0 : Int32) (3 : Int32) k86 kk102 [(.double (own_v p1 p4 (0 : Int32))), (.double (own_v p2 p4 (1 : Int32))), (.double (own_v p3 p4 (2 : Int32)))] [(.double (own_r (own_v p1 p4 (0 : Int32)))), (.double (own_r (own_v p2 p4 (1 : Int32)))), (.double (own_r (own_v p3 p4 (2 : Int32))))] T102.heap n0 z106 f107 Va102 (by decide) (by decide) rfl rfl (own_v_fin p1 p4 (0 : Int32))) hZ (hw _ (List.mem_of_getElem? (i := 11) rfl)) (hw _ (List.mem_of_getElem? (i := 2) rfl)) (by decide) (by decide)) (g := (mkF m 104 #[.val (.int p0), .val (.int p1), .val (.int p2), .val (.int p3), .val (.int p4), .val (.int (3 : Int32)), .val (.double (own_v p1 p4 (0 : Int32))), .second, .val (.double (own_v p2 p4 (1 : Int32))), .second, .val (.double (own_v p3 p4 (2 : Int32))), .second, .val (.ref b86), .val (.ref b102)] [(.int (3 : Int32)), (.int (0 : Int32)), (.double (own_v p1 p4 (0 : Int32))), (.ref b102), (.ref b86)])) rfl (by rw [hml]; rfl) (argsL := [(.ref b86), (.ref b102), (.double (own_v p1 p4 (0 : Int32))), (.int (0 : Int32)), (.int (3 : Int32))]) (rest := []) (lenOf pd_2 rfl) rfl (by show 2 * 0 + _ ≤ _; exact Nat.le_of_eq rfl) (hb hby at_104) (fun _ _ => ⟨rfl, rfl, (by decide : 2 + 0 ≤ _), (by decide : 6 + 0 ≤ _)⟩)
    dsimp only [Pt.U, Pt.locs, Pt.cells, Pt.slots] at X109 l109 y109 z109 st109 hQ109
    subst l109 y109 z109
    obtain ⟨rfl, N109q, he109⟩ := hQ109
    have N109 := Fr.app N102 N109q
    have pre110 : ∀ t, Steps p.tables e below (T109.setTop (mkF m 107 #[.val (.int p0), .val (.int p1), .val (.int p2), .val (.int p3), .val (.int p4), .val (.int (3 : Int32)), .val (.double (own_v p1 p4 (0 : Int32))), .second, .val (.double (own_v p2 p4 (1 : Int32))), .second, .val (.double (own_v p3 p4 (2 : Int32))), .second, .val (.ref b86), .val (.ref b102)] [(.int (1 : Int32))])) t → Steps p.tables e below (s₁.setTop (entryFrame m #[(.int p0), (.int p1), (.int p2), (.int p3), (.int p4)] maxLocals)) t := fun t kt => pre108 _ (st109 _ kt)
    have pre111 : ∀ t, Steps p.tables e below (T109.setTop (mkF m 119 #[.val (.int p0), .val (.int p1), .val (.int p2), .val (.int p3), .val (.int p4), .val (.int (3 : Int32)), .val (.double (own_v p1 p4 (0 : Int32))), .second, .val (.double (own_v p2 p4 (1 : Int32))), .second, .val (.double (own_v p3 p4 (2 : Int32))), .second, .val (.ref b86), .val (.ref b102)] [(.int (3 : Int32)), (.int (1 : Int32)), (.double (own_v p2 p4 (1 : Int32))), (.ref b102), (.ref b86)])) t → Steps p.tables e below (s₁.setTop (entryFrame m #[(.int p0), (.int p1), (.int p2), (.int p3), (.int p4)] maxLocals)) t := fun t kt => by
      refine pre110 _ ?_
      show Steps p.tables e below (T109.setTop (mkF m 107 #[.val (.int p0), .val (.int p1), .val (.int p2), .val (.int p3), .val (.int p4), .val (.int (3 : Int32)), .val (.double (own_v p1 p4 (0 : Int32))), .second, .val (.double (own_v p2 p4 (1 : Int32))), .second, .val (.double (own_v p3 p4 (2 : Int32))), .second, .val (.ref b86), .val (.ref b102)] [(.int (1 : Int32))])) _
      refine XS.ifNo X109.here hx rfl (hb hby at_107) rfl ((if0 _ _).trans (feq (by decide : ¬ ((1 : Int32) = (0 : Int32)))).1) ?_
      show Steps p.tables e below (T109.setTop (mkF m 110 #[.val (.int p0), .val (.int p1), .val (.int p2), .val (.int p3), .val (.int p4), .val (.int (3 : Int32)), .val (.double (own_v p1 p4 (0 : Int32))), .second, .val (.double (own_v p2 p4 (1 : Int32))), .second, .val (.double (own_v p3 p4 (2 : Int32))), .second, .val (.ref b86), .val (.ref b102)] [])) _
      refine XS.aload X109.here hx rfl (hb hby at_110) rfl rfl ?_
      show Steps p.tables e below (T109.setTop (mkF m 112 #[.val (.int p0), .val (.int p1), .val (.int p2), .val (.int p3), .val (.int p4), .val (.int (3 : Int32)), .val (.double (own_v p1 p4 (0 : Int32))), .second, .val (.double (own_v p2 p4 (1 : Int32))), .second, .val (.double (own_v p3 p4 (2 : Int32))), .second, .val (.ref b86), .val (.ref b102)] [(.ref b86)])) _
      refine XS.aload X109.here hx rfl (hb hby at_112) rfl rfl ?_
      show Steps p.tables e below (T109.setTop (mkF m 114 #[.val (.int p0), .val (.int p1), .val (.int p2), .val (.int p3), .val (.int p4), .val (.int (3 : Int32)), .val (.double (own_v p1 p4 (0 : Int32))), .second, .val (.double (own_v p2 p4 (1 : Int32))), .second, .val (.double (own_v p3 p4 (2 : Int32))), .second, .val (.ref b86), .val (.ref b102)] [(.ref b102), (.ref b86)])) _
      refine XS.dload X109.here hx rfl (hb hby at_114) rfl ?_
      show Steps p.tables e below (T109.setTop (mkF m 116 #[.val (.int p0), .val (.int p1), .val (.int p2), .val (.int p3), .val (.int p4), .val (.int (3 : Int32)), .val (.double (own_v p1 p4 (0 : Int32))), .second, .val (.double (own_v p2 p4 (1 : Int32))), .second, .val (.double (own_v p3 p4 (2 : Int32))), .second, .val (.ref b86), .val (.ref b102)] [(.double (own_v p2 p4 (1 : Int32))), (.ref b102), (.ref b86)])) _
      refine XS.iconst X109.here hx rfl (hb hby at_116) ?_
      show Steps p.tables e below (T109.setTop (mkF m 117 #[.val (.int p0), .val (.int p1), .val (.int p2), .val (.int p3), .val (.int p4), .val (.int (3 : Int32)), .val (.double (own_v p1 p4 (0 : Int32))), .second, .val (.double (own_v p2 p4 (1 : Int32))), .second, .val (.double (own_v p3 p4 (2 : Int32))), .second, .val (.ref b86), .val (.ref b102)] [(.int (1 : Int32)), (.double (own_v p2 p4 (1 : Int32))), (.ref b102), (.ref b86)])) _
      refine XS.iload X109.here hx rfl (hb hby at_117) rfl ?_
      exact kt
    obtain ⟨_, _, ⟨T112, L112, kc112, nc112⟩, -, X112, ⟨Lc112, hQ112, l112, y112, z112⟩, st112⟩ := Jvm.LawKit.callS X109 hx (y := (⟨"com/example/vidura/vidura/stats/ValuesSignedZeroFreePinLaw", "ok", "([D[DDII)Z"⟩ : MethodName)) hown (mvT hZ (hw _ (List.mem_of_getElem? (i := 9) rfl))) (mvT hZ (hw _ (List.mem_of_getElem? (i := 10) rfl))) (mvT hZ (hw _ (List.mem_of_getElem? (i := 2) rfl))) (mvT hZ (hw _ (List.mem_of_getElem? (i := 11) rfl))) (by decide) (backOf (W := 0) (rm3 l Z a0 hw [] b86 b102 (own_v p2 p4 (1 : Int32)) (1 : Int32) (3 : Int32) k86 kk102 [(.double (own_v p1 p4 (0 : Int32))), (.double (own_v p2 p4 (1 : Int32))), (.double (own_v p3 p4 (2 : Int32)))] [(.double (own_r (own_v p1 p4 (0 : Int32)))), (.double (own_r (own_v p2 p4 (1 : Int32)))), (.double (own_r (own_v p3 p4 (2 : Int32))))] T102.heap n0 z106 f107 Va102 (by decide) (by decide) rfl rfl (own_v_fin p2 p4 (1 : Int32))) hZ (hw _ (List.mem_of_getElem? (i := 11) rfl)) (hw _ (List.mem_of_getElem? (i := 2) rfl)) (by decide) (by decide)) (g := (mkF m 119 #[.val (.int p0), .val (.int p1), .val (.int p2), .val (.int p3), .val (.int p4), .val (.int (3 : Int32)), .val (.double (own_v p1 p4 (0 : Int32))), .second, .val (.double (own_v p2 p4 (1 : Int32))), .second, .val (.double (own_v p3 p4 (2 : Int32))), .second, .val (.ref b86), .val (.ref b102)] [(.int (3 : Int32)), (.int (1 : Int32)), (.double (own_v p2 p4 (1 : Int32))), (.ref b102), (.ref b86)])) rfl (by rw [hml]; rfl) (argsL := [(.ref b86), (.ref b102), (.double (own_v p2 p4 (1 : Int32))), (.int (1 : Int32)), (.int (3 : Int32))]) (rest := []) (lenOf pd_2 rfl) rfl (by show 2 * 0 + _ ≤ _; exact Nat.le_of_eq rfl) (hb hby at_119) (fun _ _ => ⟨rfl, he109, (by decide : 2 + 0 ≤ _), (by decide : 6 + 0 ≤ _)⟩)
    dsimp only [Pt.U, Pt.locs, Pt.cells, Pt.slots] at X112 l112 y112 z112 st112 hQ112
    subst l112 y112 z112
    obtain ⟨rfl, N112q, he112⟩ := hQ112
    have N112 := Fr.app N109 N112q
    have pre113 : ∀ t, Steps p.tables e below (T112.setTop (mkF m 122 #[.val (.int p0), .val (.int p1), .val (.int p2), .val (.int p3), .val (.int p4), .val (.int (3 : Int32)), .val (.double (own_v p1 p4 (0 : Int32))), .second, .val (.double (own_v p2 p4 (1 : Int32))), .second, .val (.double (own_v p3 p4 (2 : Int32))), .second, .val (.ref b86), .val (.ref b102)] [(.int (1 : Int32))])) t → Steps p.tables e below (s₁.setTop (entryFrame m #[(.int p0), (.int p1), (.int p2), (.int p3), (.int p4)] maxLocals)) t := fun t kt => pre111 _ (st112 _ kt)
    have pre114 : ∀ t, Steps p.tables e below (T112.setTop (mkF m 134 #[.val (.int p0), .val (.int p1), .val (.int p2), .val (.int p3), .val (.int p4), .val (.int (3 : Int32)), .val (.double (own_v p1 p4 (0 : Int32))), .second, .val (.double (own_v p2 p4 (1 : Int32))), .second, .val (.double (own_v p3 p4 (2 : Int32))), .second, .val (.ref b86), .val (.ref b102)] [(.int (3 : Int32)), (.int (2 : Int32)), (.double (own_v p3 p4 (2 : Int32))), (.ref b102), (.ref b86)])) t → Steps p.tables e below (s₁.setTop (entryFrame m #[(.int p0), (.int p1), (.int p2), (.int p3), (.int p4)] maxLocals)) t := fun t kt => by
      refine pre113 _ ?_
      show Steps p.tables e below (T112.setTop (mkF m 122 #[.val (.int p0), .val (.int p1), .val (.int p2), .val (.int p3), .val (.int p4), .val (.int (3 : Int32)), .val (.double (own_v p1 p4 (0 : Int32))), .second, .val (.double (own_v p2 p4 (1 : Int32))), .second, .val (.double (own_v p3 p4 (2 : Int32))), .second, .val (.ref b86), .val (.ref b102)] [(.int (1 : Int32))])) _
      refine XS.ifNo X112.here hx rfl (hb hby at_122) rfl ((if0 _ _).trans (feq (by decide : ¬ ((1 : Int32) = (0 : Int32)))).1) ?_
      show Steps p.tables e below (T112.setTop (mkF m 125 #[.val (.int p0), .val (.int p1), .val (.int p2), .val (.int p3), .val (.int p4), .val (.int (3 : Int32)), .val (.double (own_v p1 p4 (0 : Int32))), .second, .val (.double (own_v p2 p4 (1 : Int32))), .second, .val (.double (own_v p3 p4 (2 : Int32))), .second, .val (.ref b86), .val (.ref b102)] [])) _
      refine XS.aload X112.here hx rfl (hb hby at_125) rfl rfl ?_
      show Steps p.tables e below (T112.setTop (mkF m 127 #[.val (.int p0), .val (.int p1), .val (.int p2), .val (.int p3), .val (.int p4), .val (.int (3 : Int32)), .val (.double (own_v p1 p4 (0 : Int32))), .second, .val (.double (own_v p2 p4 (1 : Int32))), .second, .val (.double (own_v p3 p4 (2 : Int32))), .second, .val (.ref b86), .val (.ref b102)] [(.ref b86)])) _
      refine XS.aload X112.here hx rfl (hb hby at_127) rfl rfl ?_
      show Steps p.tables e below (T112.setTop (mkF m 129 #[.val (.int p0), .val (.int p1), .val (.int p2), .val (.int p3), .val (.int p4), .val (.int (3 : Int32)), .val (.double (own_v p1 p4 (0 : Int32))), .second, .val (.double (own_v p2 p4 (1 : Int32))), .second, .val (.double (own_v p3 p4 (2 : Int32))), .second, .val (.ref b86), .val (.ref b102)] [(.ref b102), (.ref b86)])) _
      refine XS.dload X112.here hx rfl (hb hby at_129) rfl ?_
      show Steps p.tables e below (T112.setTop (mkF m 131 #[.val (.int p0), .val (.int p1), .val (.int p2), .val (.int p3), .val (.int p4), .val (.int (3 : Int32)), .val (.double (own_v p1 p4 (0 : Int32))), .second, .val (.double (own_v p2 p4 (1 : Int32))), .second, .val (.double (own_v p3 p4 (2 : Int32))), .second, .val (.ref b86), .val (.ref b102)] [(.double (own_v p3 p4 (2 : Int32))), (.ref b102), (.ref b86)])) _
      refine XS.iconst X112.here hx rfl (hb hby at_131) ?_
      show Steps p.tables e below (T112.setTop (mkF m 132 #[.val (.int p0), .val (.int p1), .val (.int p2), .val (.int p3), .val (.int p4), .val (.int (3 : Int32)), .val (.double (own_v p1 p4 (0 : Int32))), .second, .val (.double (own_v p2 p4 (1 : Int32))), .second, .val (.double (own_v p3 p4 (2 : Int32))), .second, .val (.ref b86), .val (.ref b102)] [(.int (2 : Int32)), (.double (own_v p3 p4 (2 : Int32))), (.ref b102), (.ref b86)])) _
      refine XS.iload X112.here hx rfl (hb hby at_132) rfl ?_
      exact kt
    obtain ⟨_, _, ⟨T115, L115, kc115, nc115⟩, -, X115, ⟨Lc115, hQ115, l115, y115, z115⟩, st115⟩ := Jvm.LawKit.callS X112 hx (y := (⟨"com/example/vidura/vidura/stats/ValuesSignedZeroFreePinLaw", "ok", "([D[DDII)Z"⟩ : MethodName)) hown (mvT hZ (hw _ (List.mem_of_getElem? (i := 9) rfl))) (mvT hZ (hw _ (List.mem_of_getElem? (i := 10) rfl))) (mvT hZ (hw _ (List.mem_of_getElem? (i := 2) rfl))) (mvT hZ (hw _ (List.mem_of_getElem? (i := 11) rfl))) (by decide) (backOf (W := 0) (rm3 l Z a0 hw [] b86 b102 (own_v p3 p4 (2 : Int32)) (2 : Int32) (3 : Int32) k86 kk102 [(.double (own_v p1 p4 (0 : Int32))), (.double (own_v p2 p4 (1 : Int32))), (.double (own_v p3 p4 (2 : Int32)))] [(.double (own_r (own_v p1 p4 (0 : Int32)))), (.double (own_r (own_v p2 p4 (1 : Int32)))), (.double (own_r (own_v p3 p4 (2 : Int32))))] T102.heap n0 z106 f107 Va102 (by decide) (by decide) rfl rfl (own_v_fin p3 p4 (2 : Int32))) hZ (hw _ (List.mem_of_getElem? (i := 11) rfl)) (hw _ (List.mem_of_getElem? (i := 2) rfl)) (by decide) (by decide)) (g := (mkF m 134 #[.val (.int p0), .val (.int p1), .val (.int p2), .val (.int p3), .val (.int p4), .val (.int (3 : Int32)), .val (.double (own_v p1 p4 (0 : Int32))), .second, .val (.double (own_v p2 p4 (1 : Int32))), .second, .val (.double (own_v p3 p4 (2 : Int32))), .second, .val (.ref b86), .val (.ref b102)] [(.int (3 : Int32)), (.int (2 : Int32)), (.double (own_v p3 p4 (2 : Int32))), (.ref b102), (.ref b86)])) rfl (by rw [hml]; rfl) (argsL := [(.ref b86), (.ref b102), (.double (own_v p3 p4 (2 : Int32))), (.int (2 : Int32)), (.int (3 : Int32))]) (rest := []) (lenOf pd_2 rfl) rfl (by show 2 * 0 + _ ≤ _; exact Nat.le_of_eq rfl) (hb hby at_134) (fun _ _ => ⟨rfl, he112, (by decide : 2 + 0 ≤ _), (by decide : 6 + 0 ≤ _)⟩)
    dsimp only [Pt.U, Pt.locs, Pt.cells, Pt.slots] at X115 l115 y115 z115 st115 hQ115
    subst l115 y115 z115
    obtain ⟨rfl, N115q, he115⟩ := hQ115
    have N115 := Fr.app N112 N115q
    have pre116 : ∀ t, Steps p.tables e below (T115.setTop (mkF m 137 #[.val (.int p0), .val (.int p1), .val (.int p2), .val (.int p3), .val (.int p4), .val (.int (3 : Int32)), .val (.double (own_v p1 p4 (0 : Int32))), .second, .val (.double (own_v p2 p4 (1 : Int32))), .second, .val (.double (own_v p3 p4 (2 : Int32))), .second, .val (.ref b86), .val (.ref b102)] [(.int (1 : Int32))])) t → Steps p.tables e below (s₁.setTop (entryFrame m #[(.int p0), (.int p1), (.int p2), (.int p3), (.int p4)] maxLocals)) t := fun t kt => pre114 _ (st115 _ kt)
    have pre117 : ∀ t, Steps p.tables e below (T115.setTop (mkF m 145 #[.val (.int p0), .val (.int p1), .val (.int p2), .val (.int p3), .val (.int p4), .val (.int (3 : Int32)), .val (.double (own_v p1 p4 (0 : Int32))), .second, .val (.double (own_v p2 p4 (1 : Int32))), .second, .val (.double (own_v p3 p4 (2 : Int32))), .second, .val (.ref b86), .val (.ref b102)] [(.int (1 : Int32))])) t → Steps p.tables e below (s₁.setTop (entryFrame m #[(.int p0), (.int p1), (.int p2), (.int p3), (.int p4)] maxLocals)) t := fun t kt => by
      refine pre116 _ ?_
      show Steps p.tables e below (T115.setTop (mkF m 137 #[.val (.int p0), .val (.int p1), .val (.int p2), .val (.int p3), .val (.int p4), .val (.int (3 : Int32)), .val (.double (own_v p1 p4 (0 : Int32))), .second, .val (.double (own_v p2 p4 (1 : Int32))), .second, .val (.double (own_v p3 p4 (2 : Int32))), .second, .val (.ref b86), .val (.ref b102)] [(.int (1 : Int32))])) _
      refine XS.ifNo X115.here hx rfl (hb hby at_137) rfl ((if0 _ _).trans (feq (by decide : ¬ ((1 : Int32) = (0 : Int32)))).1) ?_
      show Steps p.tables e below (T115.setTop (mkF m 140 #[.val (.int p0), .val (.int p1), .val (.int p2), .val (.int p3), .val (.int p4), .val (.int (3 : Int32)), .val (.double (own_v p1 p4 (0 : Int32))), .second, .val (.double (own_v p2 p4 (1 : Int32))), .second, .val (.double (own_v p3 p4 (2 : Int32))), .second, .val (.ref b86), .val (.ref b102)] [])) _
      refine XS.iconst X115.here hx rfl (hb hby at_140) ?_
      show Steps p.tables e below (T115.setTop (mkF m 141 #[.val (.int p0), .val (.int p1), .val (.int p2), .val (.int p3), .val (.int p4), .val (.int (3 : Int32)), .val (.double (own_v p1 p4 (0 : Int32))), .second, .val (.double (own_v p2 p4 (1 : Int32))), .second, .val (.double (own_v p3 p4 (2 : Int32))), .second, .val (.ref b86), .val (.ref b102)] [(.int (1 : Int32))])) _
      refine XS.goto X115.here hx rfl (pc0 := 141) (pc' := 145) rfl (hb hby at_141) (by decide) (by decide) ?_
      exact kt
    obtain ⟨fs, hr, hrun, hended, hW, hsame⟩ := X115.leave (v := (some (.int (1 : Int32)))) (fun h => by rw [Bd.returns] at h; cases h)
    refine ⟨_, _, pre117 _ ?_, hrun, hended, _, _, rfl, ?_, ⟨_, rfl⟩, hW, hsame.mono (by decide) (by decide)⟩
    · show Steps p.tables e below (T115.setTop (mkF m 145 #[.val (.int p0), .val (.int p1), .val (.int p2), .val (.int p3), .val (.int p4), .val (.int (3 : Int32)), .val (.double (own_v p1 p4 (0 : Int32))), .second, .val (.double (own_v p2 p4 (1 : Int32))), .second, .val (.double (own_v p3 p4 (2 : Int32))), .second, .val (.ref b86), .val (.ref b102)] [(.int (1 : Int32))])) _
      exact retN X115 hx (t := .boolean) Bd.returns (by simp) (hb hby at_145) hr
    · show Q0 Z p0 p1 p2 p3 p4 h0 n0 _ T115.heap _
      rw [he115]
      exact ⟨rfl, N115⟩
set_option maxRecDepth 65536 in
set_option maxHeartbeats 40000000 in
theorem comes_1 {Post : Tables → Env → Array Value → State → Outcome → State → Prop} (hpost : ∀ tb e args s v u, (limb_1_1.after args s (.returned v) u = true ∧ limb_1_2.after args s (.returned v) u = true ∧ True) → FrameEnd s (.returned v) u (Jvm.fieldLocs frame_1_writes args s ++ Jvm.arrayLocs frame_1_arrays args s ++ Jvm.staticLocs frame_1_statics s) 16 128 → Post tb e args s (.returned v) u) :
    ArmFor flags0 classFile x code maxLocals ret World_1 tables_1 room_1 Calls_1 rest_1 Pre_1 Post := by
  intro l hfl _ _ p e ha hc hk s m args below hf hA hF happ hP
  obtain ⟨hcalls, hrest, hpre⟩ := hP
  obtain ⟨-, -, -, hnamed, -, -, -, hat⟩ := (Spec.applies_iff hf).mp happ
  obtain ⟨hg, hn⟩ := and_e (Cond.before_iff.mp (show (Jvm.Cond.and given_1 narrow_1).before args s = true from hpre))
  obtain ⟨gc, g0⟩ := and_e hg
  obtain ⟨gg0, g1⟩ := and_e g0
  obtain ⟨gg1, g2⟩ := and_e g1
  obtain ⟨gg2, g3⟩ := and_e g2
  obtain ⟨gg3, g4⟩ := and_e g3
  obtain ⟨w0, w1, w2, w3, w4, rfl⟩ : ∃ w0 w1 w2 w3 w4 : Value, args = #[w0, w1, w2, w3, w4] := by
    have hs : args.size = 5 := by simpa [Cond.value, given_1] using gc
    obtain ⟨L⟩ := args
    match L, hs with
    | [w0, w1, w2, w3, w4], _ => exact ⟨w0, w1, w2, w3, w4, rfl⟩
  have hw := fun d (hd : d ∈ tables_1) => atoms_spec (ws := Jvm.Cond.code x code maxLocals ret :: tables_1) hat d (List.mem_cons_of_mem _ hd)
  have hfit : Fit s := fun {y c} hc i hi => by
    obtain ⟨ha, rfl⟩ := Array.getElem?_eq_some_iff.mp hc
    have q := List.all_eq_true.mp ((Array.all_eq_true_iff_forall_mem.mp hF) _ (Array.getElem_mem ha)) i (List.mem_range.mpr hi)
    simpa [Array.getElem?_eq_getElem hi] using q
  obtain ⟨i0, ei0⟩ := is_v gg0
  obtain rfl : w0 = (.int i0) := Option.some.inj ei0
  obtain ⟨i1, ei1⟩ := is_v gg1
  obtain rfl : w1 = (.int i1) := Option.some.inj ei1
  obtain ⟨i2, ei2⟩ := is_v gg2
  obtain rfl : w2 = (.int i2) := Option.some.inj ei2
  obtain ⟨i3, ei3⟩ := is_v gg3
  obtain rfl : w3 = (.int i3) := Option.some.inj ei3
  obtain ⟨i4, ei4⟩ := is_v g4
  obtain rfl : w4 = (.int i4) := Option.some.inj ei4
  obtain ⟨n, o, h1, h2, h3, _, L, rfl, ⟨rfl, N⟩, hq⟩ := rm0 l s _ hw tables_1 i0 i1 i2 i3 i4  s.heap s.heap.size (Nat.le_refl _)  p e ha hc hk s m _ below hf ((Spec.applies_iff_loose hf).mp happ).1 ⟨rfl, State.Warmed39.refl s, rfl⟩ trivial
  refine ⟨n, _, h1, h2, h3, hpost _ _ _ _ _ _ ⟨Cond.after_iff.mpr rfl, Cond.after_iff.mpr (eq_i res_at (Term.int_eval (1)) rfl), trivial⟩ ⟨hq.1, hq.2.1, (hq.2.2.sift fun y hy => Or.inr (N y hy)).mono (by decide) (by decide)⟩⟩
theorem main_1_1 : Claimed_1_1 := comes_1 fun _ _ _ _ _ _ h hF => ⟨h.1, hF⟩
theorem main_1_2 : Claimed_1_2 := comes_1 fun _ _ _ _ _ _ h hF => ⟨h.2.1, hF⟩
end Jvm.Pilot.@@N@@
namespace Jvm.Pilot.@@N@@
open Jvm Jvm.ClassFile Sem Op Lib Jvm.Free Jvm.Stand Jvm.Pilot.@@N@@.Jvm.D
/-! MADE BY PROGRAM (witnessworld.py) out of the Statement's table words and the real class files: 11 classes; the members and pool entries that the words name. The judged class is class 1, her method 3. -/
namespace start1
open Jvm.ClassFile
def u (s : String) : CpInfo := .utf8 (stringToUtf16 s)
/-- a pool by its gaps: so many unusable entries, then the entry; so many at the end -/
def gap : Nat → List CpInfo → List CpInfo
  | 0, r => r
  | n + 1, r => .unusable :: gap n r
def poolList (es : List (Nat × CpInfo)) (last : Nat) : List CpInfo := es.foldr (fun e r => gap e.1 (e.2 :: r)) (gap last [])
def pool (es : List (Nat × CpInfo)) (last : Nat) : Array CpInfo := ⟨poolList es last⟩
def fileOf (pool : Array CpInfo) (this : Nat) (attrs : Array Attribute := #[]) (ms : Array MethodInfo := #[]) (fl : Nat := 33) (sup : Nat := 0) (ifs : Array Nat := #[]) (fds : Array FieldInfo := #[]) : ClassFile where
  minorVersion := 0
  majorVersion := 65
  constantPool := pool
  accessFlags := fl
  thisClass := this
  superClass := sup
  interfaces := ifs
  fields := fds
  methods := ms
  attributes := attrs
def plain (name : String) (sup : Option ClassId) : Class where
  name := name
  kind := .ordinary
  loader := none
  accessFlags := 33
  super := sup
  interfaces := #[]
  cf := none
  fields := #[]
  methods := #[]
  instanceTypes := #[]
  staticTypes := #[]
  resolved := #[]
  callSites := []
  init := .initialized
  statics := none
  mirror := none

def pool0 : Array CpInfo := pool [(5, u "<init>"), (0, u "()V"), (1, .class_ 10), (1, u "java/lang/Object")] 113

def k0m0 : Method := { name := "<init>", desc := "()V", sig := { parameters := [], returnType := none }, accessFlags := 1, code := none }
/-- java/lang/Object -/
def k0 : Class := { plain "java/lang/Object" none with
  accessFlags := 33
  interfaces := #[]
  cf := some (fileOf pool0 8 #[] #[{ accessFlags := 1, nameIndex := 5, descriptorIndex := 6, attributes := #[] }] 33 0 #[] #[])
  fields := #[]
  methods := #[k0m0]
  instanceTypes := #[]
  staticTypes := #[]
  resolved := Array.replicate 124 none
  statics := none }

def pool1 : Array CpInfo := pool [(2, .class_ 4), (1, u "java/lang/Object"), (0, u "<init>"), (0, u "()V"), (0, .methodref 8 9), (0, .class_ 10), (0, .nameAndType 11 12), (0, u "com/example/vidura/vidura/stats/ValuesSignedZeroFreePinLaw"), (0, u "value"), (0, u "(III)D"), (0, .methodref 14 15), (0, .class_ 16), (0, .nameAndType 17 18), (0, u "com/example/vidura/vidura/stats/Values"), (0, u "signedZeroFree"), (0, u "([D)[D"), (0, .methodref 8 20), (0, .nameAndType 21 22), (0, u "ok"), (0, u "([D[DDII)Z"), (5, u "law"), (0, u "(IIIII)Z")] 2

def k1m0 : Method := { name := "<init>", desc := "()V", sig := { parameters := [], returnType := none }, accessFlags := 2, code := none }
def k1c1 : Code := { maxStack := 3, maxLocals := 5, code := method_2_code, exceptionTable := #[], attributes := #[] }
def k1m1 : Method := { name := "value", desc := "(III)D", sig := { parameters := [.int, .int, .int], returnType := some .double }, accessFlags := 10, code := some k1c1 }
def k1c2 : Code := { maxStack := 6, maxLocals := 8, code := method_3_code, exceptionTable := #[], attributes := #[] }
def k1m2 : Method := { name := "ok", desc := "([D[DDII)Z", sig := { parameters := [(.array .double), (.array .double), .double, .int, .int], returnType := some .boolean }, accessFlags := 10, code := some k1c2 }
def k1c3 : Code := { maxStack := 6, maxLocals := 14, code := code, exceptionTable := #[], attributes := #[] }
def k1m3 : Method := { name := "law", desc := "(IIIII)Z", sig := { parameters := [.int, .int, .int, .int, .int], returnType := some .boolean }, accessFlags := 9, code := some k1c3 }
/-- com/example/vidura/vidura/stats/ValuesSignedZeroFreePinLaw -/
def k1 : Class := { plain "com/example/vidura/vidura/stats/ValuesSignedZeroFreePinLaw" (some 0) with
  accessFlags := 49
  interfaces := #[]
  cf := some (fileOf pool1 8 #[] #[{ accessFlags := 2, nameIndex := 5, descriptorIndex := 6, attributes := #[] }, { accessFlags := 10, nameIndex := 11, descriptorIndex := 12, attributes := #[] }, { accessFlags := 10, nameIndex := 21, descriptorIndex := 22, attributes := #[] }, { accessFlags := 9, nameIndex := 28, descriptorIndex := 29, attributes := #[] }] 49 2 #[] #[])
  fields := #[]
  methods := #[k1m0, k1m1, k1m2, k1m3]
  instanceTypes := #[]
  staticTypes := #[]
  resolved := Array.replicate 32 none
  statics := none }

def pool2 : Array CpInfo := pool [(2, .class_ 4), (1, u "java/lang/Object"), (0, u "<init>"), (0, u "()V"), (19, .class_ 28), (1, u "com/example/vidura/vidura/stats/Values"), (1, u "([D)[D"), (21, u "signedZeroFree")] 2

def k2m0 : Method := { name := "<init>", desc := "()V", sig := { parameters := [], returnType := none }, accessFlags := 2, code := none }
def k2c1 : Code := { maxStack := 6, maxLocals := 3, code := prog_125_method_6_code, exceptionTable := #[], attributes := #[] }
def k2m1 : Method := { name := "signedZeroFree", desc := "([D)[D", sig := { parameters := [(.array .double)], returnType := some (.array .double) }, accessFlags := 8, code := some k2c1 }
/-- com/example/vidura/vidura/stats/Values -/
def k2 : Class := { plain "com/example/vidura/vidura/stats/Values" (some 0) with
  accessFlags := 48
  interfaces := #[]
  cf := some (fileOf pool2 26 #[] #[{ accessFlags := 2, nameIndex := 5, descriptorIndex := 6, attributes := #[] }, { accessFlags := 8, nameIndex := 52, descriptorIndex := 30, attributes := #[] }] 48 2 #[] #[])
  fields := #[]
  methods := #[k2m0, k2m1]
  instanceTypes := #[]
  staticTypes := #[]
  resolved := Array.replicate 55 none
  statics := none }

def pool3 : Array CpInfo := pool [(1, u "java/lang/Cloneable"), (0, .class_ 1), (0, u "java/lang/Object"), (0, .class_ 3)] 3

/-- java/lang/Cloneable -/
def k3 : Class := { plain "java/lang/Cloneable" (some 0) with
  accessFlags := 1537
  interfaces := #[]
  cf := some (fileOf pool3 2 #[] #[] 1537 4 #[] #[])
  fields := #[]
  methods := #[]
  instanceTypes := #[]
  staticTypes := #[]
  resolved := Array.replicate 8 none
  statics := none }

def pool4 : Array CpInfo := pool [(1, u "java/io/Serializable"), (0, .class_ 1), (0, u "java/lang/Object"), (0, .class_ 3)] 3

/-- java/io/Serializable -/
def k4 : Class := { plain "java/io/Serializable" (some 0) with
  accessFlags := 1537
  interfaces := #[]
  cf := some (fileOf pool4 2 #[] #[] 1537 4 #[] #[])
  fields := #[]
  methods := #[]
  instanceTypes := #[]
  staticTypes := #[]
  resolved := Array.replicate 8 none
  statics := none }

/-- the primitive byte -/
def k5 : Class := { plain "byte" none with kind := .primitive 'B', accessFlags := 0x411 }
/-- [B -/
def k6 : Class := { plain "[B" (some 0) with kind := .array 5 .byte, interfaces := #[3, 4], accessFlags := 1041 }

/-- the primitive double -/
def k7 : Class := { plain "double" none with kind := .primitive 'D', accessFlags := 0x411 }
/-- [D -/
def k8 : Class := { plain "[D" (some 0) with kind := .array 7 .double, interfaces := #[3, 4], accessFlags := 1041 }

/-- the primitive int -/
def k9 : Class := { plain "int" none with kind := .primitive 'I', accessFlags := 0x411 }
/-- [I -/
def k10 : Class := { plain "[I" (some 0) with kind := .array 9 .int, interfaces := #[3, 4], accessFlags := 1041 }

def heap : Heap := #[]
def classes : Array Class := #[k0, k1, k2, k3, k4, k5, k6, k7, k8, k9, k10]
def interned : List (Array UInt16 × Addr) := []
def slotsUsed : Nat := 0
def theMethod : MethodId := ⟨1, 3⟩
def args0 : Array Value := #[.int 5, .int 5, .int 5, .int 5, .int 5]
def aboutOver (below : List Frame) : State where
  vm := { classes := classes, interned := interned.toArray }
  heap := heap
  slotsUsed := slotsUsed
  threads := #[{ frames := .invoking theMethod args0 :: below }]
def below0 : List Frame := [.native { method := ⟨0, 0⟩, args := #[] }]
def about1 : State := aboutOver below0
def p0 : Program := .bare "" "" ""
def e0 : Env := launch0.env 0 0 0
theorem w_frames : about1.frames = Frame.invoking theMethod args0 :: below0 := rfl
set_option maxRecDepth 65536 in
theorem w_args : argsFit about1.vm theMethod args0 = true := by decide +kernel
set_option maxRecDepth 65536 in
theorem w_heap : heapFits about1 = true := by decide +kernel
set_option maxRecDepth 65536 in
theorem w_runnable : about1.curStatus? = some .runnable := by decide +kernel
set_option maxRecDepth 65536 in
theorem w_alone : about1.alone = true := by decide +kernel
set_option maxRecDepth 65536 in
theorem w_named : about1.methodNamed? x = some theMethod := by decide +kernel
set_option maxRecDepth 65536 in
theorem w_hears : about1.hears theMethod below0 = true := by decide +kernel
set_option maxRecDepth 65536 in
theorem w_ripe : about1.ripe theMethod args0 below0 = true := by decide +kernel
theorem w_running : about1.status = .running := rfl
set_option maxRecDepth 65536 in
theorem w_room : about1.hasRoom e0.platform room_1 = true :=
  launch0.hasRoom_least _ room_1 (by decide +kernel) (by decide +kernel) (by decide +kernel) (by decide +kernel) (by decide +kernel) (by decide +kernel)
theorem allAtoms_all (ts : List Jvm.Cond) (a : Array Jvm.Value) (st : Jvm.State) : (allAtoms ts).before a st = ts.all (fun c => c.before a st) := by
  induction ts with
  | nil => rfl
  | cons c t ih =>
    show (Jvm.Cond.and c (allAtoms t)).before a st = _
    rw [Jvm.Cond.before_and, ih, List.all_cons]
def words1 : List Jvm.Cond := Jvm.Cond.code x code maxLocals ret :: tables_1
/-- a 'code' word, met by the world's own term for the bytes: nothing is compared byte by byte -/
theorem code_word {y : MethodName} {bytes : ByteArray} {mx : Nat} {rt : Option FieldType} {a : Array Value} {s : State} {m : MethodId} {meth : Method} {c : Code} (h1 : s.methodNamed? y = some m) (h2 : s.vm.method? m = some meth) (h3 : meth.code = some c) (h4 : c.code = bytes)
    (h5 : (c.maxLocals == mx && c.exceptionTable.isEmpty && decide (c.maxStack ≤ mostOperands) && decide (meth.sig.returnType = rt) && !meth.locks && decide (parseMethodDescriptor y.desc = some meth.sig)) = true) : (Jvm.Cond.code y bytes mx rt).before a s = true := by
  simp only [Bool.and_eq_true, beq_iff_eq, Bool.not_eq_true', decide_eq_true_eq] at h5
  obtain ⟨⟨⟨⟨⟨g1, g2⟩, g3⟩, g4⟩, g5⟩, g6⟩ := h5
  simp [Cond.before, Cond.holds, Cond.value, h1, h2, h3, h4, g1, g2, g3, g4, g5, g6]
def isCode : Jvm.Cond → Bool
  | .code _ _ _ _ => true
  | _ => false
theorem all_split {L : List Jvm.Cond} {P : Jvm.Cond → Bool} (h1 : L.all (fun c => isCode c || P c) = true) (h2 : ∀ c ∈ L.filter isCode, P c = true) : L.all P = true := by
  refine List.all_eq_true.mpr fun c hc => ?_
  have h := List.all_eq_true.mp h1 c hc
  rcases Bool.eq_false_or_eq_true (isCode c) with hi | hi
  · exact h2 c (List.mem_filter.mpr ⟨hc, hi⟩)
  · simpa [hi] using h
set_option maxRecDepth 65536 in
theorem w_c0 : (Jvm.Cond.code x code maxLocals ret).before args0 about1 = true := code_word (m := ⟨1, 3⟩) (meth := k1m3) (c := k1c3) (by decide +kernel) rfl rfl rfl (by decide +kernel)
set_option maxRecDepth 65536 in
theorem w_c1 : (Jvm.Cond.code ({ cls := "com/example/vidura/vidura/stats/ValuesSignedZeroFreePinLaw", name := "value", desc := "(III)D" } : Jvm.MethodName) method_2_code (5 : Nat) (Option.some Jvm.ClassFile.FieldType.double)).before args0 about1 = true := code_word (m := ⟨1, 1⟩) (meth := k1m1) (c := k1c1) (by decide +kernel) rfl rfl rfl (by decide +kernel)
set_option maxRecDepth 65536 in
theorem w_c2 : (Jvm.Cond.code ({ cls := "com/example/vidura/vidura/stats/Values", name := "signedZeroFree", desc := "([D)[D" } : Jvm.MethodName) prog_125_method_6_code (3 : Nat) (Option.some (Jvm.ClassFile.FieldType.array Jvm.ClassFile.FieldType.double))).before args0 about1 = true := code_word (m := ⟨2, 1⟩) (meth := k2m1) (c := k2c1) (by decide +kernel) rfl rfl rfl (by decide +kernel)
set_option maxRecDepth 65536 in
theorem w_c3 : (Jvm.Cond.code ({ cls := "com/example/vidura/vidura/stats/ValuesSignedZeroFreePinLaw", name := "ok", desc := "([D[DDII)Z" } : Jvm.MethodName) method_3_code (8 : Nat) (Option.some Jvm.ClassFile.FieldType.boolean)).before args0 about1 = true := code_word (m := ⟨1, 2⟩) (meth := k1m2) (c := k1c2) (by decide +kernel) rfl rfl rfl (by decide +kernel)
def codes1 : List Jvm.Cond := [Jvm.Cond.code x code maxLocals ret, Jvm.Cond.code ({ cls := "com/example/vidura/vidura/stats/ValuesSignedZeroFreePinLaw", name := "value", desc := "(III)D" } : Jvm.MethodName) method_2_code (5 : Nat) (Option.some Jvm.ClassFile.FieldType.double), Jvm.Cond.code ({ cls := "com/example/vidura/vidura/stats/Values", name := "signedZeroFree", desc := "([D)[D" } : Jvm.MethodName) prog_125_method_6_code (3 : Nat) (Option.some (Jvm.ClassFile.FieldType.array Jvm.ClassFile.FieldType.double)), Jvm.Cond.code ({ cls := "com/example/vidura/vidura/stats/ValuesSignedZeroFreePinLaw", name := "ok", desc := "([D[DDII)Z" } : Jvm.MethodName) method_3_code (8 : Nat) (Option.some Jvm.ClassFile.FieldType.boolean)]
set_option maxRecDepth 65536 in
theorem codes_eq : words1.filter isCode = codes1 := rfl
theorem w_codes : ∀ c ∈ words1.filter isCode, c.before args0 about1 = true := by
  rw [codes_eq]
  intro c hc
  simp only [codes1, List.mem_cons, List.not_mem_nil, or_false] at hc
  rcases hc with rfl | rfl | rfl | rfl
  · exact w_c0
  · exact w_c1
  · exact w_c2
  · exact w_c3
set_option maxRecDepth 65536 in
theorem w_t1 : words1.all (fun c => isCode c || c.before args0 about1) = true := by decide +kernel
theorem w_tables : (allAtoms (Jvm.Cond.code x code maxLocals ret :: tables_1)).before args0 about1 = true := by
  rw [allAtoms_all]
  show words1.all (fun c => c.before args0 about1) = true
  refine all_split ?_ w_codes
  rw [w_t1]
set_option maxRecDepth 65536 in
theorem w_case : (Jvm.Cond.and given_1 narrow_1).before args0 about1 = true := by decide +kernel
theorem w_applies : (headSpec (Jvm.Cond.code x code maxLocals ret :: tables_1) room_1).applies x e0.platform about1 = true :=
  (Spec.applies_iff w_frames).mpr ⟨w_running, w_runnable, w_alone, w_named, w_hears, w_ripe, w_room, w_tables⟩
theorem atStart : AtStart classFile x code maxLocals ret World_1 tables_1 room_1 Calls_1 rest_1 Pre_1 launch0 p0 e0 about1 theMethod args0 below0 :=
  ⟨lists_1, trivial, launch0.admits_env _ _ _, launch0.least_env, fairChoices_fair.cas, fairChoices_fair.clock, w_frames, w_args, w_heap, w_applies, trivial, trivial, w_case⟩
end start1
theorem witness_1 : WitnessClaimed_1 := ⟨start1.p0, start1.e0, start1.about1, start1.theMethod, start1.args0, start1.below0, start1.atStart⟩
end Jvm.Pilot.@@N@@
