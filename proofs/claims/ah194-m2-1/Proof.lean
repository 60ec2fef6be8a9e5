import JvmDerived
import JvmDerived.Pilot.@@N@@Statement
import JvmDerived.Pilot.@@N@@Code
set_option linter.unusedVariables false
set_option linter.unusedSimpArgs false
namespace Jvm.RoadKit
open Sem ClassFile Op Lib Jvm.Stand Jvm.Free Jvm.LawKit
section New
variable {p : Program} {l : Launch} {e : Env} {R : Room} {s : State} {m : MethodId} {args : Array Value} {below : List Frame} {meth : Method} {c : Code} {T : State} {locs : List Loc} {cells slots : Nat}
theorem retI (X : Stand p l e R s m args below meth c T locs cells slots) (hx : p.tables.exec = Jvm.exec) {pc : Nat} {Ls : Array Slot} {z : Int32} {rest : List Value} (hret : meth.sig.returnType = some .int) (hd : decode c.code pc = .ok (.ireturn, 1)) {fs : List Frame}
    (hl : ∀ (f : JFrame) (acts : List Action), f.method = m → f.locked = none → f.entered = [] → (doReturn e (T.setTop f) acts (some (.int z))).1 = T.setFrames fs) : Steps p.tables e below (T.setTop (mkF m pc Ls (.int z :: rest))) (T.setFrames fs) := by
  have hm' : T.vm.method? m = some meth := X.method'
  have hn : narrow .int (.int z) = .int z := rfl
  show Steps p.tables e below (T.setTop { method := m, pc := pc, locals := Ls, stack := _ :: rest, locked := none }) _
  jvm_step X.here [X.here.top, hx, hd, hm', hret, hn]
  first | (intro acts; rw [hl _ acts rfl rfl rfl]) | rw [hl _ _ rfl rfl rfl]
  exact Steps.refl _
end New
end Jvm.RoadKit
namespace Jvm.Pilot.@@N@@
open Jvm Jvm.ClassFile Sem Op Lib Jvm.Free Jvm.Stand Jvm.LawKit Jvm.RoadKit Bundle Jvm.Pilot.@@N@@.Jvm.D

theorem own_cmp {x y : Int64} (h : x = y) : lcmpW x y = (0 : Int32) := by
  subst h
  show (if x > x then (1 : Int32) else if x = x then 0 else -1) = 0
  rw [if_neg (by show ¬ x < x; rw [Int64.lt_iff_toInt_lt]; omega), if_pos rfl]
theorem pn_0 : plainName "com/example/vidura/vidura/metric/CommonSubsequence" = true := by first | (simp [plainName, overriddenIn]; done) | decide +kernel
theorem ef_1n (m : MethodId) (a1 : Addr) : entryFrame m #[(.ref a1), .null] 3 = (mkF m 0 #[.val (.ref a1), .val .null, .unset] []) := by first | (simp [entryFrame, mkF, argsToLocals, Value.category]; done) | rfl
theorem d1_0 : decode prog_48_method_10_code 0 = .ok (.aload_n 1, 1) := by decide +kernel
theorem d1_1 : decode prog_48_method_10_code 1 = .ok (.ifnonnull 4, 3) := by decide +kernel
theorem d1_4 : decode prog_48_method_10_code 4 = .ok (.return_, 1) := by decide +kernel
def Q1n (Z : State) (a1 : Addr) (h0 : Heap) (n0 : Nat) (v : Option Value) (h : Heap) (L : List Loc) : Prop := v = none ∧ Fr n0 L ∧ h = h0
set_option maxRecDepth 65536 in
set_option maxHeartbeats 40000000 in
theorem rm1n (l : Launch) (Z : State) (a0 : Array Value) (hw : ∀ d ∈ tables_1, d.before a0 Z = true) (ws : List Jvm.Cond) (a1 : Addr) (h0 : Heap) (n0 : Nat) (Z0 : n0 ≤ h0.size) :
    MetFree l (⟨"com/example/vidura/vidura/metric/CommonSubsequence", "addAll", "([J[J)V"⟩ : MethodName) (head1 (Jvm.Cond.code (⟨"com/example/vidura/vidura/metric/CommonSubsequence", "addAll", "([J[J)V"⟩ : MethodName) prog_48_method_10_code 3 none :: ws) ({ frames := 0, cells := 0, slots := 0, locals := 0 } : Room)) (fun a U => a = #[(.ref a1), .null] ∧ Z.Warmed39 U.vm ∧ U.heap = h0) (fun _ _ _ _ _ => True) (fun _ U o U' => ∃ v L, o = .returned v ∧ Q1n Z a1 h0 n0 v U'.heap L ∧ FrameEnd U o U' L ({ frames := 0, cells := 0, slots := 0, locals := 0 } : Room).cells ({ frames := 0, cells := 0, slots := 0, locals := 0 } : Room).slots) := by
  refine MetFree.of_bodySF (plainFor_of_name pn_0) hisR ?_
  intro p e s m args below meth c s₁ Bd hml0 hP hK
  obtain ⟨rfl, hZ, hh⟩ := hP
  have hx := Bd.exec
  have hby := Bd.bytes
  have hml : c.maxLocals = 3 := hml0
  have hown : s.vm.findClass "com/example/vidura/vidura/metric/CommonSubsequence" = some m.cls := findClass_of_methodNamed Bd.named
  have hnm := (name_of_methodNamed Bd.named Bd.method).1
  have X0 : Stand p l e ({ frames := 0, cells := 0, slots := 0, locals := 0 } : Room) s m #[(.ref a1), .null] below meth c s₁ [] 0 0 := Stand.of_body Bd
  have e0 : s₁.heap = h0 := by rw [← hh, Bd.state]; rfl
  have N0 := Fr.nil n0
  have pre0 : ∀ t, Steps p.tables e below (s₁.setTop (mkF m 0 #[.val (.ref a1), .val .null, .unset] [])) t → Steps p.tables e below (s₁.setTop (entryFrame m #[(.ref a1), .null] 3)) t := fun t k => castTop (ef_1n m a1) k
  have pre1 : ∀ t, Steps p.tables e below (s₁.setTop (mkF m 4 #[.val (.ref a1), .val .null, .unset] [])) t → Steps p.tables e below (s₁.setTop (entryFrame m #[(.ref a1), .null] 3)) t := fun t kt => by
    refine pre0 _ ?_
    show Steps p.tables e below (s₁.setTop (mkF m 0 #[.val (.ref a1), .val .null, .unset] [])) _
    refine XS.aloadN X0.here hx rfl (hb hby d1_0) rfl rfl ?_
    show Steps p.tables e below (s₁.setTop (mkF m 1 #[.val (.ref a1), .val .null, .unset] [.null])) _
    refine XS.ifnonnullNo X0.here hx rfl (hb hby d1_1) rfl ?_
    exact kt
  obtain ⟨fs, hr, hrun, hended, hW, hsame⟩ := X0.leave (v := none) (fun _ => rfl)
  refine ⟨_, _, pre1 _ ?_, hrun, hended, _, _, rfl, ?_, ⟨_, rfl⟩, hW, hsame.mono (by decide) (by decide)⟩
  · show Steps p.tables e below (s₁.setTop (mkF m 4 #[.val (.ref a1), .val .null, .unset] [])) _
    exact X0.returnOut hx Bd.returns (hb hby d1_4) hr
  · show Q1n Z a1 h0 n0 _ s₁.heap _
    rw [e0]
    exact ⟨rfl, N0, rfl⟩
theorem ef_1 (m : MethodId) (a1 : Addr) (a2 : Addr) : entryFrame m #[(.ref a1), (.ref a2)] 3 = (mkF m 0 #[.val (.ref a1), .val (.ref a2), .unset] []) := by first | (simp [entryFrame, mkF, argsToLocals, Value.category]; done) | rfl
theorem d1_5 : decode prog_48_method_10_code 5 = .ok (.iconst 0, 1) := by decide +kernel
theorem d1_6 : decode prog_48_method_10_code 6 = .ok (.istore_n 2, 1) := by decide +kernel
theorem d1_7 : decode prog_48_method_10_code 7 = .ok (.iload_n 2, 1) := by decide +kernel
theorem d1_8 : decode prog_48_method_10_code 8 = .ok (.aload_n 0, 1) := by decide +kernel
theorem d1_9 : decode prog_48_method_10_code 9 = .ok (.arraylength, 1) := by decide +kernel
theorem d1_10 : decode prog_48_method_10_code 10 = .ok (.if_icmp .ge 18, 3) := by decide +kernel
theorem d1_13 : decode prog_48_method_10_code 13 = .ok (.aload_n 0, 1) := by decide +kernel
theorem d1_14 : decode prog_48_method_10_code 14 = .ok (.iload_n 2, 1) := by decide +kernel
theorem d1_15 : decode prog_48_method_10_code 15 = .ok (.dup2, 1) := by decide +kernel
theorem d1_16 : decode prog_48_method_10_code 16 = .ok (.laload, 1) := by decide +kernel
theorem d1_17 : decode prog_48_method_10_code 17 = .ok (.aload_n 1, 1) := by decide +kernel
theorem d1_18 : decode prog_48_method_10_code 18 = .ok (.iload_n 2, 1) := by decide +kernel
theorem d1_19 : decode prog_48_method_10_code 19 = .ok (.laload, 1) := by decide +kernel
theorem d1_20 : decode prog_48_method_10_code 20 = .ok (.lor, 1) := by decide +kernel
theorem d1_21 : decode prog_48_method_10_code 21 = .ok (.lastore, 1) := by decide +kernel
theorem d1_22 : decode prog_48_method_10_code 22 = .ok (.iinc 2 1, 3) := by decide +kernel
theorem d1_25 : decode prog_48_method_10_code 25 = .ok (.goto (-18), 3) := by decide +kernel
theorem d1_28 : decode prog_48_method_10_code 28 = .ok (.return_, 1) := by decide +kernel
def Q1 (Z : State) (a1 : Addr) (a2 : Addr) (k1 : ClassId) (k2 : ClassId) (x0 : Int64) (x1 : Int64) (y0 : Int64) (y1 : Int64) (h0 : Heap) (n0 : Nat) (v : Option Value) (h : Heap) (L : List Loc) : Prop := v = none ∧ Fr n0 L ∧ Keep h0 h [a1] ∧ Arv Z h a1 k1 .long (2 : Int32) [(.long (x0 ||| y0)), (.long (x1 ||| y1))] (.long (0 : Int64))
set_option maxRecDepth 65536 in
set_option maxHeartbeats 40000000 in
theorem rm1 (l : Launch) (Z : State) (a0 : Array Value) (hw : ∀ d ∈ tables_1, d.before a0 Z = true) (ws : List Jvm.Cond) (a1 : Addr) (a2 : Addr) (k1 : ClassId) (k2 : ClassId) (x0 : Int64) (x1 : Int64) (y0 : Int64) (y1 : Int64) (h0 : Heap) (n0 : Nat) (Z0 : n0 ≤ h0.size) (V1 : Arv Z h0 a1 k1 .long (2 : Int32) [(.long x0), (.long x1)] (.long (0 : Int64))) (V2 : Arv Z h0 a2 k2 .long (2 : Int32) [(.long y0), (.long y1)] (.long (0 : Int64))) (ne12 : a1 ≠ a2) (g1 : n0 ≤ a1) :
    MetFree l (⟨"com/example/vidura/vidura/metric/CommonSubsequence", "addAll", "([J[J)V"⟩ : MethodName) (head1 (Jvm.Cond.code (⟨"com/example/vidura/vidura/metric/CommonSubsequence", "addAll", "([J[J)V"⟩ : MethodName) prog_48_method_10_code 3 none :: ws) ({ frames := 0, cells := 0, slots := 0, locals := 0 } : Room)) (fun a U => a = #[(.ref a1), (.ref a2)] ∧ Z.Warmed39 U.vm ∧ U.heap = h0) (fun _ _ _ _ _ => True) (fun _ U o U' => ∃ v L, o = .returned v ∧ Q1 Z a1 a2 k1 k2 x0 x1 y0 y1 h0 n0 v U'.heap L ∧ FrameEnd U o U' L ({ frames := 0, cells := 0, slots := 0, locals := 0 } : Room).cells ({ frames := 0, cells := 0, slots := 0, locals := 0 } : Room).slots) := by
  refine MetFree.of_bodySF (plainFor_of_name pn_0) hisR ?_
  intro p e s m args below meth c s₁ Bd hml0 hP hK
  obtain ⟨rfl, hZ, hh⟩ := hP
  have hx := Bd.exec
  have hby := Bd.bytes
  have hml : c.maxLocals = 3 := hml0
  have hown : s.vm.findClass "com/example/vidura/vidura/metric/CommonSubsequence" = some m.cls := findClass_of_methodNamed Bd.named
  have hnm := (name_of_methodNamed Bd.named Bd.method).1
  have X0 : Stand p l e ({ frames := 0, cells := 0, slots := 0, locals := 0 } : Room) s m #[(.ref a1), (.ref a2)] below meth c s₁ [] 0 0 := Stand.of_body Bd
  have e0 : s₁.heap = h0 := by rw [← hh, Bd.state]; rfl
  have N0 := Fr.nil n0
  have K0 : Keep h0 h0 [a1] := Keep.refl _ _
  have pre0 : ∀ t, Steps p.tables e below (s₁.setTop (mkF m 0 #[.val (.ref a1), .val (.ref a2), .unset] [])) t → Steps p.tables e below (s₁.setTop (entryFrame m #[(.ref a1), (.ref a2)] 3)) t := fun t k => castTop (ef_1 m a1 a2) k
  have pre1 : ∀ t, Steps p.tables e below (s₁.setTop (mkF m 9 #[.val (.ref a1), .val (.ref a2), .val (.int (0 : Int32))] [(.ref a1), (.int (0 : Int32))])) t → Steps p.tables e below (s₁.setTop (entryFrame m #[(.ref a1), (.ref a2)] 3)) t := fun t kt => by
    refine pre0 _ ?_
    show Steps p.tables e below (s₁.setTop (mkF m 0 #[.val (.ref a1), .val (.ref a2), .unset] [])) _
    refine XS.aloadN X0.here hx rfl (hb hby d1_0) rfl rfl ?_
    show Steps p.tables e below (s₁.setTop (mkF m 1 #[.val (.ref a1), .val (.ref a2), .unset] [(.ref a2)])) _
    refine XS.ifnonnullYes X0.here hx rfl (pc0 := 1) (pc' := 5) rfl (hb hby d1_1) rfl (by decide) (by decide) ?_
    show Steps p.tables e below (s₁.setTop (mkF m 5 #[.val (.ref a1), .val (.ref a2), .unset] [])) _
    refine XS.iconst X0.here hx rfl (hb hby d1_5) ?_
    show Steps p.tables e below (s₁.setTop (mkF m 6 #[.val (.ref a1), .val (.ref a2), .unset] [(.int (0 : Int32))])) _
    refine XS.istoreN X0.here hx rfl (hb hby d1_6) rfl (l' := #[.val (.ref a1), .val (.ref a2), .val (.int (0 : Int32))]) rfl ?_
    show Steps p.tables e below (s₁.setTop (mkF m 7 #[.val (.ref a1), .val (.ref a2), .val (.int (0 : Int32))] [])) _
    refine XS.iloadN X0.here hx rfl (hb hby d1_7) rfl ?_
    show Steps p.tables e below (s₁.setTop (mkF m 8 #[.val (.ref a1), .val (.ref a2), .val (.int (0 : Int32))] [(.int (0 : Int32))])) _
    refine XS.aloadN X0.here hx rfl (hb hby d1_8) rfl rfl ?_
    exact kt
  obtain ⟨cl2, Ar2, qk2, Sz2, Nn2, Hh2, Gg2⟩ := id V1
  have pre3 : ∀ t, Steps p.tables e below (s₁.setTop (mkF m 16 #[.val (.ref a1), .val (.ref a2), .val (.int (0 : Int32))] [(.int (0 : Int32)), (.ref a1), (.int (0 : Int32)), (.ref a1)])) t → Steps p.tables e below (s₁.setTop (entryFrame m #[(.ref a1), (.ref a2)] 3)) t := fun t kt => by
    refine pre1 _ ?_
    show Steps p.tables e below (s₁.setTop (mkF m 9 #[.val (.ref a1), .val (.ref a2), .val (.int (0 : Int32))] [(.ref a1), (.int (0 : Int32))])) _
    refine X0.arraylength hx (by rw [e0]; exact Ar2.1) (State.isArrayOf_alike hZ.alike Ar2.2.1) (g := (mkF m 9 #[.val (.ref a1), .val (.ref a2), .val (.int (0 : Int32))] [(.ref a1), (.int (0 : Int32))])) rfl rfl (hb hby d1_9) _ ?_
    rw [len_of Sz2 Nn2]
    show Steps p.tables e below (s₁.setTop (mkF m 10 #[.val (.ref a1), .val (.ref a2), .val (.int (0 : Int32))] [(.int (2 : Int32)), (.int (0 : Int32))])) _
    refine XS.icmpNo X0.here hx rfl (hb hby d1_10) rfl (tlt (by decide : (0 : Int32) < (2 : Int32))).2.1 ?_
    show Steps p.tables e below (s₁.setTop (mkF m 13 #[.val (.ref a1), .val (.ref a2), .val (.int (0 : Int32))] [])) _
    refine XS.aloadN X0.here hx rfl (hb hby d1_13) rfl rfl ?_
    show Steps p.tables e below (s₁.setTop (mkF m 14 #[.val (.ref a1), .val (.ref a2), .val (.int (0 : Int32))] [(.ref a1)])) _
    refine XS.iloadN X0.here hx rfl (hb hby d1_14) rfl ?_
    show Steps p.tables e below (s₁.setTop (mkF m 15 #[.val (.ref a1), .val (.ref a2), .val (.int (0 : Int32))] [(.int (0 : Int32)), (.ref a1)])) _
    jvm_step X0.here [X0.here.top, hx, (hb hby d1_15), Value.category]
    exact kt
  obtain ⟨cl4, Ar4, qk4, Sz4, Nn4, Hh4, Gg4⟩ := id V1
  have hin4 : ¬ ((0 : Int32) < 0 ∨ cl4.slots.size ≤ ((0 : Int32)).toNatClampNeg) := inb_of Sz4 ⟨by decide, by decide⟩
  have hat4 : cl4.slots[((0 : Int32)).toNatClampNeg]? = some (.long x0) := Hh4.at hin4 rfl
  have pre5 : ∀ t, Steps p.tables e below (s₁.setTop (mkF m 19 #[.val (.ref a1), .val (.ref a2), .val (.int (0 : Int32))] [(.int (0 : Int32)), (.ref a2), (.long x0), (.int (0 : Int32)), (.ref a1)])) t → Steps p.tables e below (s₁.setTop (entryFrame m #[(.ref a1), (.ref a2)] 3)) t := fun t kt => by
    refine pre3 _ ?_
    show Steps p.tables e below (s₁.setTop (mkF m 16 #[.val (.ref a1), .val (.ref a2), .val (.int (0 : Int32))] [(.int (0 : Int32)), (.ref a1), (.int (0 : Int32)), (.ref a1)])) _
    refine X0.laload hx (j := (0 : Int32)) (v := (.long x0)) (by rw [e0]; exact Ar4.1) (State.isArrayOf_alike hZ.alike Ar4.2.1) Ar4.2.2 hin4 hat4 (g := (mkF m 16 #[.val (.ref a1), .val (.ref a2), .val (.int (0 : Int32))] [(.int (0 : Int32)), (.ref a1), (.int (0 : Int32)), (.ref a1)])) rfl rfl (hb hby d1_16) _ ?_
    show Steps p.tables e below (s₁.setTop (mkF m 17 #[.val (.ref a1), .val (.ref a2), .val (.int (0 : Int32))] [(.long x0), (.int (0 : Int32)), (.ref a1)])) _
    refine XS.aloadN X0.here hx rfl (hb hby d1_17) rfl rfl ?_
    show Steps p.tables e below (s₁.setTop (mkF m 18 #[.val (.ref a1), .val (.ref a2), .val (.int (0 : Int32))] [(.ref a2), (.long x0), (.int (0 : Int32)), (.ref a1)])) _
    refine XS.iloadN X0.here hx rfl (hb hby d1_18) rfl ?_
    exact kt
  obtain ⟨cl6, Ar6, qk6, Sz6, Nn6, Hh6, Gg6⟩ := id V2
  have hin6 : ¬ ((0 : Int32) < 0 ∨ cl6.slots.size ≤ ((0 : Int32)).toNatClampNeg) := inb_of Sz6 ⟨by decide, by decide⟩
  have hat6 : cl6.slots[((0 : Int32)).toNatClampNeg]? = some (.long y0) := Hh6.at hin6 rfl
  obtain ⟨cl7, Ar7, qk7, Sz7, Nn7, Hh7, Gg7⟩ := id V1
  have hin7 : ¬ ((0 : Int32) < 0 ∨ cl7.slots.size ≤ ((0 : Int32)).toNatClampNeg) := inb_of Sz7 ⟨by decide, by decide⟩
  have pre8 : ∀ t, Steps p.tables e below (s₁.setTop (mkF m 21 #[.val (.ref a1), .val (.ref a2), .val (.int (0 : Int32))] [(.long (x0 ||| y0)), (.int (0 : Int32)), (.ref a1)])) t → Steps p.tables e below (s₁.setTop (entryFrame m #[(.ref a1), (.ref a2)] 3)) t := fun t kt => by
    refine pre5 _ ?_
    show Steps p.tables e below (s₁.setTop (mkF m 19 #[.val (.ref a1), .val (.ref a2), .val (.int (0 : Int32))] [(.int (0 : Int32)), (.ref a2), (.long x0), (.int (0 : Int32)), (.ref a1)])) _
    refine X0.laload hx (j := (0 : Int32)) (v := (.long y0)) (by rw [e0]; exact Ar6.1) (State.isArrayOf_alike hZ.alike Ar6.2.1) Ar6.2.2 hin6 hat6 (g := (mkF m 19 #[.val (.ref a1), .val (.ref a2), .val (.int (0 : Int32))] [(.int (0 : Int32)), (.ref a2), (.long x0), (.int (0 : Int32)), (.ref a1)])) rfl rfl (hb hby d1_19) _ ?_
    show Steps p.tables e below (s₁.setTop (mkF m 20 #[.val (.ref a1), .val (.ref a2), .val (.int (0 : Int32))] [(.long y0), (.long x0), (.int (0 : Int32)), (.ref a1)])) _
    refine XS.lor X0.here hx rfl (hb hby d1_20) rfl ?_
    exact kt
  obtain ⟨T9, h9, X9, e9, W9, st9⟩ := stJ X0 hx hZ e0 Ar7 (j := (0 : Int32)) hin7 (g := (mkF m 21 #[.val (.ref a1), .val (.ref a2), .val (.int (0 : Int32))] [(.long (x0 ||| y0)), (.int (0 : Int32)), (.ref a1)])) rfl rfl (hb hby d1_21)
  have V9 := Arv.set Ar7 qk7 Sz7 Nn7 Hh7 Gg7 rfl W9 0 rfl (Nat.le_of_ble_eq_true rfl)
  have V9' : Arv Z h9 a1 k1 .long (2 : Int32) [(.long (x0 ||| y0)), (.long x1)] (.long (0 : Int64)) := V9
  have N9 := Fr.snoc X9 N0 g1
  have pre10 : ∀ t, Steps p.tables e below (T9.setTop (mkF m 22 #[.val (.ref a1), .val (.ref a2), .val (.int (0 : Int32))] [])) t → Steps p.tables e below (s₁.setTop (entryFrame m #[(.ref a1), (.ref a2)] 3)) t := fun t kt => pre8 _ (st9 _ kt)
  have pre11 : ∀ t, Steps p.tables e below (T9.setTop (mkF m 9 #[.val (.ref a1), .val (.ref a2), .val (.int (1 : Int32))] [(.ref a1), (.int (1 : Int32))])) t → Steps p.tables e below (s₁.setTop (entryFrame m #[(.ref a1), (.ref a2)] 3)) t := fun t kt => by
    refine pre10 _ ?_
    show Steps p.tables e below (T9.setTop (mkF m 22 #[.val (.ref a1), .val (.ref a2), .val (.int (0 : Int32))] [])) _
    refine XS.iinc X9.here hx rfl (hb hby d1_22) rfl (l' := #[.val (.ref a1), .val (.ref a2), .val (.int ((0 : Int32) + (1 : Int32)))]) rfl ?_
    show Steps p.tables e below (T9.setTop (mkF m 25 #[.val (.ref a1), .val (.ref a2), .val (.int ((0 : Int32) + (1 : Int32)))] [])) _
    show Steps p.tables e below (T9.setTop (mkF m 25 #[.val (.ref a1), .val (.ref a2), .val (.int (1 : Int32))] [])) _
    refine XS.goto X9.here hx rfl (pc0 := 25) (pc' := 7) rfl (hb hby d1_25) (by decide) (by decide) ?_
    show Steps p.tables e below (T9.setTop (mkF m 7 #[.val (.ref a1), .val (.ref a2), .val (.int (1 : Int32))] [])) _
    refine XS.iloadN X9.here hx rfl (hb hby d1_7) rfl ?_
    show Steps p.tables e below (T9.setTop (mkF m 8 #[.val (.ref a1), .val (.ref a2), .val (.int (1 : Int32))] [(.int (1 : Int32))])) _
    refine XS.aloadN X9.here hx rfl (hb hby d1_8) rfl rfl ?_
    exact kt
  obtain ⟨cl12, Ar12, qk12, Sz12, Nn12, Hh12, Gg12⟩ := id V9'
  have pre13 : ∀ t, Steps p.tables e below (T9.setTop (mkF m 16 #[.val (.ref a1), .val (.ref a2), .val (.int (1 : Int32))] [(.int (1 : Int32)), (.ref a1), (.int (1 : Int32)), (.ref a1)])) t → Steps p.tables e below (s₁.setTop (entryFrame m #[(.ref a1), (.ref a2)] 3)) t := fun t kt => by
    refine pre11 _ ?_
    show Steps p.tables e below (T9.setTop (mkF m 9 #[.val (.ref a1), .val (.ref a2), .val (.int (1 : Int32))] [(.ref a1), (.int (1 : Int32))])) _
    refine X9.arraylength hx (by rw [e9]; exact Ar12.1) (State.isArrayOf_alike hZ.alike Ar12.2.1) (g := (mkF m 9 #[.val (.ref a1), .val (.ref a2), .val (.int (1 : Int32))] [(.ref a1), (.int (1 : Int32))])) rfl rfl (hb hby d1_9) _ ?_
    rw [len_of Sz12 Nn12]
    show Steps p.tables e below (T9.setTop (mkF m 10 #[.val (.ref a1), .val (.ref a2), .val (.int (1 : Int32))] [(.int (2 : Int32)), (.int (1 : Int32))])) _
    refine XS.icmpNo X9.here hx rfl (hb hby d1_10) rfl (tlt (by decide : (1 : Int32) < (2 : Int32))).2.1 ?_
    show Steps p.tables e below (T9.setTop (mkF m 13 #[.val (.ref a1), .val (.ref a2), .val (.int (1 : Int32))] [])) _
    refine XS.aloadN X9.here hx rfl (hb hby d1_13) rfl rfl ?_
    show Steps p.tables e below (T9.setTop (mkF m 14 #[.val (.ref a1), .val (.ref a2), .val (.int (1 : Int32))] [(.ref a1)])) _
    refine XS.iloadN X9.here hx rfl (hb hby d1_14) rfl ?_
    show Steps p.tables e below (T9.setTop (mkF m 15 #[.val (.ref a1), .val (.ref a2), .val (.int (1 : Int32))] [(.int (1 : Int32)), (.ref a1)])) _
    jvm_step X9.here [X9.here.top, hx, (hb hby d1_15), Value.category]
    exact kt
  obtain ⟨cl14, Ar14, qk14, Sz14, Nn14, Hh14, Gg14⟩ := id V9'
  have hin14 : ¬ ((1 : Int32) < 0 ∨ cl14.slots.size ≤ ((1 : Int32)).toNatClampNeg) := inb_of Sz14 ⟨by decide, by decide⟩
  have hat14 : cl14.slots[((1 : Int32)).toNatClampNeg]? = some (.long x1) := Hh14.at hin14 rfl
  have pre15 : ∀ t, Steps p.tables e below (T9.setTop (mkF m 19 #[.val (.ref a1), .val (.ref a2), .val (.int (1 : Int32))] [(.int (1 : Int32)), (.ref a2), (.long x1), (.int (1 : Int32)), (.ref a1)])) t → Steps p.tables e below (s₁.setTop (entryFrame m #[(.ref a1), (.ref a2)] 3)) t := fun t kt => by
    refine pre13 _ ?_
    show Steps p.tables e below (T9.setTop (mkF m 16 #[.val (.ref a1), .val (.ref a2), .val (.int (1 : Int32))] [(.int (1 : Int32)), (.ref a1), (.int (1 : Int32)), (.ref a1)])) _
    refine X9.laload hx (j := (1 : Int32)) (v := (.long x1)) (by rw [e9]; exact Ar14.1) (State.isArrayOf_alike hZ.alike Ar14.2.1) Ar14.2.2 hin14 hat14 (g := (mkF m 16 #[.val (.ref a1), .val (.ref a2), .val (.int (1 : Int32))] [(.int (1 : Int32)), (.ref a1), (.int (1 : Int32)), (.ref a1)])) rfl rfl (hb hby d1_16) _ ?_
    show Steps p.tables e below (T9.setTop (mkF m 17 #[.val (.ref a1), .val (.ref a2), .val (.int (1 : Int32))] [(.long x1), (.int (1 : Int32)), (.ref a1)])) _
    refine XS.aloadN X9.here hx rfl (hb hby d1_17) rfl rfl ?_
    show Steps p.tables e below (T9.setTop (mkF m 18 #[.val (.ref a1), .val (.ref a2), .val (.int (1 : Int32))] [(.ref a2), (.long x1), (.int (1 : Int32)), (.ref a1)])) _
    refine XS.iloadN X9.here hx rfl (hb hby d1_18) rfl ?_
    exact kt
  have f16 := (V2.other W9 (Ne.symm ne12))
  obtain ⟨cl17, Ar17, qk17, Sz17, Nn17, Hh17, Gg17⟩ := id f16
  have hin17 : ¬ ((1 : Int32) < 0 ∨ cl17.slots.size ≤ ((1 : Int32)).toNatClampNeg) := inb_of Sz17 ⟨by decide, by decide⟩
  have hat17 : cl17.slots[((1 : Int32)).toNatClampNeg]? = some (.long y1) := Hh17.at hin17 rfl
  obtain ⟨cl18, Ar18, qk18, Sz18, Nn18, Hh18, Gg18⟩ := id V9'
  have hin18 : ¬ ((1 : Int32) < 0 ∨ cl18.slots.size ≤ ((1 : Int32)).toNatClampNeg) := inb_of Sz18 ⟨by decide, by decide⟩
  have pre19 : ∀ t, Steps p.tables e below (T9.setTop (mkF m 21 #[.val (.ref a1), .val (.ref a2), .val (.int (1 : Int32))] [(.long (x1 ||| y1)), (.int (1 : Int32)), (.ref a1)])) t → Steps p.tables e below (s₁.setTop (entryFrame m #[(.ref a1), (.ref a2)] 3)) t := fun t kt => by
    refine pre15 _ ?_
    show Steps p.tables e below (T9.setTop (mkF m 19 #[.val (.ref a1), .val (.ref a2), .val (.int (1 : Int32))] [(.int (1 : Int32)), (.ref a2), (.long x1), (.int (1 : Int32)), (.ref a1)])) _
    refine X9.laload hx (j := (1 : Int32)) (v := (.long y1)) (by rw [e9]; exact Ar17.1) (State.isArrayOf_alike hZ.alike Ar17.2.1) Ar17.2.2 hin17 hat17 (g := (mkF m 19 #[.val (.ref a1), .val (.ref a2), .val (.int (1 : Int32))] [(.int (1 : Int32)), (.ref a2), (.long x1), (.int (1 : Int32)), (.ref a1)])) rfl rfl (hb hby d1_19) _ ?_
    show Steps p.tables e below (T9.setTop (mkF m 20 #[.val (.ref a1), .val (.ref a2), .val (.int (1 : Int32))] [(.long y1), (.long x1), (.int (1 : Int32)), (.ref a1)])) _
    refine XS.lor X9.here hx rfl (hb hby d1_20) rfl ?_
    exact kt
  obtain ⟨T20, h20, X20, e20, W20, st20⟩ := stJ X9 hx hZ e9 Ar18 (j := (1 : Int32)) hin18 (g := (mkF m 21 #[.val (.ref a1), .val (.ref a2), .val (.int (1 : Int32))] [(.long (x1 ||| y1)), (.int (1 : Int32)), (.ref a1)])) rfl rfl (hb hby d1_21)
  have V20 := Arv.set Ar18 qk18 Sz18 Nn18 Hh18 Gg18 rfl W20 1 rfl (Nat.le_of_ble_eq_true rfl)
  have V20' : Arv Z h20 a1 k1 .long (2 : Int32) [(.long (x0 ||| y0)), (.long (x1 ||| y1))] (.long (0 : Int64)) := V20
  have N20 := Fr.snoc X20 N9 g1
  have pre21 : ∀ t, Steps p.tables e below (T20.setTop (mkF m 22 #[.val (.ref a1), .val (.ref a2), .val (.int (1 : Int32))] [])) t → Steps p.tables e below (s₁.setTop (entryFrame m #[(.ref a1), (.ref a2)] 3)) t := fun t kt => pre19 _ (st20 _ kt)
  have pre22 : ∀ t, Steps p.tables e below (T20.setTop (mkF m 9 #[.val (.ref a1), .val (.ref a2), .val (.int (2 : Int32))] [(.ref a1), (.int (2 : Int32))])) t → Steps p.tables e below (s₁.setTop (entryFrame m #[(.ref a1), (.ref a2)] 3)) t := fun t kt => by
    refine pre21 _ ?_
    show Steps p.tables e below (T20.setTop (mkF m 22 #[.val (.ref a1), .val (.ref a2), .val (.int (1 : Int32))] [])) _
    refine XS.iinc X20.here hx rfl (hb hby d1_22) rfl (l' := #[.val (.ref a1), .val (.ref a2), .val (.int ((1 : Int32) + (1 : Int32)))]) rfl ?_
    show Steps p.tables e below (T20.setTop (mkF m 25 #[.val (.ref a1), .val (.ref a2), .val (.int ((1 : Int32) + (1 : Int32)))] [])) _
    show Steps p.tables e below (T20.setTop (mkF m 25 #[.val (.ref a1), .val (.ref a2), .val (.int (2 : Int32))] [])) _
    refine XS.goto X20.here hx rfl (pc0 := 25) (pc' := 7) rfl (hb hby d1_25) (by decide) (by decide) ?_
    show Steps p.tables e below (T20.setTop (mkF m 7 #[.val (.ref a1), .val (.ref a2), .val (.int (2 : Int32))] [])) _
    refine XS.iloadN X20.here hx rfl (hb hby d1_7) rfl ?_
    show Steps p.tables e below (T20.setTop (mkF m 8 #[.val (.ref a1), .val (.ref a2), .val (.int (2 : Int32))] [(.int (2 : Int32))])) _
    refine XS.aloadN X20.here hx rfl (hb hby d1_8) rfl rfl ?_
    exact kt
  obtain ⟨cl23, Ar23, qk23, Sz23, Nn23, Hh23, Gg23⟩ := id V20'
  have k24 : Keep h0 h20 [a1] := ((K0.wr W9 (Or.inl (List.mem_of_getElem? (i := 0) rfl))).wr W20 (Or.inl (List.mem_of_getElem? (i := 0) rfl)))
  have pre25 : ∀ t, Steps p.tables e below (T20.setTop (mkF m 28 #[.val (.ref a1), .val (.ref a2), .val (.int (2 : Int32))] [])) t → Steps p.tables e below (s₁.setTop (entryFrame m #[(.ref a1), (.ref a2)] 3)) t := fun t kt => by
    refine pre22 _ ?_
    show Steps p.tables e below (T20.setTop (mkF m 9 #[.val (.ref a1), .val (.ref a2), .val (.int (2 : Int32))] [(.ref a1), (.int (2 : Int32))])) _
    refine X20.arraylength hx (by rw [e20]; exact Ar23.1) (State.isArrayOf_alike hZ.alike Ar23.2.1) (g := (mkF m 9 #[.val (.ref a1), .val (.ref a2), .val (.int (2 : Int32))] [(.ref a1), (.int (2 : Int32))])) rfl rfl (hb hby d1_9) _ ?_
    rw [len_of Sz23 Nn23]
    show Steps p.tables e below (T20.setTop (mkF m 10 #[.val (.ref a1), .val (.ref a2), .val (.int (2 : Int32))] [(.int (2 : Int32)), (.int (2 : Int32))])) _
    refine XS.icmpYes X20.here hx rfl (pc0 := 10) (pc' := 28) rfl (hb hby d1_10) rfl (flt (by decide : ¬ ((2 : Int32) < (2 : Int32)))).2.1 (by decide) (by decide) ?_
    exact kt
  obtain ⟨fs, hr, hrun, hended, hW, hsame⟩ := X20.leave (v := none) (fun _ => rfl)
  refine ⟨_, _, pre25 _ ?_, hrun, hended, _, _, rfl, ?_, ⟨_, rfl⟩, hW, hsame.mono (by decide) (by decide)⟩
  · show Steps p.tables e below (T20.setTop (mkF m 28 #[.val (.ref a1), .val (.ref a2), .val (.int (2 : Int32))] [])) _
    exact X20.returnOut hx Bd.returns (hb hby d1_28) hr
  · show Q1 Z a1 a2 k1 k2 x0 x1 y0 y1 h0 n0 _ T20.heap _
    rw [e20]
    exact ⟨rfl, N20, k24, V20'⟩
theorem pn_1 : plainName "com/example/vidura/vidura/metric/CommonSubsequenceAddAllPinLaw" = true := by first | (simp [plainName, overriddenIn]; done) | decide +kernel
theorem ef_0 (m : MethodId) (q0 : Int64) (q1 : Int64) (q2 : Int64) (q3 : Int64) (p4 : Int32) : entryFrame m #[(.long q0), (.long q1), (.long q2), (.long q3), (.int p4)] maxLocals = (mkF m 0 #[.val (.long q0), .second, .val (.long q1), .second, .val (.long q2), .second, .val (.long q3), .second, .val (.int p4), .unset, .unset, .unset, .unset, .unset] []) := by first | (simp [entryFrame, mkF, argsToLocals, Value.category, maxLocals]; done) | rfl
theorem pd_0 : parseMethodDescriptor "([J[J)V" = some ⟨[(.array .long), (.array .long)], none⟩ := by decide +kernel
def Q0 (Z : State) (q0 : Int64) (q1 : Int64) (q2 : Int64) (q3 : Int64) (p4 : Int32) (h0 : Heap) (n0 : Nat) (v : Option Value) (h : Heap) (L : List Loc) : Prop := v = some (.int (1 : Int32)) ∧ Fr n0 L
set_option maxRecDepth 65536 in
set_option maxHeartbeats 40000000 in
theorem rm0 (l : Launch) (Z : State) (a0 : Array Value) (hw : ∀ d ∈ tables_1, d.before a0 Z = true) (ws : List Jvm.Cond) (q0 : Int64) (q1 : Int64) (q2 : Int64) (q3 : Int64) (p4 : Int32) (h0 : Heap) (n0 : Nat) (Z0 : n0 ≤ h0.size) :
    MetFree l x (head1 (Jvm.Cond.code x code maxLocals ret :: ws) room_1) (fun a U => a = #[(.long q0), (.long q1), (.long q2), (.long q3), (.int p4)] ∧ Z.Warmed39 U.vm ∧ U.heap = h0) (fun _ _ _ _ _ => True) (fun _ U o U' => ∃ v L, o = .returned v ∧ Q0 Z q0 q1 q2 q3 p4 h0 n0 v U'.heap L ∧ FrameEnd U o U' L room_1.cells room_1.slots) := by
  refine MetFree.of_bodySF (plainFor_of_name pn_1) hisR ?_
  intro p e s m args below meth c s₁ Bd hml0 hP hK
  obtain ⟨rfl, hZ, hh⟩ := hP
  have hx := Bd.exec
  have hby := Bd.bytes
  have hml : c.maxLocals = 14 := hml0
  have hown : s.vm.findClass "com/example/vidura/vidura/metric/CommonSubsequenceAddAllPinLaw" = some m.cls := findClass_of_methodNamed Bd.named
  have hnm := (name_of_methodNamed Bd.named Bd.method).1
  have X0 : Stand p l e room_1 s m #[(.long q0), (.long q1), (.long q2), (.long q3), (.int p4)] below meth c s₁ [] 0 0 := Stand.of_body Bd
  have e0 : s₁.heap = h0 := by rw [← hh, Bd.state]; rfl
  have N0 := Fr.nil n0
  have pre0 : ∀ t, Steps p.tables e below (s₁.setTop (mkF m 0 #[.val (.long q0), .second, .val (.long q1), .second, .val (.long q2), .second, .val (.long q3), .second, .val (.int p4), .unset, .unset, .unset, .unset, .unset] [])) t → Steps p.tables e below (s₁.setTop (entryFrame m #[(.long q0), (.long q1), (.long q2), (.long q3), (.int p4)] maxLocals)) t := fun t k => castTop (ef_0 m q0 q1 q2 q3 p4) k
  have pre1 : ∀ t, Steps p.tables e below (s₁.setTop (mkF m 4 #[.val (.long q0), .second, .val (.long q1), .second, .val (.long q2), .second, .val (.long q3), .second, .val (.int p4), .unset, .unset, .unset, .unset, .unset] [(.int (p4 &&& (1 : Int32)))])) t → Steps p.tables e below (s₁.setTop (entryFrame m #[(.long q0), (.long q1), (.long q2), (.long q3), (.int p4)] maxLocals)) t := fun t kt => by
    refine pre0 _ ?_
    show Steps p.tables e below (s₁.setTop (mkF m 0 #[.val (.long q0), .second, .val (.long q1), .second, .val (.long q2), .second, .val (.long q3), .second, .val (.int p4), .unset, .unset, .unset, .unset, .unset] [])) _
    refine XS.iload X0.here hx rfl (hb hby at_0) rfl ?_
    show Steps p.tables e below (s₁.setTop (mkF m 2 #[.val (.long q0), .second, .val (.long q1), .second, .val (.long q2), .second, .val (.long q3), .second, .val (.int p4), .unset, .unset, .unset, .unset, .unset] [(.int p4)])) _
    refine XS.iconst X0.here hx rfl (hb hby at_2) ?_
    show Steps p.tables e below (s₁.setTop (mkF m 3 #[.val (.long q0), .second, .val (.long q1), .second, .val (.long q2), .second, .val (.long q3), .second, .val (.int p4), .unset, .unset, .unset, .unset, .unset] [(.int (1 : Int32)), (.int p4)])) _
    refine XS.iand X0.here hx rfl (hb hby at_3) rfl ?_
    exact kt
  by_cases c1 : (p4 &&& (1 : Int32)) = (0 : Int32)
  · have pre2 : ∀ t, Steps p.tables e below (s₁.setTop (mkF m 15 #[.val (.long q0), .second, .val (.long q1), .second, .val (.long q2), .second, .val (.long q3), .second, .val (.int p4), .val (.int (0 : Int32)), .unset, .unset, .unset, .unset] [(.int (2 : Int32))])) t → Steps p.tables e below (s₁.setTop (entryFrame m #[(.long q0), (.long q1), (.long q2), (.long q3), (.int p4)] maxLocals)) t := fun t kt => by
      refine pre1 _ ?_
      show Steps p.tables e below (s₁.setTop (mkF m 4 #[.val (.long q0), .second, .val (.long q1), .second, .val (.long q2), .second, .val (.long q3), .second, .val (.int p4), .unset, .unset, .unset, .unset, .unset] [(.int (p4 &&& (1 : Int32)))])) _
      refine XS.ifYes X0.here hx rfl (pc0 := 4) (pc' := 11) rfl (hb hby at_4) rfl ((if0 _ _).trans (teq (c1 : (p4 &&& (1 : Int32)) = (0 : Int32))).1) (by decide) (by decide) ?_
      show Steps p.tables e below (s₁.setTop (mkF m 11 #[.val (.long q0), .second, .val (.long q1), .second, .val (.long q2), .second, .val (.long q3), .second, .val (.int p4), .unset, .unset, .unset, .unset, .unset] [])) _
      refine XS.iconst X0.here hx rfl (hb hby at_11) ?_
      show Steps p.tables e below (s₁.setTop (mkF m 12 #[.val (.long q0), .second, .val (.long q1), .second, .val (.long q2), .second, .val (.long q3), .second, .val (.int p4), .unset, .unset, .unset, .unset, .unset] [(.int (0 : Int32))])) _
      refine XS.istore X0.here hx rfl (hb hby at_12) rfl (l' := #[.val (.long q0), .second, .val (.long q1), .second, .val (.long q2), .second, .val (.long q3), .second, .val (.int p4), .val (.int (0 : Int32)), .unset, .unset, .unset, .unset]) rfl ?_
      show Steps p.tables e below (s₁.setTop (mkF m 14 #[.val (.long q0), .second, .val (.long q1), .second, .val (.long q2), .second, .val (.long q3), .second, .val (.int p4), .val (.int (0 : Int32)), .unset, .unset, .unset, .unset] [])) _
      refine XS.iconst X0.here hx rfl (hb hby at_14) ?_
      exact kt
    obtain ⟨T3, h3, k3, X3, e3, E3, A3, st3⟩ := newP X0 hx hZ (hw _ (List.mem_of_getElem? (i := 0) rfl)) e0 (g := (mkF m 15 #[.val (.long q0), .second, .val (.long q1), .second, .val (.long q2), .second, .val (.long q3), .second, .val (.int p4), .val (.int (0 : Int32)), .unset, .unset, .unset, .unset] [(.int (2 : Int32))])) rfl (hb hby at_15) rfl (by decide) (cap := 2) (by decide) (by decide) (by decide) (by decide)
    obtain ⟨b3, gq3⟩ : ∃ z, z = h0.size := ⟨_, rfl⟩
    rw [← gq3] at A3 st3
    have gg_b3 : n0 ≤ b3 := Nat.le_trans Z0 (Nat.le_of_eq gq3.symm)
    have V3 : Arv Z h3 b3 k3 .long (2 : Int32) [(.long (0 : Int64)), (.long (0 : Int64))] (.long (0 : Int64)) := (Arv.new A3 (by decide)).pad (pad_rep [] (.long (0 : Int64)) 2)
    have pre4 : ∀ t, Steps p.tables e below (T3.setTop (mkF m 17 #[.val (.long q0), .second, .val (.long q1), .second, .val (.long q2), .second, .val (.long q3), .second, .val (.int p4), .val (.int (0 : Int32)), .unset, .unset, .unset, .unset] [(.ref b3)])) t → Steps p.tables e below (s₁.setTop (entryFrame m #[(.long q0), (.long q1), (.long q2), (.long q3), (.int p4)] maxLocals)) t := fun t kt => pre2 _ (st3 _ kt)
    obtain ⟨cl5, Ar5, qk5, Sz5, Nn5, Hh5, Gg5⟩ := id V3
    have hin5 : ¬ ((0 : Int32) < 0 ∨ cl5.slots.size ≤ ((0 : Int32)).toNatClampNeg) := inb_of Sz5 ⟨by decide, by decide⟩
    have pre6 : ∀ t, Steps p.tables e below (T3.setTop (mkF m 23 #[.val (.long q0), .second, .val (.long q1), .second, .val (.long q2), .second, .val (.long q3), .second, .val (.int p4), .val (.int (0 : Int32)), .val (.ref b3), .unset, .unset, .unset] [(.long q0), (.int (0 : Int32)), (.ref b3)])) t → Steps p.tables e below (s₁.setTop (entryFrame m #[(.long q0), (.long q1), (.long q2), (.long q3), (.int p4)] maxLocals)) t := fun t kt => by
      refine pre4 _ ?_
      show Steps p.tables e below (T3.setTop (mkF m 17 #[.val (.long q0), .second, .val (.long q1), .second, .val (.long q2), .second, .val (.long q3), .second, .val (.int p4), .val (.int (0 : Int32)), .unset, .unset, .unset, .unset] [(.ref b3)])) _
      refine XS.astore X3.here hx rfl (hb hby at_17) rfl rfl (l' := #[.val (.long q0), .second, .val (.long q1), .second, .val (.long q2), .second, .val (.long q3), .second, .val (.int p4), .val (.int (0 : Int32)), .val (.ref b3), .unset, .unset, .unset]) rfl ?_
      show Steps p.tables e below (T3.setTop (mkF m 19 #[.val (.long q0), .second, .val (.long q1), .second, .val (.long q2), .second, .val (.long q3), .second, .val (.int p4), .val (.int (0 : Int32)), .val (.ref b3), .unset, .unset, .unset] [])) _
      refine XS.aload X3.here hx rfl (hb hby at_19) rfl rfl ?_
      show Steps p.tables e below (T3.setTop (mkF m 21 #[.val (.long q0), .second, .val (.long q1), .second, .val (.long q2), .second, .val (.long q3), .second, .val (.int p4), .val (.int (0 : Int32)), .val (.ref b3), .unset, .unset, .unset] [(.ref b3)])) _
      refine XS.iconst X3.here hx rfl (hb hby at_21) ?_
      show Steps p.tables e below (T3.setTop (mkF m 22 #[.val (.long q0), .second, .val (.long q1), .second, .val (.long q2), .second, .val (.long q3), .second, .val (.int p4), .val (.int (0 : Int32)), .val (.ref b3), .unset, .unset, .unset] [(.int (0 : Int32)), (.ref b3)])) _
      refine XS.lloadN X3.here hx rfl (hb hby at_22) rfl ?_
      exact kt
    obtain ⟨T7, h7, X7, e7, W7, st7⟩ := stJ X3 hx hZ e3 Ar5 (j := (0 : Int32)) hin5 (g := (mkF m 23 #[.val (.long q0), .second, .val (.long q1), .second, .val (.long q2), .second, .val (.long q3), .second, .val (.int p4), .val (.int (0 : Int32)), .val (.ref b3), .unset, .unset, .unset] [(.long q0), (.int (0 : Int32)), (.ref b3)])) rfl rfl (hb hby at_23)
    have V7 := Arv.set Ar5 qk5 Sz5 Nn5 Hh5 Gg5 rfl W7 0 rfl (Nat.le_of_ble_eq_true rfl)
    have V7' : Arv Z h7 b3 k3 .long (2 : Int32) [(.long q0), (.long (0 : Int64))] (.long (0 : Int64)) := V7
    have N7 := Fr.snoc X7 N0 gg_b3
    have pre8 : ∀ t, Steps p.tables e below (T7.setTop (mkF m 24 #[.val (.long q0), .second, .val (.long q1), .second, .val (.long q2), .second, .val (.long q3), .second, .val (.int p4), .val (.int (0 : Int32)), .val (.ref b3), .unset, .unset, .unset] [])) t → Steps p.tables e below (s₁.setTop (entryFrame m #[(.long q0), (.long q1), (.long q2), (.long q3), (.int p4)] maxLocals)) t := fun t kt => pre6 _ (st7 _ kt)
    obtain ⟨cl9, Ar9, qk9, Sz9, Nn9, Hh9, Gg9⟩ := id V7'
    have hin9 : ¬ ((1 : Int32) < 0 ∨ cl9.slots.size ≤ ((1 : Int32)).toNatClampNeg) := inb_of Sz9 ⟨by decide, by decide⟩
    have pre10 : ∀ t, Steps p.tables e below (T7.setTop (mkF m 28 #[.val (.long q0), .second, .val (.long q1), .second, .val (.long q2), .second, .val (.long q3), .second, .val (.int p4), .val (.int (0 : Int32)), .val (.ref b3), .unset, .unset, .unset] [(.long q1), (.int (1 : Int32)), (.ref b3)])) t → Steps p.tables e below (s₁.setTop (entryFrame m #[(.long q0), (.long q1), (.long q2), (.long q3), (.int p4)] maxLocals)) t := fun t kt => by
      refine pre8 _ ?_
      show Steps p.tables e below (T7.setTop (mkF m 24 #[.val (.long q0), .second, .val (.long q1), .second, .val (.long q2), .second, .val (.long q3), .second, .val (.int p4), .val (.int (0 : Int32)), .val (.ref b3), .unset, .unset, .unset] [])) _
      refine XS.aload X7.here hx rfl (hb hby at_24) rfl rfl ?_
      show Steps p.tables e below (T7.setTop (mkF m 26 #[.val (.long q0), .second, .val (.long q1), .second, .val (.long q2), .second, .val (.long q3), .second, .val (.int p4), .val (.int (0 : Int32)), .val (.ref b3), .unset, .unset, .unset] [(.ref b3)])) _
      refine XS.iconst X7.here hx rfl (hb hby at_26) ?_
      show Steps p.tables e below (T7.setTop (mkF m 27 #[.val (.long q0), .second, .val (.long q1), .second, .val (.long q2), .second, .val (.long q3), .second, .val (.int p4), .val (.int (0 : Int32)), .val (.ref b3), .unset, .unset, .unset] [(.int (1 : Int32)), (.ref b3)])) _
      refine XS.lloadN X7.here hx rfl (hb hby at_27) rfl ?_
      exact kt
    obtain ⟨T11, h11, X11, e11, W11, st11⟩ := stJ X7 hx hZ e7 Ar9 (j := (1 : Int32)) hin9 (g := (mkF m 28 #[.val (.long q0), .second, .val (.long q1), .second, .val (.long q2), .second, .val (.long q3), .second, .val (.int p4), .val (.int (0 : Int32)), .val (.ref b3), .unset, .unset, .unset] [(.long q1), (.int (1 : Int32)), (.ref b3)])) rfl rfl (hb hby at_28)
    have V11 := Arv.set Ar9 qk9 Sz9 Nn9 Hh9 Gg9 rfl W11 1 rfl (Nat.le_of_ble_eq_true rfl)
    have V11' : Arv Z h11 b3 k3 .long (2 : Int32) [(.long q0), (.long q1)] (.long (0 : Int64)) := V11
    have N11 := Fr.snoc X11 N7 gg_b3
    have pre12 : ∀ t, Steps p.tables e below (T11.setTop (mkF m 29 #[.val (.long q0), .second, .val (.long q1), .second, .val (.long q2), .second, .val (.long q3), .second, .val (.int p4), .val (.int (0 : Int32)), .val (.ref b3), .unset, .unset, .unset] [])) t → Steps p.tables e below (s₁.setTop (entryFrame m #[(.long q0), (.long q1), (.long q2), (.long q3), (.int p4)] maxLocals)) t := fun t kt => pre10 _ (st11 _ kt)
    have pre13 : ∀ t, Steps p.tables e below (T11.setTop (mkF m 30 #[.val (.long q0), .second, .val (.long q1), .second, .val (.long q2), .second, .val (.long q3), .second, .val (.int p4), .val (.int (0 : Int32)), .val (.ref b3), .unset, .unset, .unset] [(.int (2 : Int32))])) t → Steps p.tables e below (s₁.setTop (entryFrame m #[(.long q0), (.long q1), (.long q2), (.long q3), (.int p4)] maxLocals)) t := fun t kt => by
      refine pre12 _ ?_
      show Steps p.tables e below (T11.setTop (mkF m 29 #[.val (.long q0), .second, .val (.long q1), .second, .val (.long q2), .second, .val (.long q3), .second, .val (.int p4), .val (.int (0 : Int32)), .val (.ref b3), .unset, .unset, .unset] [])) _
      refine XS.iconst X11.here hx rfl (hb hby at_29) ?_
      exact kt
    obtain ⟨T14, h14, k14, X14, e14, E14, A14, st14⟩ := newP X11 hx hZ (hw _ (List.mem_of_getElem? (i := 0) rfl)) e11 (g := (mkF m 30 #[.val (.long q0), .second, .val (.long q1), .second, .val (.long q2), .second, .val (.long q3), .second, .val (.int p4), .val (.int (0 : Int32)), .val (.ref b3), .unset, .unset, .unset] [(.int (2 : Int32))])) rfl (hb hby at_30) rfl (by decide) (cap := 2) (by decide) (by decide) (by decide) (by decide)
    obtain ⟨b14, gq14⟩ : ∃ z, z = h11.size := ⟨_, rfl⟩
    rw [← gq14] at A14 st14
    have z15 : n0 ≤ h11.size := (Nat.le_trans (Nat.le_trans (Nat.le_trans Z0 E3.1) (Keep.of_wr W7).1) (Keep.of_wr W11).1)
    have gg_b14 : n0 ≤ b14 := Nat.le_trans z15 (Nat.le_of_eq gq14.symm)
    have V14 : Arv Z h14 b14 k14 .long (2 : Int32) [(.long (0 : Int64)), (.long (0 : Int64))] (.long (0 : Int64)) := (Arv.new A14 (by decide)).pad (pad_rep [] (.long (0 : Int64)) 2)
    have pre16 : ∀ t, Steps p.tables e below (T14.setTop (mkF m 32 #[.val (.long q0), .second, .val (.long q1), .second, .val (.long q2), .second, .val (.long q3), .second, .val (.int p4), .val (.int (0 : Int32)), .val (.ref b3), .unset, .unset, .unset] [(.ref b14)])) t → Steps p.tables e below (s₁.setTop (entryFrame m #[(.long q0), (.long q1), (.long q2), (.long q3), (.int p4)] maxLocals)) t := fun t kt => pre13 _ (st14 _ kt)
    obtain ⟨cl17, Ar17, qk17, Sz17, Nn17, Hh17, Gg17⟩ := id V14
    have hin17 : ¬ ((0 : Int32) < 0 ∨ cl17.slots.size ≤ ((0 : Int32)).toNatClampNeg) := inb_of Sz17 ⟨by decide, by decide⟩
    have pre18 : ∀ t, Steps p.tables e below (T14.setTop (mkF m 39 #[.val (.long q0), .second, .val (.long q1), .second, .val (.long q2), .second, .val (.long q3), .second, .val (.int p4), .val (.int (0 : Int32)), .val (.ref b3), .val (.ref b14), .unset, .unset] [(.long q2), (.int (0 : Int32)), (.ref b14)])) t → Steps p.tables e below (s₁.setTop (entryFrame m #[(.long q0), (.long q1), (.long q2), (.long q3), (.int p4)] maxLocals)) t := fun t kt => by
      refine pre16 _ ?_
      show Steps p.tables e below (T14.setTop (mkF m 32 #[.val (.long q0), .second, .val (.long q1), .second, .val (.long q2), .second, .val (.long q3), .second, .val (.int p4), .val (.int (0 : Int32)), .val (.ref b3), .unset, .unset, .unset] [(.ref b14)])) _
      refine XS.astore X14.here hx rfl (hb hby at_32) rfl rfl (l' := #[.val (.long q0), .second, .val (.long q1), .second, .val (.long q2), .second, .val (.long q3), .second, .val (.int p4), .val (.int (0 : Int32)), .val (.ref b3), .val (.ref b14), .unset, .unset]) rfl ?_
      show Steps p.tables e below (T14.setTop (mkF m 34 #[.val (.long q0), .second, .val (.long q1), .second, .val (.long q2), .second, .val (.long q3), .second, .val (.int p4), .val (.int (0 : Int32)), .val (.ref b3), .val (.ref b14), .unset, .unset] [])) _
      refine XS.aload X14.here hx rfl (hb hby at_34) rfl rfl ?_
      show Steps p.tables e below (T14.setTop (mkF m 36 #[.val (.long q0), .second, .val (.long q1), .second, .val (.long q2), .second, .val (.long q3), .second, .val (.int p4), .val (.int (0 : Int32)), .val (.ref b3), .val (.ref b14), .unset, .unset] [(.ref b14)])) _
      refine XS.iconst X14.here hx rfl (hb hby at_36) ?_
      show Steps p.tables e below (T14.setTop (mkF m 37 #[.val (.long q0), .second, .val (.long q1), .second, .val (.long q2), .second, .val (.long q3), .second, .val (.int p4), .val (.int (0 : Int32)), .val (.ref b3), .val (.ref b14), .unset, .unset] [(.int (0 : Int32)), (.ref b14)])) _
      refine XS.lload X14.here hx rfl (hb hby at_37) rfl ?_
      exact kt
    obtain ⟨T19, h19, X19, e19, W19, st19⟩ := stJ X14 hx hZ e14 Ar17 (j := (0 : Int32)) hin17 (g := (mkF m 39 #[.val (.long q0), .second, .val (.long q1), .second, .val (.long q2), .second, .val (.long q3), .second, .val (.int p4), .val (.int (0 : Int32)), .val (.ref b3), .val (.ref b14), .unset, .unset] [(.long q2), (.int (0 : Int32)), (.ref b14)])) rfl rfl (hb hby at_39)
    have V19 := Arv.set Ar17 qk17 Sz17 Nn17 Hh17 Gg17 rfl W19 0 rfl (Nat.le_of_ble_eq_true rfl)
    have V19' : Arv Z h19 b14 k14 .long (2 : Int32) [(.long q2), (.long (0 : Int64))] (.long (0 : Int64)) := V19
    have N19 := Fr.snoc X19 N11 gg_b14
    have pre20 : ∀ t, Steps p.tables e below (T19.setTop (mkF m 40 #[.val (.long q0), .second, .val (.long q1), .second, .val (.long q2), .second, .val (.long q3), .second, .val (.int p4), .val (.int (0 : Int32)), .val (.ref b3), .val (.ref b14), .unset, .unset] [])) t → Steps p.tables e below (s₁.setTop (entryFrame m #[(.long q0), (.long q1), (.long q2), (.long q3), (.int p4)] maxLocals)) t := fun t kt => pre18 _ (st19 _ kt)
    obtain ⟨cl21, Ar21, qk21, Sz21, Nn21, Hh21, Gg21⟩ := id V19'
    have hin21 : ¬ ((1 : Int32) < 0 ∨ cl21.slots.size ≤ ((1 : Int32)).toNatClampNeg) := inb_of Sz21 ⟨by decide, by decide⟩
    have pre22 : ∀ t, Steps p.tables e below (T19.setTop (mkF m 45 #[.val (.long q0), .second, .val (.long q1), .second, .val (.long q2), .second, .val (.long q3), .second, .val (.int p4), .val (.int (0 : Int32)), .val (.ref b3), .val (.ref b14), .unset, .unset] [(.long q3), (.int (1 : Int32)), (.ref b14)])) t → Steps p.tables e below (s₁.setTop (entryFrame m #[(.long q0), (.long q1), (.long q2), (.long q3), (.int p4)] maxLocals)) t := fun t kt => by
      refine pre20 _ ?_
      show Steps p.tables e below (T19.setTop (mkF m 40 #[.val (.long q0), .second, .val (.long q1), .second, .val (.long q2), .second, .val (.long q3), .second, .val (.int p4), .val (.int (0 : Int32)), .val (.ref b3), .val (.ref b14), .unset, .unset] [])) _
      refine XS.aload X19.here hx rfl (hb hby at_40) rfl rfl ?_
      show Steps p.tables e below (T19.setTop (mkF m 42 #[.val (.long q0), .second, .val (.long q1), .second, .val (.long q2), .second, .val (.long q3), .second, .val (.int p4), .val (.int (0 : Int32)), .val (.ref b3), .val (.ref b14), .unset, .unset] [(.ref b14)])) _
      refine XS.iconst X19.here hx rfl (hb hby at_42) ?_
      show Steps p.tables e below (T19.setTop (mkF m 43 #[.val (.long q0), .second, .val (.long q1), .second, .val (.long q2), .second, .val (.long q3), .second, .val (.int p4), .val (.int (0 : Int32)), .val (.ref b3), .val (.ref b14), .unset, .unset] [(.int (1 : Int32)), (.ref b14)])) _
      refine XS.lload X19.here hx rfl (hb hby at_43) rfl ?_
      exact kt
    obtain ⟨T23, h23, X23, e23, W23, st23⟩ := stJ X19 hx hZ e19 Ar21 (j := (1 : Int32)) hin21 (g := (mkF m 45 #[.val (.long q0), .second, .val (.long q1), .second, .val (.long q2), .second, .val (.long q3), .second, .val (.int p4), .val (.int (0 : Int32)), .val (.ref b3), .val (.ref b14), .unset, .unset] [(.long q3), (.int (1 : Int32)), (.ref b14)])) rfl rfl (hb hby at_45)
    have V23 := Arv.set Ar21 qk21 Sz21 Nn21 Hh21 Gg21 rfl W23 1 rfl (Nat.le_of_ble_eq_true rfl)
    have V23' : Arv Z h23 b14 k14 .long (2 : Int32) [(.long q2), (.long q3)] (.long (0 : Int64)) := V23
    have N23 := Fr.snoc X23 N19 gg_b14
    have pre24 : ∀ t, Steps p.tables e below (T23.setTop (mkF m 46 #[.val (.long q0), .second, .val (.long q1), .second, .val (.long q2), .second, .val (.long q3), .second, .val (.int p4), .val (.int (0 : Int32)), .val (.ref b3), .val (.ref b14), .unset, .unset] [])) t → Steps p.tables e below (s₁.setTop (entryFrame m #[(.long q0), (.long q1), (.long q2), (.long q3), (.int p4)] maxLocals)) t := fun t kt => pre22 _ (st23 _ kt)
    have f25 := (((V11'.ext E14).other W19 (Nat.ne_of_lt (Nat.lt_of_lt_of_le V11'.lt (Nat.le_of_eq gq14.symm)))).other W23 (Nat.ne_of_lt (Nat.lt_of_lt_of_le V11'.lt (Nat.le_of_eq gq14.symm))))
    have z26 : n0 ≤ h23.size := (Nat.le_trans (Nat.le_trans (Nat.le_trans z15 E14.1) (Keep.of_wr W19).1) (Keep.of_wr W23).1)
    have pre27 : ∀ t, Steps p.tables e below (T23.setTop (mkF m 85 #[.val (.long q0), .second, .val (.long q1), .second, .val (.long q2), .second, .val (.long q3), .second, .val (.int p4), .val (.int (0 : Int32)), .val (.ref b3), .val (.ref b14), .unset, .unset] [(.ref b14), (.ref b3)])) t → Steps p.tables e below (s₁.setTop (entryFrame m #[(.long q0), (.long q1), (.long q2), (.long q3), (.int p4)] maxLocals)) t := fun t kt => by
      refine pre24 _ ?_
      show Steps p.tables e below (T23.setTop (mkF m 46 #[.val (.long q0), .second, .val (.long q1), .second, .val (.long q2), .second, .val (.long q3), .second, .val (.int p4), .val (.int (0 : Int32)), .val (.ref b3), .val (.ref b14), .unset, .unset] [])) _
      refine XS.iload X23.here hx rfl (hb hby at_46) rfl ?_
      show Steps p.tables e below (T23.setTop (mkF m 48 #[.val (.long q0), .second, .val (.long q1), .second, .val (.long q2), .second, .val (.long q3), .second, .val (.int p4), .val (.int (0 : Int32)), .val (.ref b3), .val (.ref b14), .unset, .unset] [(.int (0 : Int32))])) _
      refine XS.ifYes X23.here hx rfl (pc0 := 48) (pc' := 81) rfl (hb hby at_48) rfl ((if0 _ _).trans (teq (by decide : (0 : Int32) = (0 : Int32))).1) (by decide) (by decide) ?_
      show Steps p.tables e below (T23.setTop (mkF m 81 #[.val (.long q0), .second, .val (.long q1), .second, .val (.long q2), .second, .val (.long q3), .second, .val (.int p4), .val (.int (0 : Int32)), .val (.ref b3), .val (.ref b14), .unset, .unset] [])) _
      refine XS.aload X23.here hx rfl (hb hby at_81) rfl rfl ?_
      show Steps p.tables e below (T23.setTop (mkF m 83 #[.val (.long q0), .second, .val (.long q1), .second, .val (.long q2), .second, .val (.long q3), .second, .val (.int p4), .val (.int (0 : Int32)), .val (.ref b3), .val (.ref b14), .unset, .unset] [(.ref b3)])) _
      refine XS.aload X23.here hx rfl (hb hby at_83) rfl rfl ?_
      exact kt
    obtain ⟨_, _, ⟨T28, L28, kc28, nc28⟩, -, X28, ⟨Lc28, hQ28, l28, y28, z28⟩, st28⟩ := Jvm.LawKit.callS X23 hx (y := (⟨"com/example/vidura/vidura/metric/CommonSubsequence", "addAll", "([J[J)V"⟩ : MethodName)) hown (mvT hZ (hw _ (List.mem_of_getElem? (i := 1) rfl))) (mvT hZ (hw _ (List.mem_of_getElem? (i := 2) rfl))) (mvT hZ (hw _ (List.mem_of_getElem? (i := 3) rfl))) (mvT hZ (hw _ (List.mem_of_getElem? (i := 4) rfl))) (by decide) (backOf (W := 0) (rm1 l Z a0 hw [] b3 b14 k3 k14 q0 q1 q2 q3 h23 n0 z26 f25 V23' (Nat.ne_of_lt (Nat.lt_of_lt_of_le V11'.lt (Nat.le_of_eq gq14.symm))) gg_b3) hZ (hw _ (List.mem_of_getElem? (i := 4) rfl)) (hw _ (List.mem_of_getElem? (i := 3) rfl)) (by decide) (by decide)) (g := (mkF m 85 #[.val (.long q0), .second, .val (.long q1), .second, .val (.long q2), .second, .val (.long q3), .second, .val (.int p4), .val (.int (0 : Int32)), .val (.ref b3), .val (.ref b14), .unset, .unset] [(.ref b14), (.ref b3)])) rfl (by rw [hml]; rfl) (argsL := [(.ref b3), (.ref b14)]) (rest := []) (lenOf pd_0 rfl) rfl (by show 2 * 0 + _ ≤ _; exact Nat.le_of_eq rfl) (hb hby at_85) (fun _ _ => ⟨rfl, e23, (by decide : 2 + 0 ≤ _), (by decide : 4 + 0 ≤ _)⟩)
    dsimp only [Pt.U, Pt.locs, Pt.cells, Pt.slots] at X28 l28 y28 z28 st28 hQ28
    subst l28 y28 z28
    obtain ⟨rfl, N28q, K28, Vn28⟩ := hQ28
    have N28 := Fr.app N23 N28q
    have pre29 : ∀ t, Steps p.tables e below (T28.setTop (mkF m 88 #[.val (.long q0), .second, .val (.long q1), .second, .val (.long q2), .second, .val (.long q3), .second, .val (.int p4), .val (.int (0 : Int32)), .val (.ref b3), .val (.ref b14), .unset, .unset] [])) t → Steps p.tables e below (s₁.setTop (entryFrame m #[(.long q0), (.long q1), (.long q2), (.long q3), (.int p4)] maxLocals)) t := fun t kt => pre27 _ (st28 _ kt)
    have pre30 : ∀ t, Steps p.tables e below (T28.setTop (mkF m 91 #[.val (.long q0), .second, .val (.long q1), .second, .val (.long q2), .second, .val (.long q3), .second, .val (.int p4), .val (.int (0 : Int32)), .val (.ref b3), .val (.ref b14), .unset, .unset] [(.int (0 : Int32)), (.ref b3)])) t → Steps p.tables e below (s₁.setTop (entryFrame m #[(.long q0), (.long q1), (.long q2), (.long q3), (.int p4)] maxLocals)) t := fun t kt => by
      refine pre29 _ ?_
      show Steps p.tables e below (T28.setTop (mkF m 88 #[.val (.long q0), .second, .val (.long q1), .second, .val (.long q2), .second, .val (.long q3), .second, .val (.int p4), .val (.int (0 : Int32)), .val (.ref b3), .val (.ref b14), .unset, .unset] [])) _
      refine XS.aload X28.here hx rfl (hb hby at_88) rfl rfl ?_
      show Steps p.tables e below (T28.setTop (mkF m 90 #[.val (.long q0), .second, .val (.long q1), .second, .val (.long q2), .second, .val (.long q3), .second, .val (.int p4), .val (.int (0 : Int32)), .val (.ref b3), .val (.ref b14), .unset, .unset] [(.ref b3)])) _
      refine XS.iconst X28.here hx rfl (hb hby at_90) ?_
      exact kt
    obtain ⟨cl31, Ar31, qk31, Sz31, Nn31, Hh31, Gg31⟩ := id Vn28
    have hin31 : ¬ ((0 : Int32) < 0 ∨ cl31.slots.size ≤ ((0 : Int32)).toNatClampNeg) := inb_of Sz31 ⟨by decide, by decide⟩
    have hat31 : cl31.slots[((0 : Int32)).toNatClampNeg]? = some (.long (q0 ||| q2)) := Hh31.at hin31 rfl
    have pre32 : ∀ t, Steps p.tables e below (T28.setTop (mkF m 103 #[.val (.long q0), .second, .val (.long q1), .second, .val (.long q2), .second, .val (.long q3), .second, .val (.int p4), .val (.int (0 : Int32)), .val (.ref b3), .val (.ref b14), .unset, .unset] [(.int (1 : Int32)), (.ref b3)])) t → Steps p.tables e below (s₁.setTop (entryFrame m #[(.long q0), (.long q1), (.long q2), (.long q3), (.int p4)] maxLocals)) t := fun t kt => by
      refine pre30 _ ?_
      show Steps p.tables e below (T28.setTop (mkF m 91 #[.val (.long q0), .second, .val (.long q1), .second, .val (.long q2), .second, .val (.long q3), .second, .val (.int p4), .val (.int (0 : Int32)), .val (.ref b3), .val (.ref b14), .unset, .unset] [(.int (0 : Int32)), (.ref b3)])) _
      refine X28.laload hx (j := (0 : Int32)) (v := (.long (q0 ||| q2))) Ar31.1 (State.isArrayOf_alike hZ.alike Ar31.2.1) Ar31.2.2 hin31 hat31 (g := (mkF m 91 #[.val (.long q0), .second, .val (.long q1), .second, .val (.long q2), .second, .val (.long q3), .second, .val (.int p4), .val (.int (0 : Int32)), .val (.ref b3), .val (.ref b14), .unset, .unset] [(.int (0 : Int32)), (.ref b3)])) rfl rfl (hb hby at_91) _ ?_
      show Steps p.tables e below (T28.setTop (mkF m 92 #[.val (.long q0), .second, .val (.long q1), .second, .val (.long q2), .second, .val (.long q3), .second, .val (.int p4), .val (.int (0 : Int32)), .val (.ref b3), .val (.ref b14), .unset, .unset] [(.long (q0 ||| q2))])) _
      refine XS.lloadN X28.here hx rfl (hb hby at_92) rfl ?_
      show Steps p.tables e below (T28.setTop (mkF m 93 #[.val (.long q0), .second, .val (.long q1), .second, .val (.long q2), .second, .val (.long q3), .second, .val (.int p4), .val (.int (0 : Int32)), .val (.ref b3), .val (.ref b14), .unset, .unset] [(.long q0), (.long (q0 ||| q2))])) _
      refine XS.lload X28.here hx rfl (hb hby at_93) rfl ?_
      show Steps p.tables e below (T28.setTop (mkF m 95 #[.val (.long q0), .second, .val (.long q1), .second, .val (.long q2), .second, .val (.long q3), .second, .val (.int p4), .val (.int (0 : Int32)), .val (.ref b3), .val (.ref b14), .unset, .unset] [(.long q2), (.long q0), (.long (q0 ||| q2))])) _
      refine XS.lor X28.here hx rfl (hb hby at_95) rfl ?_
      show Steps p.tables e below (T28.setTop (mkF m 96 #[.val (.long q0), .second, .val (.long q1), .second, .val (.long q2), .second, .val (.long q3), .second, .val (.int p4), .val (.int (0 : Int32)), .val (.ref b3), .val (.ref b14), .unset, .unset] [(.long (q0 ||| q2)), (.long (q0 ||| q2))])) _
      refine XS.lcmp X28.here hx rfl (hb hby at_96) rfl ?_
      show Steps p.tables e below (T28.setTop (mkF m 97 #[.val (.long q0), .second, .val (.long q1), .second, .val (.long q2), .second, .val (.long q3), .second, .val (.int p4), .val (.int (0 : Int32)), .val (.ref b3), .val (.ref b14), .unset, .unset] [(.int (lcmpW (q0 ||| q2) (q0 ||| q2)))])) _
      refine XS.ifNo X28.here hx rfl (hb hby at_97) rfl ((if0 _ _).trans (teq (own_cmp rfl : (lcmpW (q0 ||| q2) (q0 ||| q2)) = (0 : Int32))).2) ?_
      show Steps p.tables e below (T28.setTop (mkF m 100 #[.val (.long q0), .second, .val (.long q1), .second, .val (.long q2), .second, .val (.long q3), .second, .val (.int p4), .val (.int (0 : Int32)), .val (.ref b3), .val (.ref b14), .unset, .unset] [])) _
      refine XS.aload X28.here hx rfl (hb hby at_100) rfl rfl ?_
      show Steps p.tables e below (T28.setTop (mkF m 102 #[.val (.long q0), .second, .val (.long q1), .second, .val (.long q2), .second, .val (.long q3), .second, .val (.int p4), .val (.int (0 : Int32)), .val (.ref b3), .val (.ref b14), .unset, .unset] [(.ref b3)])) _
      refine XS.iconst X28.here hx rfl (hb hby at_102) ?_
      exact kt
    obtain ⟨cl33, Ar33, qk33, Sz33, Nn33, Hh33, Gg33⟩ := id Vn28
    have hin33 : ¬ ((1 : Int32) < 0 ∨ cl33.slots.size ≤ ((1 : Int32)).toNatClampNeg) := inb_of Sz33 ⟨by decide, by decide⟩
    have hat33 : cl33.slots[((1 : Int32)).toNatClampNeg]? = some (.long (q1 ||| q3)) := Hh33.at hin33 rfl
    have pre34 : ∀ t, Steps p.tables e below (T28.setTop (mkF m 122 #[.val (.long q0), .second, .val (.long q1), .second, .val (.long q2), .second, .val (.long q3), .second, .val (.int p4), .val (.int (0 : Int32)), .val (.ref b3), .val (.ref b14), .val (.int (1 : Int32)), .unset] [(.int (0 : Int32)), (.ref b14)])) t → Steps p.tables e below (s₁.setTop (entryFrame m #[(.long q0), (.long q1), (.long q2), (.long q3), (.int p4)] maxLocals)) t := fun t kt => by
      refine pre32 _ ?_
      show Steps p.tables e below (T28.setTop (mkF m 103 #[.val (.long q0), .second, .val (.long q1), .second, .val (.long q2), .second, .val (.long q3), .second, .val (.int p4), .val (.int (0 : Int32)), .val (.ref b3), .val (.ref b14), .unset, .unset] [(.int (1 : Int32)), (.ref b3)])) _
      refine X28.laload hx (j := (1 : Int32)) (v := (.long (q1 ||| q3))) Ar33.1 (State.isArrayOf_alike hZ.alike Ar33.2.1) Ar33.2.2 hin33 hat33 (g := (mkF m 103 #[.val (.long q0), .second, .val (.long q1), .second, .val (.long q2), .second, .val (.long q3), .second, .val (.int p4), .val (.int (0 : Int32)), .val (.ref b3), .val (.ref b14), .unset, .unset] [(.int (1 : Int32)), (.ref b3)])) rfl rfl (hb hby at_103) _ ?_
      show Steps p.tables e below (T28.setTop (mkF m 104 #[.val (.long q0), .second, .val (.long q1), .second, .val (.long q2), .second, .val (.long q3), .second, .val (.int p4), .val (.int (0 : Int32)), .val (.ref b3), .val (.ref b14), .unset, .unset] [(.long (q1 ||| q3))])) _
      refine XS.lloadN X28.here hx rfl (hb hby at_104) rfl ?_
      show Steps p.tables e below (T28.setTop (mkF m 105 #[.val (.long q0), .second, .val (.long q1), .second, .val (.long q2), .second, .val (.long q3), .second, .val (.int p4), .val (.int (0 : Int32)), .val (.ref b3), .val (.ref b14), .unset, .unset] [(.long q1), (.long (q1 ||| q3))])) _
      refine XS.lload X28.here hx rfl (hb hby at_105) rfl ?_
      show Steps p.tables e below (T28.setTop (mkF m 107 #[.val (.long q0), .second, .val (.long q1), .second, .val (.long q2), .second, .val (.long q3), .second, .val (.int p4), .val (.int (0 : Int32)), .val (.ref b3), .val (.ref b14), .unset, .unset] [(.long q3), (.long q1), (.long (q1 ||| q3))])) _
      refine XS.lor X28.here hx rfl (hb hby at_107) rfl ?_
      show Steps p.tables e below (T28.setTop (mkF m 108 #[.val (.long q0), .second, .val (.long q1), .second, .val (.long q2), .second, .val (.long q3), .second, .val (.int p4), .val (.int (0 : Int32)), .val (.ref b3), .val (.ref b14), .unset, .unset] [(.long (q1 ||| q3)), (.long (q1 ||| q3))])) _
      refine XS.lcmp X28.here hx rfl (hb hby at_108) rfl ?_
      show Steps p.tables e below (T28.setTop (mkF m 109 #[.val (.long q0), .second, .val (.long q1), .second, .val (.long q2), .second, .val (.long q3), .second, .val (.int p4), .val (.int (0 : Int32)), .val (.ref b3), .val (.ref b14), .unset, .unset] [(.int (lcmpW (q1 ||| q3) (q1 ||| q3)))])) _
      refine XS.ifNo X28.here hx rfl (hb hby at_109) rfl ((if0 _ _).trans (teq (own_cmp rfl : (lcmpW (q1 ||| q3) (q1 ||| q3)) = (0 : Int32))).2) ?_
      show Steps p.tables e below (T28.setTop (mkF m 112 #[.val (.long q0), .second, .val (.long q1), .second, .val (.long q2), .second, .val (.long q3), .second, .val (.int p4), .val (.int (0 : Int32)), .val (.ref b3), .val (.ref b14), .unset, .unset] [])) _
      refine XS.iconst X28.here hx rfl (hb hby at_112) ?_
      show Steps p.tables e below (T28.setTop (mkF m 113 #[.val (.long q0), .second, .val (.long q1), .second, .val (.long q2), .second, .val (.long q3), .second, .val (.int p4), .val (.int (0 : Int32)), .val (.ref b3), .val (.ref b14), .unset, .unset] [(.int (1 : Int32))])) _
      refine XS.goto X28.here hx rfl (pc0 := 113) (pc' := 117) rfl (hb hby at_113) (by decide) (by decide) ?_
      show Steps p.tables e below (T28.setTop (mkF m 117 #[.val (.long q0), .second, .val (.long q1), .second, .val (.long q2), .second, .val (.long q3), .second, .val (.int p4), .val (.int (0 : Int32)), .val (.ref b3), .val (.ref b14), .unset, .unset] [(.int (1 : Int32))])) _
      refine XS.istore X28.here hx rfl (hb hby at_117) rfl (l' := #[.val (.long q0), .second, .val (.long q1), .second, .val (.long q2), .second, .val (.long q3), .second, .val (.int p4), .val (.int (0 : Int32)), .val (.ref b3), .val (.ref b14), .val (.int (1 : Int32)), .unset]) rfl ?_
      show Steps p.tables e below (T28.setTop (mkF m 119 #[.val (.long q0), .second, .val (.long q1), .second, .val (.long q2), .second, .val (.long q3), .second, .val (.int p4), .val (.int (0 : Int32)), .val (.ref b3), .val (.ref b14), .val (.int (1 : Int32)), .unset] [])) _
      refine XS.aload X28.here hx rfl (hb hby at_119) rfl rfl ?_
      show Steps p.tables e below (T28.setTop (mkF m 121 #[.val (.long q0), .second, .val (.long q1), .second, .val (.long q2), .second, .val (.long q3), .second, .val (.int p4), .val (.int (0 : Int32)), .val (.ref b3), .val (.ref b14), .val (.int (1 : Int32)), .unset] [(.ref b14)])) _
      refine XS.iconst X28.here hx rfl (hb hby at_121) ?_
      exact kt
    have f35 := (V23'.keep K28 (ninS (Ne.symm (Nat.ne_of_lt (Nat.lt_of_lt_of_le V11'.lt (Nat.le_of_eq gq14.symm)))) nin0))
    obtain ⟨cl36, Ar36, qk36, Sz36, Nn36, Hh36, Gg36⟩ := id f35
    have hin36 : ¬ ((0 : Int32) < 0 ∨ cl36.slots.size ≤ ((0 : Int32)).toNatClampNeg) := inb_of Sz36 ⟨by decide, by decide⟩
    have hat36 : cl36.slots[((0 : Int32)).toNatClampNeg]? = some (.long q2) := Hh36.at hin36 rfl
    have pre37 : ∀ t, Steps p.tables e below (T28.setTop (mkF m 132 #[.val (.long q0), .second, .val (.long q1), .second, .val (.long q2), .second, .val (.long q3), .second, .val (.int p4), .val (.int (0 : Int32)), .val (.ref b3), .val (.ref b14), .val (.int (1 : Int32)), .unset] [(.int (1 : Int32)), (.ref b14)])) t → Steps p.tables e below (s₁.setTop (entryFrame m #[(.long q0), (.long q1), (.long q2), (.long q3), (.int p4)] maxLocals)) t := fun t kt => by
      refine pre34 _ ?_
      show Steps p.tables e below (T28.setTop (mkF m 122 #[.val (.long q0), .second, .val (.long q1), .second, .val (.long q2), .second, .val (.long q3), .second, .val (.int p4), .val (.int (0 : Int32)), .val (.ref b3), .val (.ref b14), .val (.int (1 : Int32)), .unset] [(.int (0 : Int32)), (.ref b14)])) _
      refine X28.laload hx (j := (0 : Int32)) (v := (.long q2)) Ar36.1 (State.isArrayOf_alike hZ.alike Ar36.2.1) Ar36.2.2 hin36 hat36 (g := (mkF m 122 #[.val (.long q0), .second, .val (.long q1), .second, .val (.long q2), .second, .val (.long q3), .second, .val (.int p4), .val (.int (0 : Int32)), .val (.ref b3), .val (.ref b14), .val (.int (1 : Int32)), .unset] [(.int (0 : Int32)), (.ref b14)])) rfl rfl (hb hby at_122) _ ?_
      show Steps p.tables e below (T28.setTop (mkF m 123 #[.val (.long q0), .second, .val (.long q1), .second, .val (.long q2), .second, .val (.long q3), .second, .val (.int p4), .val (.int (0 : Int32)), .val (.ref b3), .val (.ref b14), .val (.int (1 : Int32)), .unset] [(.long q2)])) _
      refine XS.lload X28.here hx rfl (hb hby at_123) rfl ?_
      show Steps p.tables e below (T28.setTop (mkF m 125 #[.val (.long q0), .second, .val (.long q1), .second, .val (.long q2), .second, .val (.long q3), .second, .val (.int p4), .val (.int (0 : Int32)), .val (.ref b3), .val (.ref b14), .val (.int (1 : Int32)), .unset] [(.long q2), (.long q2)])) _
      refine XS.lcmp X28.here hx rfl (hb hby at_125) rfl ?_
      show Steps p.tables e below (T28.setTop (mkF m 126 #[.val (.long q0), .second, .val (.long q1), .second, .val (.long q2), .second, .val (.long q3), .second, .val (.int p4), .val (.int (0 : Int32)), .val (.ref b3), .val (.ref b14), .val (.int (1 : Int32)), .unset] [(.int (lcmpW q2 q2))])) _
      refine XS.ifNo X28.here hx rfl (hb hby at_126) rfl ((if0 _ _).trans (teq (own_cmp rfl : (lcmpW q2 q2) = (0 : Int32))).2) ?_
      show Steps p.tables e below (T28.setTop (mkF m 129 #[.val (.long q0), .second, .val (.long q1), .second, .val (.long q2), .second, .val (.long q3), .second, .val (.int p4), .val (.int (0 : Int32)), .val (.ref b3), .val (.ref b14), .val (.int (1 : Int32)), .unset] [])) _
      refine XS.aload X28.here hx rfl (hb hby at_129) rfl rfl ?_
      show Steps p.tables e below (T28.setTop (mkF m 131 #[.val (.long q0), .second, .val (.long q1), .second, .val (.long q2), .second, .val (.long q3), .second, .val (.int p4), .val (.int (0 : Int32)), .val (.ref b3), .val (.ref b14), .val (.int (1 : Int32)), .unset] [(.ref b14)])) _
      refine XS.iconst X28.here hx rfl (hb hby at_131) ?_
      exact kt
    obtain ⟨cl38, Ar38, qk38, Sz38, Nn38, Hh38, Gg38⟩ := id f35
    have hin38 : ¬ ((1 : Int32) < 0 ∨ cl38.slots.size ≤ ((1 : Int32)).toNatClampNeg) := inb_of Sz38 ⟨by decide, by decide⟩
    have hat38 : cl38.slots[((1 : Int32)).toNatClampNeg]? = some (.long q3) := Hh38.at hin38 rfl
    have pre39 : ∀ t, Steps p.tables e below (T28.setTop (mkF m 161 #[.val (.long q0), .second, .val (.long q1), .second, .val (.long q2), .second, .val (.long q3), .second, .val (.int p4), .val (.int (0 : Int32)), .val (.ref b3), .val (.ref b14), .val (.int (1 : Int32)), .val (.int (1 : Int32))] [(.int (1 : Int32))])) t → Steps p.tables e below (s₁.setTop (entryFrame m #[(.long q0), (.long q1), (.long q2), (.long q3), (.int p4)] maxLocals)) t := fun t kt => by
      refine pre37 _ ?_
      show Steps p.tables e below (T28.setTop (mkF m 132 #[.val (.long q0), .second, .val (.long q1), .second, .val (.long q2), .second, .val (.long q3), .second, .val (.int p4), .val (.int (0 : Int32)), .val (.ref b3), .val (.ref b14), .val (.int (1 : Int32)), .unset] [(.int (1 : Int32)), (.ref b14)])) _
      refine X28.laload hx (j := (1 : Int32)) (v := (.long q3)) Ar38.1 (State.isArrayOf_alike hZ.alike Ar38.2.1) Ar38.2.2 hin38 hat38 (g := (mkF m 132 #[.val (.long q0), .second, .val (.long q1), .second, .val (.long q2), .second, .val (.long q3), .second, .val (.int p4), .val (.int (0 : Int32)), .val (.ref b3), .val (.ref b14), .val (.int (1 : Int32)), .unset] [(.int (1 : Int32)), (.ref b14)])) rfl rfl (hb hby at_132) _ ?_
      show Steps p.tables e below (T28.setTop (mkF m 133 #[.val (.long q0), .second, .val (.long q1), .second, .val (.long q2), .second, .val (.long q3), .second, .val (.int p4), .val (.int (0 : Int32)), .val (.ref b3), .val (.ref b14), .val (.int (1 : Int32)), .unset] [(.long q3)])) _
      refine XS.lload X28.here hx rfl (hb hby at_133) rfl ?_
      show Steps p.tables e below (T28.setTop (mkF m 135 #[.val (.long q0), .second, .val (.long q1), .second, .val (.long q2), .second, .val (.long q3), .second, .val (.int p4), .val (.int (0 : Int32)), .val (.ref b3), .val (.ref b14), .val (.int (1 : Int32)), .unset] [(.long q3), (.long q3)])) _
      refine XS.lcmp X28.here hx rfl (hb hby at_135) rfl ?_
      show Steps p.tables e below (T28.setTop (mkF m 136 #[.val (.long q0), .second, .val (.long q1), .second, .val (.long q2), .second, .val (.long q3), .second, .val (.int p4), .val (.int (0 : Int32)), .val (.ref b3), .val (.ref b14), .val (.int (1 : Int32)), .unset] [(.int (lcmpW q3 q3))])) _
      refine XS.ifNo X28.here hx rfl (hb hby at_136) rfl ((if0 _ _).trans (teq (own_cmp rfl : (lcmpW q3 q3) = (0 : Int32))).2) ?_
      show Steps p.tables e below (T28.setTop (mkF m 139 #[.val (.long q0), .second, .val (.long q1), .second, .val (.long q2), .second, .val (.long q3), .second, .val (.int p4), .val (.int (0 : Int32)), .val (.ref b3), .val (.ref b14), .val (.int (1 : Int32)), .unset] [])) _
      refine XS.iconst X28.here hx rfl (hb hby at_139) ?_
      show Steps p.tables e below (T28.setTop (mkF m 140 #[.val (.long q0), .second, .val (.long q1), .second, .val (.long q2), .second, .val (.long q3), .second, .val (.int p4), .val (.int (0 : Int32)), .val (.ref b3), .val (.ref b14), .val (.int (1 : Int32)), .unset] [(.int (1 : Int32))])) _
      refine XS.goto X28.here hx rfl (pc0 := 140) (pc' := 144) rfl (hb hby at_140) (by decide) (by decide) ?_
      show Steps p.tables e below (T28.setTop (mkF m 144 #[.val (.long q0), .second, .val (.long q1), .second, .val (.long q2), .second, .val (.long q3), .second, .val (.int p4), .val (.int (0 : Int32)), .val (.ref b3), .val (.ref b14), .val (.int (1 : Int32)), .unset] [(.int (1 : Int32))])) _
      refine XS.istore X28.here hx rfl (hb hby at_144) rfl (l' := #[.val (.long q0), .second, .val (.long q1), .second, .val (.long q2), .second, .val (.long q3), .second, .val (.int p4), .val (.int (0 : Int32)), .val (.ref b3), .val (.ref b14), .val (.int (1 : Int32)), .val (.int (1 : Int32))]) rfl ?_
      show Steps p.tables e below (T28.setTop (mkF m 146 #[.val (.long q0), .second, .val (.long q1), .second, .val (.long q2), .second, .val (.long q3), .second, .val (.int p4), .val (.int (0 : Int32)), .val (.ref b3), .val (.ref b14), .val (.int (1 : Int32)), .val (.int (1 : Int32))] [])) _
      refine XS.iload X28.here hx rfl (hb hby at_146) rfl ?_
      show Steps p.tables e below (T28.setTop (mkF m 148 #[.val (.long q0), .second, .val (.long q1), .second, .val (.long q2), .second, .val (.long q3), .second, .val (.int p4), .val (.int (0 : Int32)), .val (.ref b3), .val (.ref b14), .val (.int (1 : Int32)), .val (.int (1 : Int32))] [(.int (1 : Int32))])) _
      refine XS.ifNo X28.here hx rfl (hb hby at_148) rfl ((if0 _ _).trans (feq (by decide : ¬ ((1 : Int32) = (0 : Int32)))).1) ?_
      show Steps p.tables e below (T28.setTop (mkF m 151 #[.val (.long q0), .second, .val (.long q1), .second, .val (.long q2), .second, .val (.long q3), .second, .val (.int p4), .val (.int (0 : Int32)), .val (.ref b3), .val (.ref b14), .val (.int (1 : Int32)), .val (.int (1 : Int32))] [])) _
      refine XS.iload X28.here hx rfl (hb hby at_151) rfl ?_
      show Steps p.tables e below (T28.setTop (mkF m 153 #[.val (.long q0), .second, .val (.long q1), .second, .val (.long q2), .second, .val (.long q3), .second, .val (.int p4), .val (.int (0 : Int32)), .val (.ref b3), .val (.ref b14), .val (.int (1 : Int32)), .val (.int (1 : Int32))] [(.int (1 : Int32))])) _
      refine XS.ifNo X28.here hx rfl (hb hby at_153) rfl ((if0 _ _).trans (feq (by decide : ¬ ((1 : Int32) = (0 : Int32)))).1) ?_
      show Steps p.tables e below (T28.setTop (mkF m 156 #[.val (.long q0), .second, .val (.long q1), .second, .val (.long q2), .second, .val (.long q3), .second, .val (.int p4), .val (.int (0 : Int32)), .val (.ref b3), .val (.ref b14), .val (.int (1 : Int32)), .val (.int (1 : Int32))] [])) _
      refine XS.iconst X28.here hx rfl (hb hby at_156) ?_
      show Steps p.tables e below (T28.setTop (mkF m 157 #[.val (.long q0), .second, .val (.long q1), .second, .val (.long q2), .second, .val (.long q3), .second, .val (.int p4), .val (.int (0 : Int32)), .val (.ref b3), .val (.ref b14), .val (.int (1 : Int32)), .val (.int (1 : Int32))] [(.int (1 : Int32))])) _
      refine XS.goto X28.here hx rfl (pc0 := 157) (pc' := 161) rfl (hb hby at_157) (by decide) (by decide) ?_
      exact kt
    obtain ⟨fs, hr, hrun, hended, hW, hsame⟩ := X28.leave (v := (some (.int (1 : Int32)))) (fun h => by rw [Bd.returns] at h; cases h)
    refine ⟨_, _, pre39 _ ?_, hrun, hended, _, _, rfl, ?_, ⟨_, rfl⟩, hW, hsame.mono (by decide) (by decide)⟩
    · show Steps p.tables e below (T28.setTop (mkF m 161 #[.val (.long q0), .second, .val (.long q1), .second, .val (.long q2), .second, .val (.long q3), .second, .val (.int p4), .val (.int (0 : Int32)), .val (.ref b3), .val (.ref b14), .val (.int (1 : Int32)), .val (.int (1 : Int32))] [(.int (1 : Int32))])) _
      exact retN X28 hx (t := .boolean) Bd.returns (by simp) (hb hby at_161) hr
    · show Q0 Z q0 q1 q2 q3 p4 h0 n0 _ T28.heap _
      exact ⟨rfl, N28⟩
  · have pre40 : ∀ t, Steps p.tables e below (s₁.setTop (mkF m 15 #[.val (.long q0), .second, .val (.long q1), .second, .val (.long q2), .second, .val (.long q3), .second, .val (.int p4), .val (.int (1 : Int32)), .unset, .unset, .unset, .unset] [(.int (2 : Int32))])) t → Steps p.tables e below (s₁.setTop (entryFrame m #[(.long q0), (.long q1), (.long q2), (.long q3), (.int p4)] maxLocals)) t := fun t kt => by
      refine pre1 _ ?_
      show Steps p.tables e below (s₁.setTop (mkF m 4 #[.val (.long q0), .second, .val (.long q1), .second, .val (.long q2), .second, .val (.long q3), .second, .val (.int p4), .unset, .unset, .unset, .unset, .unset] [(.int (p4 &&& (1 : Int32)))])) _
      refine XS.ifNo X0.here hx rfl (hb hby at_4) rfl ((if0 _ _).trans (feq (c1 : ¬ ((p4 &&& (1 : Int32)) = (0 : Int32)))).1) ?_
      show Steps p.tables e below (s₁.setTop (mkF m 7 #[.val (.long q0), .second, .val (.long q1), .second, .val (.long q2), .second, .val (.long q3), .second, .val (.int p4), .unset, .unset, .unset, .unset, .unset] [])) _
      refine XS.iconst X0.here hx rfl (hb hby at_7) ?_
      show Steps p.tables e below (s₁.setTop (mkF m 8 #[.val (.long q0), .second, .val (.long q1), .second, .val (.long q2), .second, .val (.long q3), .second, .val (.int p4), .unset, .unset, .unset, .unset, .unset] [(.int (1 : Int32))])) _
      refine XS.goto X0.here hx rfl (pc0 := 8) (pc' := 12) rfl (hb hby at_8) (by decide) (by decide) ?_
      show Steps p.tables e below (s₁.setTop (mkF m 12 #[.val (.long q0), .second, .val (.long q1), .second, .val (.long q2), .second, .val (.long q3), .second, .val (.int p4), .unset, .unset, .unset, .unset, .unset] [(.int (1 : Int32))])) _
      refine XS.istore X0.here hx rfl (hb hby at_12) rfl (l' := #[.val (.long q0), .second, .val (.long q1), .second, .val (.long q2), .second, .val (.long q3), .second, .val (.int p4), .val (.int (1 : Int32)), .unset, .unset, .unset, .unset]) rfl ?_
      show Steps p.tables e below (s₁.setTop (mkF m 14 #[.val (.long q0), .second, .val (.long q1), .second, .val (.long q2), .second, .val (.long q3), .second, .val (.int p4), .val (.int (1 : Int32)), .unset, .unset, .unset, .unset] [])) _
      refine XS.iconst X0.here hx rfl (hb hby at_14) ?_
      exact kt
    obtain ⟨T41, h41, k41, X41, e41, E41, A41, st41⟩ := newP X0 hx hZ (hw _ (List.mem_of_getElem? (i := 0) rfl)) e0 (g := (mkF m 15 #[.val (.long q0), .second, .val (.long q1), .second, .val (.long q2), .second, .val (.long q3), .second, .val (.int p4), .val (.int (1 : Int32)), .unset, .unset, .unset, .unset] [(.int (2 : Int32))])) rfl (hb hby at_15) rfl (by decide) (cap := 2) (by decide) (by decide) (by decide) (by decide)
    obtain ⟨b41, gq41⟩ : ∃ z, z = h0.size := ⟨_, rfl⟩
    rw [← gq41] at A41 st41
    have gg_b41 : n0 ≤ b41 := Nat.le_trans Z0 (Nat.le_of_eq gq41.symm)
    have V41 : Arv Z h41 b41 k41 .long (2 : Int32) [(.long (0 : Int64)), (.long (0 : Int64))] (.long (0 : Int64)) := (Arv.new A41 (by decide)).pad (pad_rep [] (.long (0 : Int64)) 2)
    have pre42 : ∀ t, Steps p.tables e below (T41.setTop (mkF m 17 #[.val (.long q0), .second, .val (.long q1), .second, .val (.long q2), .second, .val (.long q3), .second, .val (.int p4), .val (.int (1 : Int32)), .unset, .unset, .unset, .unset] [(.ref b41)])) t → Steps p.tables e below (s₁.setTop (entryFrame m #[(.long q0), (.long q1), (.long q2), (.long q3), (.int p4)] maxLocals)) t := fun t kt => pre40 _ (st41 _ kt)
    obtain ⟨cl43, Ar43, qk43, Sz43, Nn43, Hh43, Gg43⟩ := id V41
    have hin43 : ¬ ((0 : Int32) < 0 ∨ cl43.slots.size ≤ ((0 : Int32)).toNatClampNeg) := inb_of Sz43 ⟨by decide, by decide⟩
    have pre44 : ∀ t, Steps p.tables e below (T41.setTop (mkF m 23 #[.val (.long q0), .second, .val (.long q1), .second, .val (.long q2), .second, .val (.long q3), .second, .val (.int p4), .val (.int (1 : Int32)), .val (.ref b41), .unset, .unset, .unset] [(.long q0), (.int (0 : Int32)), (.ref b41)])) t → Steps p.tables e below (s₁.setTop (entryFrame m #[(.long q0), (.long q1), (.long q2), (.long q3), (.int p4)] maxLocals)) t := fun t kt => by
      refine pre42 _ ?_
      show Steps p.tables e below (T41.setTop (mkF m 17 #[.val (.long q0), .second, .val (.long q1), .second, .val (.long q2), .second, .val (.long q3), .second, .val (.int p4), .val (.int (1 : Int32)), .unset, .unset, .unset, .unset] [(.ref b41)])) _
      refine XS.astore X41.here hx rfl (hb hby at_17) rfl rfl (l' := #[.val (.long q0), .second, .val (.long q1), .second, .val (.long q2), .second, .val (.long q3), .second, .val (.int p4), .val (.int (1 : Int32)), .val (.ref b41), .unset, .unset, .unset]) rfl ?_
      show Steps p.tables e below (T41.setTop (mkF m 19 #[.val (.long q0), .second, .val (.long q1), .second, .val (.long q2), .second, .val (.long q3), .second, .val (.int p4), .val (.int (1 : Int32)), .val (.ref b41), .unset, .unset, .unset] [])) _
      refine XS.aload X41.here hx rfl (hb hby at_19) rfl rfl ?_
      show Steps p.tables e below (T41.setTop (mkF m 21 #[.val (.long q0), .second, .val (.long q1), .second, .val (.long q2), .second, .val (.long q3), .second, .val (.int p4), .val (.int (1 : Int32)), .val (.ref b41), .unset, .unset, .unset] [(.ref b41)])) _
      refine XS.iconst X41.here hx rfl (hb hby at_21) ?_
      show Steps p.tables e below (T41.setTop (mkF m 22 #[.val (.long q0), .second, .val (.long q1), .second, .val (.long q2), .second, .val (.long q3), .second, .val (.int p4), .val (.int (1 : Int32)), .val (.ref b41), .unset, .unset, .unset] [(.int (0 : Int32)), (.ref b41)])) _
      refine XS.lloadN X41.here hx rfl (hb hby at_22) rfl ?_
      exact kt
    obtain ⟨T45, h45, X45, e45, W45, st45⟩ := stJ X41 hx hZ e41 Ar43 (j := (0 : Int32)) hin43 (g := (mkF m 23 #[.val (.long q0), .second, .val (.long q1), .second, .val (.long q2), .second, .val (.long q3), .second, .val (.int p4), .val (.int (1 : Int32)), .val (.ref b41), .unset, .unset, .unset] [(.long q0), (.int (0 : Int32)), (.ref b41)])) rfl rfl (hb hby at_23)
    have V45 := Arv.set Ar43 qk43 Sz43 Nn43 Hh43 Gg43 rfl W45 0 rfl (Nat.le_of_ble_eq_true rfl)
    have V45' : Arv Z h45 b41 k41 .long (2 : Int32) [(.long q0), (.long (0 : Int64))] (.long (0 : Int64)) := V45
    have N45 := Fr.snoc X45 N0 gg_b41
    have pre46 : ∀ t, Steps p.tables e below (T45.setTop (mkF m 24 #[.val (.long q0), .second, .val (.long q1), .second, .val (.long q2), .second, .val (.long q3), .second, .val (.int p4), .val (.int (1 : Int32)), .val (.ref b41), .unset, .unset, .unset] [])) t → Steps p.tables e below (s₁.setTop (entryFrame m #[(.long q0), (.long q1), (.long q2), (.long q3), (.int p4)] maxLocals)) t := fun t kt => pre44 _ (st45 _ kt)
    obtain ⟨cl47, Ar47, qk47, Sz47, Nn47, Hh47, Gg47⟩ := id V45'
    have hin47 : ¬ ((1 : Int32) < 0 ∨ cl47.slots.size ≤ ((1 : Int32)).toNatClampNeg) := inb_of Sz47 ⟨by decide, by decide⟩
    have pre48 : ∀ t, Steps p.tables e below (T45.setTop (mkF m 28 #[.val (.long q0), .second, .val (.long q1), .second, .val (.long q2), .second, .val (.long q3), .second, .val (.int p4), .val (.int (1 : Int32)), .val (.ref b41), .unset, .unset, .unset] [(.long q1), (.int (1 : Int32)), (.ref b41)])) t → Steps p.tables e below (s₁.setTop (entryFrame m #[(.long q0), (.long q1), (.long q2), (.long q3), (.int p4)] maxLocals)) t := fun t kt => by
      refine pre46 _ ?_
      show Steps p.tables e below (T45.setTop (mkF m 24 #[.val (.long q0), .second, .val (.long q1), .second, .val (.long q2), .second, .val (.long q3), .second, .val (.int p4), .val (.int (1 : Int32)), .val (.ref b41), .unset, .unset, .unset] [])) _
      refine XS.aload X45.here hx rfl (hb hby at_24) rfl rfl ?_
      show Steps p.tables e below (T45.setTop (mkF m 26 #[.val (.long q0), .second, .val (.long q1), .second, .val (.long q2), .second, .val (.long q3), .second, .val (.int p4), .val (.int (1 : Int32)), .val (.ref b41), .unset, .unset, .unset] [(.ref b41)])) _
      refine XS.iconst X45.here hx rfl (hb hby at_26) ?_
      show Steps p.tables e below (T45.setTop (mkF m 27 #[.val (.long q0), .second, .val (.long q1), .second, .val (.long q2), .second, .val (.long q3), .second, .val (.int p4), .val (.int (1 : Int32)), .val (.ref b41), .unset, .unset, .unset] [(.int (1 : Int32)), (.ref b41)])) _
      refine XS.lloadN X45.here hx rfl (hb hby at_27) rfl ?_
      exact kt
    obtain ⟨T49, h49, X49, e49, W49, st49⟩ := stJ X45 hx hZ e45 Ar47 (j := (1 : Int32)) hin47 (g := (mkF m 28 #[.val (.long q0), .second, .val (.long q1), .second, .val (.long q2), .second, .val (.long q3), .second, .val (.int p4), .val (.int (1 : Int32)), .val (.ref b41), .unset, .unset, .unset] [(.long q1), (.int (1 : Int32)), (.ref b41)])) rfl rfl (hb hby at_28)
    have V49 := Arv.set Ar47 qk47 Sz47 Nn47 Hh47 Gg47 rfl W49 1 rfl (Nat.le_of_ble_eq_true rfl)
    have V49' : Arv Z h49 b41 k41 .long (2 : Int32) [(.long q0), (.long q1)] (.long (0 : Int64)) := V49
    have N49 := Fr.snoc X49 N45 gg_b41
    have pre50 : ∀ t, Steps p.tables e below (T49.setTop (mkF m 29 #[.val (.long q0), .second, .val (.long q1), .second, .val (.long q2), .second, .val (.long q3), .second, .val (.int p4), .val (.int (1 : Int32)), .val (.ref b41), .unset, .unset, .unset] [])) t → Steps p.tables e below (s₁.setTop (entryFrame m #[(.long q0), (.long q1), (.long q2), (.long q3), (.int p4)] maxLocals)) t := fun t kt => pre48 _ (st49 _ kt)
    have pre51 : ∀ t, Steps p.tables e below (T49.setTop (mkF m 30 #[.val (.long q0), .second, .val (.long q1), .second, .val (.long q2), .second, .val (.long q3), .second, .val (.int p4), .val (.int (1 : Int32)), .val (.ref b41), .unset, .unset, .unset] [(.int (2 : Int32))])) t → Steps p.tables e below (s₁.setTop (entryFrame m #[(.long q0), (.long q1), (.long q2), (.long q3), (.int p4)] maxLocals)) t := fun t kt => by
      refine pre50 _ ?_
      show Steps p.tables e below (T49.setTop (mkF m 29 #[.val (.long q0), .second, .val (.long q1), .second, .val (.long q2), .second, .val (.long q3), .second, .val (.int p4), .val (.int (1 : Int32)), .val (.ref b41), .unset, .unset, .unset] [])) _
      refine XS.iconst X49.here hx rfl (hb hby at_29) ?_
      exact kt
    obtain ⟨T52, h52, k52, X52, e52, E52, A52, st52⟩ := newP X49 hx hZ (hw _ (List.mem_of_getElem? (i := 0) rfl)) e49 (g := (mkF m 30 #[.val (.long q0), .second, .val (.long q1), .second, .val (.long q2), .second, .val (.long q3), .second, .val (.int p4), .val (.int (1 : Int32)), .val (.ref b41), .unset, .unset, .unset] [(.int (2 : Int32))])) rfl (hb hby at_30) rfl (by decide) (cap := 2) (by decide) (by decide) (by decide) (by decide)
    obtain ⟨b52, gq52⟩ : ∃ z, z = h49.size := ⟨_, rfl⟩
    rw [← gq52] at A52 st52
    have z53 : n0 ≤ h49.size := (Nat.le_trans (Nat.le_trans (Nat.le_trans Z0 E41.1) (Keep.of_wr W45).1) (Keep.of_wr W49).1)
    have gg_b52 : n0 ≤ b52 := Nat.le_trans z53 (Nat.le_of_eq gq52.symm)
    have V52 : Arv Z h52 b52 k52 .long (2 : Int32) [(.long (0 : Int64)), (.long (0 : Int64))] (.long (0 : Int64)) := (Arv.new A52 (by decide)).pad (pad_rep [] (.long (0 : Int64)) 2)
    have pre54 : ∀ t, Steps p.tables e below (T52.setTop (mkF m 32 #[.val (.long q0), .second, .val (.long q1), .second, .val (.long q2), .second, .val (.long q3), .second, .val (.int p4), .val (.int (1 : Int32)), .val (.ref b41), .unset, .unset, .unset] [(.ref b52)])) t → Steps p.tables e below (s₁.setTop (entryFrame m #[(.long q0), (.long q1), (.long q2), (.long q3), (.int p4)] maxLocals)) t := fun t kt => pre51 _ (st52 _ kt)
    obtain ⟨cl55, Ar55, qk55, Sz55, Nn55, Hh55, Gg55⟩ := id V52
    have hin55 : ¬ ((0 : Int32) < 0 ∨ cl55.slots.size ≤ ((0 : Int32)).toNatClampNeg) := inb_of Sz55 ⟨by decide, by decide⟩
    have pre56 : ∀ t, Steps p.tables e below (T52.setTop (mkF m 39 #[.val (.long q0), .second, .val (.long q1), .second, .val (.long q2), .second, .val (.long q3), .second, .val (.int p4), .val (.int (1 : Int32)), .val (.ref b41), .val (.ref b52), .unset, .unset] [(.long q2), (.int (0 : Int32)), (.ref b52)])) t → Steps p.tables e below (s₁.setTop (entryFrame m #[(.long q0), (.long q1), (.long q2), (.long q3), (.int p4)] maxLocals)) t := fun t kt => by
      refine pre54 _ ?_
      show Steps p.tables e below (T52.setTop (mkF m 32 #[.val (.long q0), .second, .val (.long q1), .second, .val (.long q2), .second, .val (.long q3), .second, .val (.int p4), .val (.int (1 : Int32)), .val (.ref b41), .unset, .unset, .unset] [(.ref b52)])) _
      refine XS.astore X52.here hx rfl (hb hby at_32) rfl rfl (l' := #[.val (.long q0), .second, .val (.long q1), .second, .val (.long q2), .second, .val (.long q3), .second, .val (.int p4), .val (.int (1 : Int32)), .val (.ref b41), .val (.ref b52), .unset, .unset]) rfl ?_
      show Steps p.tables e below (T52.setTop (mkF m 34 #[.val (.long q0), .second, .val (.long q1), .second, .val (.long q2), .second, .val (.long q3), .second, .val (.int p4), .val (.int (1 : Int32)), .val (.ref b41), .val (.ref b52), .unset, .unset] [])) _
      refine XS.aload X52.here hx rfl (hb hby at_34) rfl rfl ?_
      show Steps p.tables e below (T52.setTop (mkF m 36 #[.val (.long q0), .second, .val (.long q1), .second, .val (.long q2), .second, .val (.long q3), .second, .val (.int p4), .val (.int (1 : Int32)), .val (.ref b41), .val (.ref b52), .unset, .unset] [(.ref b52)])) _
      refine XS.iconst X52.here hx rfl (hb hby at_36) ?_
      show Steps p.tables e below (T52.setTop (mkF m 37 #[.val (.long q0), .second, .val (.long q1), .second, .val (.long q2), .second, .val (.long q3), .second, .val (.int p4), .val (.int (1 : Int32)), .val (.ref b41), .val (.ref b52), .unset, .unset] [(.int (0 : Int32)), (.ref b52)])) _
      refine XS.lload X52.here hx rfl (hb hby at_37) rfl ?_
      exact kt
    obtain ⟨T57, h57, X57, e57, W57, st57⟩ := stJ X52 hx hZ e52 Ar55 (j := (0 : Int32)) hin55 (g := (mkF m 39 #[.val (.long q0), .second, .val (.long q1), .second, .val (.long q2), .second, .val (.long q3), .second, .val (.int p4), .val (.int (1 : Int32)), .val (.ref b41), .val (.ref b52), .unset, .unset] [(.long q2), (.int (0 : Int32)), (.ref b52)])) rfl rfl (hb hby at_39)
    have V57 := Arv.set Ar55 qk55 Sz55 Nn55 Hh55 Gg55 rfl W57 0 rfl (Nat.le_of_ble_eq_true rfl)
    have V57' : Arv Z h57 b52 k52 .long (2 : Int32) [(.long q2), (.long (0 : Int64))] (.long (0 : Int64)) := V57
    have N57 := Fr.snoc X57 N49 gg_b52
    have pre58 : ∀ t, Steps p.tables e below (T57.setTop (mkF m 40 #[.val (.long q0), .second, .val (.long q1), .second, .val (.long q2), .second, .val (.long q3), .second, .val (.int p4), .val (.int (1 : Int32)), .val (.ref b41), .val (.ref b52), .unset, .unset] [])) t → Steps p.tables e below (s₁.setTop (entryFrame m #[(.long q0), (.long q1), (.long q2), (.long q3), (.int p4)] maxLocals)) t := fun t kt => pre56 _ (st57 _ kt)
    obtain ⟨cl59, Ar59, qk59, Sz59, Nn59, Hh59, Gg59⟩ := id V57'
    have hin59 : ¬ ((1 : Int32) < 0 ∨ cl59.slots.size ≤ ((1 : Int32)).toNatClampNeg) := inb_of Sz59 ⟨by decide, by decide⟩
    have pre60 : ∀ t, Steps p.tables e below (T57.setTop (mkF m 45 #[.val (.long q0), .second, .val (.long q1), .second, .val (.long q2), .second, .val (.long q3), .second, .val (.int p4), .val (.int (1 : Int32)), .val (.ref b41), .val (.ref b52), .unset, .unset] [(.long q3), (.int (1 : Int32)), (.ref b52)])) t → Steps p.tables e below (s₁.setTop (entryFrame m #[(.long q0), (.long q1), (.long q2), (.long q3), (.int p4)] maxLocals)) t := fun t kt => by
      refine pre58 _ ?_
      show Steps p.tables e below (T57.setTop (mkF m 40 #[.val (.long q0), .second, .val (.long q1), .second, .val (.long q2), .second, .val (.long q3), .second, .val (.int p4), .val (.int (1 : Int32)), .val (.ref b41), .val (.ref b52), .unset, .unset] [])) _
      refine XS.aload X57.here hx rfl (hb hby at_40) rfl rfl ?_
      show Steps p.tables e below (T57.setTop (mkF m 42 #[.val (.long q0), .second, .val (.long q1), .second, .val (.long q2), .second, .val (.long q3), .second, .val (.int p4), .val (.int (1 : Int32)), .val (.ref b41), .val (.ref b52), .unset, .unset] [(.ref b52)])) _
      refine XS.iconst X57.here hx rfl (hb hby at_42) ?_
      show Steps p.tables e below (T57.setTop (mkF m 43 #[.val (.long q0), .second, .val (.long q1), .second, .val (.long q2), .second, .val (.long q3), .second, .val (.int p4), .val (.int (1 : Int32)), .val (.ref b41), .val (.ref b52), .unset, .unset] [(.int (1 : Int32)), (.ref b52)])) _
      refine XS.lload X57.here hx rfl (hb hby at_43) rfl ?_
      exact kt
    obtain ⟨T61, h61, X61, e61, W61, st61⟩ := stJ X57 hx hZ e57 Ar59 (j := (1 : Int32)) hin59 (g := (mkF m 45 #[.val (.long q0), .second, .val (.long q1), .second, .val (.long q2), .second, .val (.long q3), .second, .val (.int p4), .val (.int (1 : Int32)), .val (.ref b41), .val (.ref b52), .unset, .unset] [(.long q3), (.int (1 : Int32)), (.ref b52)])) rfl rfl (hb hby at_45)
    have V61 := Arv.set Ar59 qk59 Sz59 Nn59 Hh59 Gg59 rfl W61 1 rfl (Nat.le_of_ble_eq_true rfl)
    have V61' : Arv Z h61 b52 k52 .long (2 : Int32) [(.long q2), (.long q3)] (.long (0 : Int64)) := V61
    have N61 := Fr.snoc X61 N57 gg_b52
    have pre62 : ∀ t, Steps p.tables e below (T61.setTop (mkF m 46 #[.val (.long q0), .second, .val (.long q1), .second, .val (.long q2), .second, .val (.long q3), .second, .val (.int p4), .val (.int (1 : Int32)), .val (.ref b41), .val (.ref b52), .unset, .unset] [])) t → Steps p.tables e below (s₁.setTop (entryFrame m #[(.long q0), (.long q1), (.long q2), (.long q3), (.int p4)] maxLocals)) t := fun t kt => pre60 _ (st61 _ kt)
    have z63 : n0 ≤ h61.size := (Nat.le_trans (Nat.le_trans (Nat.le_trans z53 E52.1) (Keep.of_wr W57).1) (Keep.of_wr W61).1)
    have pre64 : ∀ t, Steps p.tables e below (T61.setTop (mkF m 54 #[.val (.long q0), .second, .val (.long q1), .second, .val (.long q2), .second, .val (.long q3), .second, .val (.int p4), .val (.int (1 : Int32)), .val (.ref b41), .val (.ref b52), .unset, .unset] [.null, (.ref b41)])) t → Steps p.tables e below (s₁.setTop (entryFrame m #[(.long q0), (.long q1), (.long q2), (.long q3), (.int p4)] maxLocals)) t := fun t kt => by
      refine pre62 _ ?_
      show Steps p.tables e below (T61.setTop (mkF m 46 #[.val (.long q0), .second, .val (.long q1), .second, .val (.long q2), .second, .val (.long q3), .second, .val (.int p4), .val (.int (1 : Int32)), .val (.ref b41), .val (.ref b52), .unset, .unset] [])) _
      refine XS.iload X61.here hx rfl (hb hby at_46) rfl ?_
      show Steps p.tables e below (T61.setTop (mkF m 48 #[.val (.long q0), .second, .val (.long q1), .second, .val (.long q2), .second, .val (.long q3), .second, .val (.int p4), .val (.int (1 : Int32)), .val (.ref b41), .val (.ref b52), .unset, .unset] [(.int (1 : Int32))])) _
      refine XS.ifNo X61.here hx rfl (hb hby at_48) rfl ((if0 _ _).trans (feq (by decide : ¬ ((1 : Int32) = (0 : Int32)))).1) ?_
      show Steps p.tables e below (T61.setTop (mkF m 51 #[.val (.long q0), .second, .val (.long q1), .second, .val (.long q2), .second, .val (.long q3), .second, .val (.int p4), .val (.int (1 : Int32)), .val (.ref b41), .val (.ref b52), .unset, .unset] [])) _
      refine XS.aload X61.here hx rfl (hb hby at_51) rfl rfl ?_
      show Steps p.tables e below (T61.setTop (mkF m 53 #[.val (.long q0), .second, .val (.long q1), .second, .val (.long q2), .second, .val (.long q3), .second, .val (.int p4), .val (.int (1 : Int32)), .val (.ref b41), .val (.ref b52), .unset, .unset] [(.ref b41)])) _
      refine XS.aconstNull X61.here hx rfl (hb hby at_53) ?_
      exact kt
    obtain ⟨_, _, ⟨T65, L65, kc65, nc65⟩, -, X65, ⟨Lc65, hQ65, l65, y65, z65⟩, st65⟩ := Jvm.LawKit.callS X61 hx (y := (⟨"com/example/vidura/vidura/metric/CommonSubsequence", "addAll", "([J[J)V"⟩ : MethodName)) hown (mvT hZ (hw _ (List.mem_of_getElem? (i := 1) rfl))) (mvT hZ (hw _ (List.mem_of_getElem? (i := 2) rfl))) (mvT hZ (hw _ (List.mem_of_getElem? (i := 3) rfl))) (mvT hZ (hw _ (List.mem_of_getElem? (i := 4) rfl))) (by decide) (backOf (W := 0) (rm1n l Z a0 hw [] b41 h61 n0 z63) hZ (hw _ (List.mem_of_getElem? (i := 4) rfl)) (hw _ (List.mem_of_getElem? (i := 3) rfl)) (by decide) (by decide)) (g := (mkF m 54 #[.val (.long q0), .second, .val (.long q1), .second, .val (.long q2), .second, .val (.long q3), .second, .val (.int p4), .val (.int (1 : Int32)), .val (.ref b41), .val (.ref b52), .unset, .unset] [.null, (.ref b41)])) rfl (by rw [hml]; rfl) (argsL := [(.ref b41), .null]) (rest := []) (lenOf pd_0 rfl) rfl (by show 2 * 0 + _ ≤ _; exact Nat.le_of_eq rfl) (hb hby at_54) (fun _ _ => ⟨rfl, e61, (by decide : 2 + 0 ≤ _), (by decide : 4 + 0 ≤ _)⟩)
    dsimp only [Pt.U, Pt.locs, Pt.cells, Pt.slots] at X65 l65 y65 z65 st65 hQ65
    subst l65 y65 z65
    obtain ⟨rfl, N65q, he65⟩ := hQ65
    have N65 := Fr.app N61 N65q
    have pre66 : ∀ t, Steps p.tables e below (T65.setTop (mkF m 57 #[.val (.long q0), .second, .val (.long q1), .second, .val (.long q2), .second, .val (.long q3), .second, .val (.int p4), .val (.int (1 : Int32)), .val (.ref b41), .val (.ref b52), .unset, .unset] [])) t → Steps p.tables e below (s₁.setTop (entryFrame m #[(.long q0), (.long q1), (.long q2), (.long q3), (.int p4)] maxLocals)) t := fun t kt => pre64 _ (st65 _ kt)
    have pre67 : ∀ t, Steps p.tables e below (T65.setTop (mkF m 60 #[.val (.long q0), .second, .val (.long q1), .second, .val (.long q2), .second, .val (.long q3), .second, .val (.int p4), .val (.int (1 : Int32)), .val (.ref b41), .val (.ref b52), .unset, .unset] [(.int (0 : Int32)), (.ref b41)])) t → Steps p.tables e below (s₁.setTop (entryFrame m #[(.long q0), (.long q1), (.long q2), (.long q3), (.int p4)] maxLocals)) t := fun t kt => by
      refine pre66 _ ?_
      show Steps p.tables e below (T65.setTop (mkF m 57 #[.val (.long q0), .second, .val (.long q1), .second, .val (.long q2), .second, .val (.long q3), .second, .val (.int p4), .val (.int (1 : Int32)), .val (.ref b41), .val (.ref b52), .unset, .unset] [])) _
      refine XS.aload X65.here hx rfl (hb hby at_57) rfl rfl ?_
      show Steps p.tables e below (T65.setTop (mkF m 59 #[.val (.long q0), .second, .val (.long q1), .second, .val (.long q2), .second, .val (.long q3), .second, .val (.int p4), .val (.int (1 : Int32)), .val (.ref b41), .val (.ref b52), .unset, .unset] [(.ref b41)])) _
      refine XS.iconst X65.here hx rfl (hb hby at_59) ?_
      exact kt
    have f68 := (((V49'.ext E52).other W57 (Nat.ne_of_lt (Nat.lt_of_lt_of_le V49'.lt (Nat.le_of_eq gq52.symm)))).other W61 (Nat.ne_of_lt (Nat.lt_of_lt_of_le V49'.lt (Nat.le_of_eq gq52.symm))))
    obtain ⟨cl69, Ar69, qk69, Sz69, Nn69, Hh69, Gg69⟩ := id f68
    have hin69 : ¬ ((0 : Int32) < 0 ∨ cl69.slots.size ≤ ((0 : Int32)).toNatClampNeg) := inb_of Sz69 ⟨by decide, by decide⟩
    have hat69 : cl69.slots[((0 : Int32)).toNatClampNeg]? = some (.long q0) := Hh69.at hin69 rfl
    have pre70 : ∀ t, Steps p.tables e below (T65.setTop (mkF m 69 #[.val (.long q0), .second, .val (.long q1), .second, .val (.long q2), .second, .val (.long q3), .second, .val (.int p4), .val (.int (1 : Int32)), .val (.ref b41), .val (.ref b52), .unset, .unset] [(.int (1 : Int32)), (.ref b41)])) t → Steps p.tables e below (s₁.setTop (entryFrame m #[(.long q0), (.long q1), (.long q2), (.long q3), (.int p4)] maxLocals)) t := fun t kt => by
      refine pre67 _ ?_
      show Steps p.tables e below (T65.setTop (mkF m 60 #[.val (.long q0), .second, .val (.long q1), .second, .val (.long q2), .second, .val (.long q3), .second, .val (.int p4), .val (.int (1 : Int32)), .val (.ref b41), .val (.ref b52), .unset, .unset] [(.int (0 : Int32)), (.ref b41)])) _
      refine X65.laload hx (j := (0 : Int32)) (v := (.long q0)) (by rw [he65]; exact Ar69.1) (State.isArrayOf_alike hZ.alike Ar69.2.1) Ar69.2.2 hin69 hat69 (g := (mkF m 60 #[.val (.long q0), .second, .val (.long q1), .second, .val (.long q2), .second, .val (.long q3), .second, .val (.int p4), .val (.int (1 : Int32)), .val (.ref b41), .val (.ref b52), .unset, .unset] [(.int (0 : Int32)), (.ref b41)])) rfl rfl (hb hby at_60) _ ?_
      show Steps p.tables e below (T65.setTop (mkF m 61 #[.val (.long q0), .second, .val (.long q1), .second, .val (.long q2), .second, .val (.long q3), .second, .val (.int p4), .val (.int (1 : Int32)), .val (.ref b41), .val (.ref b52), .unset, .unset] [(.long q0)])) _
      refine XS.lloadN X65.here hx rfl (hb hby at_61) rfl ?_
      show Steps p.tables e below (T65.setTop (mkF m 62 #[.val (.long q0), .second, .val (.long q1), .second, .val (.long q2), .second, .val (.long q3), .second, .val (.int p4), .val (.int (1 : Int32)), .val (.ref b41), .val (.ref b52), .unset, .unset] [(.long q0), (.long q0)])) _
      refine XS.lcmp X65.here hx rfl (hb hby at_62) rfl ?_
      show Steps p.tables e below (T65.setTop (mkF m 63 #[.val (.long q0), .second, .val (.long q1), .second, .val (.long q2), .second, .val (.long q3), .second, .val (.int p4), .val (.int (1 : Int32)), .val (.ref b41), .val (.ref b52), .unset, .unset] [(.int (lcmpW q0 q0))])) _
      refine XS.ifNo X65.here hx rfl (hb hby at_63) rfl ((if0 _ _).trans (teq (own_cmp rfl : (lcmpW q0 q0) = (0 : Int32))).2) ?_
      show Steps p.tables e below (T65.setTop (mkF m 66 #[.val (.long q0), .second, .val (.long q1), .second, .val (.long q2), .second, .val (.long q3), .second, .val (.int p4), .val (.int (1 : Int32)), .val (.ref b41), .val (.ref b52), .unset, .unset] [])) _
      refine XS.aload X65.here hx rfl (hb hby at_66) rfl rfl ?_
      show Steps p.tables e below (T65.setTop (mkF m 68 #[.val (.long q0), .second, .val (.long q1), .second, .val (.long q2), .second, .val (.long q3), .second, .val (.int p4), .val (.int (1 : Int32)), .val (.ref b41), .val (.ref b52), .unset, .unset] [(.ref b41)])) _
      refine XS.iconst X65.here hx rfl (hb hby at_68) ?_
      exact kt
    obtain ⟨cl71, Ar71, qk71, Sz71, Nn71, Hh71, Gg71⟩ := id f68
    have hin71 : ¬ ((1 : Int32) < 0 ∨ cl71.slots.size ≤ ((1 : Int32)).toNatClampNeg) := inb_of Sz71 ⟨by decide, by decide⟩
    have hat71 : cl71.slots[((1 : Int32)).toNatClampNeg]? = some (.long q1) := Hh71.at hin71 rfl
    have pre72 : ∀ t, Steps p.tables e below (T65.setTop (mkF m 80 #[.val (.long q0), .second, .val (.long q1), .second, .val (.long q2), .second, .val (.long q3), .second, .val (.int p4), .val (.int (1 : Int32)), .val (.ref b41), .val (.ref b52), .unset, .unset] [(.int (1 : Int32))])) t → Steps p.tables e below (s₁.setTop (entryFrame m #[(.long q0), (.long q1), (.long q2), (.long q3), (.int p4)] maxLocals)) t := fun t kt => by
      refine pre70 _ ?_
      show Steps p.tables e below (T65.setTop (mkF m 69 #[.val (.long q0), .second, .val (.long q1), .second, .val (.long q2), .second, .val (.long q3), .second, .val (.int p4), .val (.int (1 : Int32)), .val (.ref b41), .val (.ref b52), .unset, .unset] [(.int (1 : Int32)), (.ref b41)])) _
      refine X65.laload hx (j := (1 : Int32)) (v := (.long q1)) (by rw [he65]; exact Ar71.1) (State.isArrayOf_alike hZ.alike Ar71.2.1) Ar71.2.2 hin71 hat71 (g := (mkF m 69 #[.val (.long q0), .second, .val (.long q1), .second, .val (.long q2), .second, .val (.long q3), .second, .val (.int p4), .val (.int (1 : Int32)), .val (.ref b41), .val (.ref b52), .unset, .unset] [(.int (1 : Int32)), (.ref b41)])) rfl rfl (hb hby at_69) _ ?_
      show Steps p.tables e below (T65.setTop (mkF m 70 #[.val (.long q0), .second, .val (.long q1), .second, .val (.long q2), .second, .val (.long q3), .second, .val (.int p4), .val (.int (1 : Int32)), .val (.ref b41), .val (.ref b52), .unset, .unset] [(.long q1)])) _
      refine XS.lloadN X65.here hx rfl (hb hby at_70) rfl ?_
      show Steps p.tables e below (T65.setTop (mkF m 71 #[.val (.long q0), .second, .val (.long q1), .second, .val (.long q2), .second, .val (.long q3), .second, .val (.int p4), .val (.int (1 : Int32)), .val (.ref b41), .val (.ref b52), .unset, .unset] [(.long q1), (.long q1)])) _
      refine XS.lcmp X65.here hx rfl (hb hby at_71) rfl ?_
      show Steps p.tables e below (T65.setTop (mkF m 72 #[.val (.long q0), .second, .val (.long q1), .second, .val (.long q2), .second, .val (.long q3), .second, .val (.int p4), .val (.int (1 : Int32)), .val (.ref b41), .val (.ref b52), .unset, .unset] [(.int (lcmpW q1 q1))])) _
      refine XS.ifNo X65.here hx rfl (hb hby at_72) rfl ((if0 _ _).trans (teq (own_cmp rfl : (lcmpW q1 q1) = (0 : Int32))).2) ?_
      show Steps p.tables e below (T65.setTop (mkF m 75 #[.val (.long q0), .second, .val (.long q1), .second, .val (.long q2), .second, .val (.long q3), .second, .val (.int p4), .val (.int (1 : Int32)), .val (.ref b41), .val (.ref b52), .unset, .unset] [])) _
      refine XS.iconst X65.here hx rfl (hb hby at_75) ?_
      show Steps p.tables e below (T65.setTop (mkF m 76 #[.val (.long q0), .second, .val (.long q1), .second, .val (.long q2), .second, .val (.long q3), .second, .val (.int p4), .val (.int (1 : Int32)), .val (.ref b41), .val (.ref b52), .unset, .unset] [(.int (1 : Int32))])) _
      refine XS.goto X65.here hx rfl (pc0 := 76) (pc' := 80) rfl (hb hby at_76) (by decide) (by decide) ?_
      exact kt
    obtain ⟨fs, hr, hrun, hended, hW, hsame⟩ := X65.leave (v := (some (.int (1 : Int32)))) (fun h => by rw [Bd.returns] at h; cases h)
    refine ⟨_, _, pre72 _ ?_, hrun, hended, _, _, rfl, ?_, ⟨_, rfl⟩, hW, hsame.mono (by decide) (by decide)⟩
    · show Steps p.tables e below (T65.setTop (mkF m 80 #[.val (.long q0), .second, .val (.long q1), .second, .val (.long q2), .second, .val (.long q3), .second, .val (.int p4), .val (.int (1 : Int32)), .val (.ref b41), .val (.ref b52), .unset, .unset] [(.int (1 : Int32))])) _
      exact retN X65 hx (t := .boolean) Bd.returns (by simp) (hb hby at_80) hr
    · show Q0 Z q0 q1 q2 q3 p4 h0 n0 _ T65.heap _
      rw [he65]
      exact ⟨rfl, N65⟩
set_option maxRecDepth 65536 in
set_option maxHeartbeats 40000000 in
theorem comes_1 {Post : Tables → Env → Array Value → State → Outcome → State → Prop} (hpost : ∀ tb e args s v u, (limb_1_1.after args s (.returned v) u = true ∧ limb_1_2.after args s (.returned v) u = true ∧ True) → FrameEnd s (.returned v) u (Jvm.fieldLocs frame_1_writes args s ++ Jvm.arrayLocs frame_1_arrays args s ++ Jvm.staticLocs frame_1_statics s) 16 128 → Post tb e args s (.returned v) u) :
    ArmFor flags0 classFile x code maxLocals ret World_1 tables_1 room_1 Calls_1 rest_1 Pre_1 Post := by
  intro l hfl _ _ p e ha hc hk s m args below hf hA hF happ hP
  obtain ⟨hcalls, hrest, hpre⟩ := hP
  obtain ⟨-, -, -, hnamed, -, -, -, hat⟩ := (Spec.applies_iff hf).mp happ
  obtain ⟨hg, hn⟩ := and_e (Cond.before_iff.mp (show (Jvm.Cond.and given_1 narrow_1).before args s = true from hpre))
  obtain ⟨gc, g0⟩ := and_e hg
  obtain ⟨gg0, g1⟩ := and_e g0
  obtain ⟨gg1, g2⟩ := and_e g1
  obtain ⟨gg2, g3⟩ := and_e g2
  obtain ⟨gg3, g4⟩ := and_e g3
  obtain ⟨w0, w1, w2, w3, w4, rfl⟩ : ∃ w0 w1 w2 w3 w4 : Value, args = #[w0, w1, w2, w3, w4] := by
    have hs : args.size = 5 := by simpa [Cond.value, given_1] using gc
    obtain ⟨L⟩ := args
    match L, hs with
    | [w0, w1, w2, w3, w4], _ => exact ⟨w0, w1, w2, w3, w4, rfl⟩
  have hw := fun d (hd : d ∈ tables_1) => atoms_spec (ws := Jvm.Cond.code x code maxLocals ret :: tables_1) hat d (List.mem_cons_of_mem _ hd)
  have hfit : Fit s := fun {y c} hc i hi => by
    obtain ⟨ha, rfl⟩ := Array.getElem?_eq_some_iff.mp hc
    have q := List.all_eq_true.mp ((Array.all_eq_true_iff_forall_mem.mp hF) _ (Array.getElem_mem ha)) i (List.mem_range.mpr hi)
    simpa [Array.getElem?_eq_getElem hi] using q
  obtain ⟨i0, ei0⟩ := isL_v gg0
  obtain rfl : w0 = (.long i0) := Option.some.inj ei0
  obtain ⟨i1, ei1⟩ := isL_v gg1
  obtain rfl : w1 = (.long i1) := Option.some.inj ei1
  obtain ⟨i2, ei2⟩ := isL_v gg2
  obtain rfl : w2 = (.long i2) := Option.some.inj ei2
  obtain ⟨i3, ei3⟩ := isL_v gg3
  obtain rfl : w3 = (.long i3) := Option.some.inj ei3
  obtain ⟨i4, ei4⟩ := is_v g4
  obtain rfl : w4 = (.int i4) := Option.some.inj ei4
  obtain ⟨n, o, h1, h2, h3, _, L, rfl, ⟨rfl, N⟩, hq⟩ := rm0 l s _ hw tables_1 i0 i1 i2 i3 i4  s.heap s.heap.size (Nat.le_refl _)  p e ha hc hk s m _ below hf ((Spec.applies_iff_loose hf).mp happ).1 ⟨rfl, State.Warmed39.refl s, rfl⟩ trivial
  refine ⟨n, _, h1, h2, h3, hpost _ _ _ _ _ _ ⟨Cond.after_iff.mpr rfl, Cond.after_iff.mpr (eq_i res_at (Term.int_eval (1)) rfl), trivial⟩ ⟨hq.1, hq.2.1, (hq.2.2.sift fun y hy => Or.inr (N y hy)).mono (by decide) (by decide)⟩⟩
theorem main_1_1 : Claimed_1_1 := comes_1 fun _ _ _ _ _ _ h hF => ⟨h.1, hF⟩
theorem main_1_2 : Claimed_1_2 := comes_1 fun _ _ _ _ _ _ h hF => ⟨h.2.1, hF⟩
end Jvm.Pilot.@@N@@
namespace Jvm.Pilot.@@N@@
open Jvm Jvm.ClassFile Sem Op Lib Jvm.Free Jvm.Stand Jvm.Pilot.@@N@@.Jvm.D
/-! MADE BY PROGRAM (witnessworld.py) out of the Statement's table words and the real class files: 11 classes; the members and pool entries that the words name. The judged class is class 1, her method 1. -/
namespace start1
open Jvm.ClassFile
def u (s : String) : CpInfo := .utf8 (stringToUtf16 s)
/-- a pool by its gaps: so many unusable entries, then the entry; so many at the end -/
def gap : Nat → List CpInfo → List CpInfo
  | 0, r => r
  | n + 1, r => .unusable :: gap n r
def poolList (es : List (Nat × CpInfo)) (last : Nat) : List CpInfo := es.foldr (fun e r => gap e.1 (e.2 :: r)) (gap last [])
def pool (es : List (Nat × CpInfo)) (last : Nat) : Array CpInfo := ⟨poolList es last⟩
def fileOf (pool : Array CpInfo) (this : Nat) (attrs : Array Attribute := #[]) (ms : Array MethodInfo := #[]) (fl : Nat := 33) (sup : Nat := 0) (ifs : Array Nat := #[]) (fds : Array FieldInfo := #[]) : ClassFile where
  minorVersion := 0
  majorVersion := 65
  constantPool := pool
  accessFlags := fl
  thisClass := this
  superClass := sup
  interfaces := ifs
  fields := fds
  methods := ms
  attributes := attrs
def plain (name : String) (sup : Option ClassId) : Class where
  name := name
  kind := .ordinary
  loader := none
  accessFlags := 33
  super := sup
  interfaces := #[]
  cf := none
  fields := #[]
  methods := #[]
  instanceTypes := #[]
  staticTypes := #[]
  resolved := #[]
  callSites := []
  init := .initialized
  statics := none
  mirror := none

def pool0 : Array CpInfo := pool [(5, u "<init>"), (0, u "()V"), (1, .class_ 10), (1, u "java/lang/Object")] 113

def k0m0 : Method := { name := "<init>", desc := "()V", sig := { parameters := [], returnType := none }, accessFlags := 1, code := none }
/-- java/lang/Object -/
def k0 : Class := { plain "java/lang/Object" none with
  accessFlags := 33
  interfaces := #[]
  cf := some (fileOf pool0 8 #[] #[{ accessFlags := 1, nameIndex := 5, descriptorIndex := 6, attributes := #[] }] 33 0 #[] #[])
  fields := #[]
  methods := #[k0m0]
  instanceTypes := #[]
  staticTypes := #[]
  resolved := Array.replicate 124 none
  statics := none }

def pool1 : Array CpInfo := pool [(2, .class_ 4), (1, u "java/lang/Object"), (0, u "<init>"), (0, u "()V"), (0, .methodref 8 9), (0, .class_ 10), (0, .nameAndType 11 12), (0, u "com/example/vidura/vidura/metric/CommonSubsequence"), (0, u "addAll"), (0, u "([J[J)V"), (0, .class_ 14), (0, u "com/example/vidura/vidura/metric/CommonSubsequenceAddAllPinLaw"), (2, u "law"), (0, u "(JJJJI)Z")] 5

def k1m0 : Method := { name := "<init>", desc := "()V", sig := { parameters := [], returnType := none }, accessFlags := 2, code := none }
def k1c1 : Code := { maxStack := 6, maxLocals := 14, code := code, exceptionTable := #[], attributes := #[] }
def k1m1 : Method := { name := "law", desc := "(JJJJI)Z", sig := { parameters := [.long, .long, .long, .long, .int], returnType := some .boolean }, accessFlags := 9, code := some k1c1 }
/-- com/example/vidura/vidura/metric/CommonSubsequenceAddAllPinLaw -/
def k1 : Class := { plain "com/example/vidura/vidura/metric/CommonSubsequenceAddAllPinLaw" (some 0) with
  accessFlags := 49
  interfaces := #[]
  cf := some (fileOf pool1 13 #[] #[{ accessFlags := 2, nameIndex := 5, descriptorIndex := 6, attributes := #[] }, { accessFlags := 9, nameIndex := 17, descriptorIndex := 18, attributes := #[] }] 49 2 #[] #[])
  fields := #[]
  methods := #[k1m0, k1m1]
  instanceTypes := #[]
  staticTypes := #[]
  resolved := Array.replicate 24 none
  statics := none }

def pool2 : Array CpInfo := pool [(2, .class_ 4), (1, u "java/lang/Object"), (0, u "<init>"), (0, u "()V"), (1, .class_ 10), (1, u "com/example/vidura/vidura/metric/CommonSubsequence"), (91, u "addAll"), (0, u "([J[J)V")] 73

def k2m0 : Method := { name := "<init>", desc := "()V", sig := { parameters := [], returnType := none }, accessFlags := 2, code := none }
def k2c1 : Code := { maxStack := 6, maxLocals := 3, code := prog_48_method_10_code, exceptionTable := #[], attributes := #[] }
def k2m1 : Method := { name := "addAll", desc := "([J[J)V", sig := { parameters := [(.array .long), (.array .long)], returnType := none }, accessFlags := 8, code := some k2c1 }
/-- com/example/vidura/vidura/metric/CommonSubsequence -/
def k2 : Class := { plain "com/example/vidura/vidura/metric/CommonSubsequence" (some 0) with
  accessFlags := 48
  interfaces := #[]
  cf := some (fileOf pool2 8 #[] #[{ accessFlags := 2, nameIndex := 5, descriptorIndex := 6, attributes := #[] }, { accessFlags := 8, nameIndex := 102, descriptorIndex := 103, attributes := #[] }] 48 2 #[] #[])
  fields := #[]
  methods := #[k2m0, k2m1]
  instanceTypes := #[]
  staticTypes := #[]
  resolved := Array.replicate 177 none
  statics := none }

def pool3 : Array CpInfo := pool [(1, u "java/lang/Cloneable"), (0, .class_ 1), (0, u "java/lang/Object"), (0, .class_ 3)] 3

/-- java/lang/Cloneable -/
def k3 : Class := { plain "java/lang/Cloneable" (some 0) with
  accessFlags := 1537
  interfaces := #[]
  cf := some (fileOf pool3 2 #[] #[] 1537 4 #[] #[])
  fields := #[]
  methods := #[]
  instanceTypes := #[]
  staticTypes := #[]
  resolved := Array.replicate 8 none
  statics := none }

def pool4 : Array CpInfo := pool [(1, u "java/io/Serializable"), (0, .class_ 1), (0, u "java/lang/Object"), (0, .class_ 3)] 3

/-- java/io/Serializable -/
def k4 : Class := { plain "java/io/Serializable" (some 0) with
  accessFlags := 1537
  interfaces := #[]
  cf := some (fileOf pool4 2 #[] #[] 1537 4 #[] #[])
  fields := #[]
  methods := #[]
  instanceTypes := #[]
  staticTypes := #[]
  resolved := Array.replicate 8 none
  statics := none }

/-- the primitive byte -/
def k5 : Class := { plain "byte" none with kind := .primitive 'B', accessFlags := 0x411 }
/-- [B -/
def k6 : Class := { plain "[B" (some 0) with kind := .array 5 .byte, interfaces := #[3, 4], accessFlags := 1041 }

/-- the primitive int -/
def k7 : Class := { plain "int" none with kind := .primitive 'I', accessFlags := 0x411 }
/-- [I -/
def k8 : Class := { plain "[I" (some 0) with kind := .array 7 .int, interfaces := #[3, 4], accessFlags := 1041 }

/-- the primitive long -/
def k9 : Class := { plain "long" none with kind := .primitive 'J', accessFlags := 0x411 }
/-- [J -/
def k10 : Class := { plain "[J" (some 0) with kind := .array 9 .long, interfaces := #[3, 4], accessFlags := 1041 }

def heap : Heap := #[]
def classes : Array Class := #[k0, k1, k2, k3, k4, k5, k6, k7, k8, k9, k10]
def interned : List (Array UInt16 × Addr) := []
def slotsUsed : Nat := 0
def theMethod : MethodId := ⟨1, 1⟩
def args0 : Array Value := #[.long 5, .long 5, .long 5, .long 5, .int 5]
def aboutOver (below : List Frame) : State where
  vm := { classes := classes, interned := interned.toArray }
  heap := heap
  slotsUsed := slotsUsed
  threads := #[{ frames := .invoking theMethod args0 :: below }]
def below0 : List Frame := [.native { method := ⟨0, 0⟩, args := #[] }]
def about1 : State := aboutOver below0
def p0 : Program := .bare "" "" ""
def e0 : Env := launch0.env 0 0 0
theorem w_frames : about1.frames = Frame.invoking theMethod args0 :: below0 := rfl
set_option maxRecDepth 65536 in
theorem w_args : argsFit about1.vm theMethod args0 = true := by decide +kernel
set_option maxRecDepth 65536 in
theorem w_heap : heapFits about1 = true := by decide +kernel
set_option maxRecDepth 65536 in
theorem w_runnable : about1.curStatus? = some .runnable := by decide +kernel
set_option maxRecDepth 65536 in
theorem w_alone : about1.alone = true := by decide +kernel
set_option maxRecDepth 65536 in
theorem w_named : about1.methodNamed? x = some theMethod := by decide +kernel
set_option maxRecDepth 65536 in
theorem w_hears : about1.hears theMethod below0 = true := by decide +kernel
set_option maxRecDepth 65536 in
theorem w_ripe : about1.ripe theMethod args0 below0 = true := by decide +kernel
theorem w_running : about1.status = .running := rfl
set_option maxRecDepth 65536 in
theorem w_room : about1.hasRoom e0.platform room_1 = true :=
  launch0.hasRoom_least _ room_1 (by decide +kernel) (by decide +kernel) (by decide +kernel) (by decide +kernel) (by decide +kernel) (by decide +kernel)
theorem allAtoms_all (ts : List Jvm.Cond) (a : Array Jvm.Value) (st : Jvm.State) : (allAtoms ts).before a st = ts.all (fun c => c.before a st) := by
  induction ts with
  | nil => rfl
  | cons c t ih =>
    show (Jvm.Cond.and c (allAtoms t)).before a st = _
    rw [Jvm.Cond.before_and, ih, List.all_cons]
def words1 : List Jvm.Cond := Jvm.Cond.code x code maxLocals ret :: tables_1
/-- a 'code' word, met by the world's own term for the bytes: nothing is compared byte by byte -/
theorem code_word {y : MethodName} {bytes : ByteArray} {mx : Nat} {rt : Option FieldType} {a : Array Value} {s : State} {m : MethodId} {meth : Method} {c : Code} (h1 : s.methodNamed? y = some m) (h2 : s.vm.method? m = some meth) (h3 : meth.code = some c) (h4 : c.code = bytes)
    (h5 : (c.maxLocals == mx && c.exceptionTable.isEmpty && decide (c.maxStack ≤ mostOperands) && decide (meth.sig.returnType = rt) && !meth.locks && decide (parseMethodDescriptor y.desc = some meth.sig)) = true) : (Jvm.Cond.code y bytes mx rt).before a s = true := by
  simp only [Bool.and_eq_true, beq_iff_eq, Bool.not_eq_true', decide_eq_true_eq] at h5
  obtain ⟨⟨⟨⟨⟨g1, g2⟩, g3⟩, g4⟩, g5⟩, g6⟩ := h5
  simp [Cond.before, Cond.holds, Cond.value, h1, h2, h3, h4, g1, g2, g3, g4, g5, g6]
def isCode : Jvm.Cond → Bool
  | .code _ _ _ _ => true
  | _ => false
theorem all_split {L : List Jvm.Cond} {P : Jvm.Cond → Bool} (h1 : L.all (fun c => isCode c || P c) = true) (h2 : ∀ c ∈ L.filter isCode, P c = true) : L.all P = true := by
  refine List.all_eq_true.mpr fun c hc => ?_
  have h := List.all_eq_true.mp h1 c hc
  rcases Bool.eq_false_or_eq_true (isCode c) with hi | hi
  · exact h2 c (List.mem_filter.mpr ⟨hc, hi⟩)
  · simpa [hi] using h
set_option maxRecDepth 65536 in
theorem w_c0 : (Jvm.Cond.code x code maxLocals ret).before args0 about1 = true := code_word (m := ⟨1, 1⟩) (meth := k1m1) (c := k1c1) (by decide +kernel) rfl rfl rfl (by decide +kernel)
set_option maxRecDepth 65536 in
theorem w_c1 : (Jvm.Cond.code ({ cls := "com/example/vidura/vidura/metric/CommonSubsequence", name := "addAll", desc := "([J[J)V" } : Jvm.MethodName) prog_48_method_10_code (3 : Nat) (Option.none : Option Jvm.ClassFile.FieldType)).before args0 about1 = true := code_word (m := ⟨2, 1⟩) (meth := k2m1) (c := k2c1) (by decide +kernel) rfl rfl rfl (by decide +kernel)
def codes1 : List Jvm.Cond := [Jvm.Cond.code x code maxLocals ret, Jvm.Cond.code ({ cls := "com/example/vidura/vidura/metric/CommonSubsequence", name := "addAll", desc := "([J[J)V" } : Jvm.MethodName) prog_48_method_10_code (3 : Nat) (Option.none : Option Jvm.ClassFile.FieldType)]
set_option maxRecDepth 65536 in
theorem codes_eq : words1.filter isCode = codes1 := rfl
theorem w_codes : ∀ c ∈ words1.filter isCode, c.before args0 about1 = true := by
  rw [codes_eq]
  intro c hc
  simp only [codes1, List.mem_cons, List.not_mem_nil, or_false] at hc
  rcases hc with rfl | rfl
  · exact w_c0
  · exact w_c1
set_option maxRecDepth 65536 in
theorem w_t1 : words1.all (fun c => isCode c || c.before args0 about1) = true := by decide +kernel
theorem w_tables : (allAtoms (Jvm.Cond.code x code maxLocals ret :: tables_1)).before args0 about1 = true := by
  rw [allAtoms_all]
  show words1.all (fun c => c.before args0 about1) = true
  refine all_split ?_ w_codes
  rw [w_t1]
set_option maxRecDepth 65536 in
theorem w_case : (Jvm.Cond.and given_1 narrow_1).before args0 about1 = true := by decide +kernel
theorem w_applies : (headSpec (Jvm.Cond.code x code maxLocals ret :: tables_1) room_1).applies x e0.platform about1 = true :=
  (Spec.applies_iff w_frames).mpr ⟨w_running, w_runnable, w_alone, w_named, w_hears, w_ripe, w_room, w_tables⟩
theorem atStart : AtStart classFile x code maxLocals ret World_1 tables_1 room_1 Calls_1 rest_1 Pre_1 launch0 p0 e0 about1 theMethod args0 below0 :=
  ⟨lists_1, trivial, launch0.admits_env _ _ _, launch0.least_env, fairChoices_fair.cas, fairChoices_fair.clock, w_frames, w_args, w_heap, w_applies, trivial, trivial, w_case⟩
end start1
theorem witness_1 : WitnessClaimed_1 := ⟨start1.p0, start1.e0, start1.about1, start1.theMethod, start1.args0, start1.below0, start1.atStart⟩
end Jvm.Pilot.@@N@@
