import JvmDerived
import JvmDerived.Pilot.@@N@@Statement
import JvmDerived.Pilot.@@N@@Code
set_option linter.unusedVariables false
set_option linter.unusedSimpArgs false
namespace Jvm.RoadKit
open Sem ClassFile Op Lib Jvm.Stand Jvm.Free Jvm.LawKit
section New
variable {p : Program} {l : Launch} {e : Env} {R : Room} {s : State} {m : MethodId} {args : Array Value} {below : List Frame} {meth : Method} {c : Code} {T : State} {locs : List Loc} {cells slots : Nat}
theorem retI (X : Stand p l e R s m args below meth c T locs cells slots) (hx : p.tables.exec = Jvm.exec) {pc : Nat} {Ls : Array Slot} {z : Int32} {rest : List Value} (hret : meth.sig.returnType = some .int) (hd : decode c.code pc = .ok (.ireturn, 1)) {fs : List Frame}
    (hl : ∀ (f : JFrame) (acts : List Action), f.method = m → f.locked = none → f.entered = [] → (doReturn e (T.setTop f) acts (some (.int z))).1 = T.setFrames fs) : Steps p.tables e below (T.setTop (mkF m pc Ls (.int z :: rest))) (T.setFrames fs) := by
  have hm' : T.vm.method? m = some meth := X.method'
  have hn : narrow .int (.int z) = .int z := rfl
  show Steps p.tables e below (T.setTop { method := m, pc := pc, locals := Ls, stack := _ :: rest, locked := none }) _
  jvm_step X.here [X.here.top, hx, hd, hm', hret, hn]
  first | (intro acts; rw [hl _ acts rfl rfl rfl]) | rw [hl _ _ rfl rfl rfl]
  exact Steps.refl _
end New
end Jvm.RoadKit
namespace Jvm.Pilot.@@N@@
open Jvm Jvm.ClassFile Sem Op Lib Jvm.Free Jvm.Stand Jvm.LawKit Jvm.RoadKit Bundle Jvm.Pilot.@@N@@.Jvm.D

def own_hi (q : Int64) : Int32 := (((q.toUInt64 >>> ((32 : Int32) &&& 0x3f).toInt64.toUInt64).toInt64).toInt32)
def own_lo (q : Int64) : Int32 := (q.toInt32)
theorem own_b53 (x : Int32) : B53 x.toInt64 := by
  have h1 := x.toInt_lt
  have h2 := x.le_toInt
  have e : x.toInt64.toInt = x.toInt := Int32.toInt_toInt64 x
  exact ⟨by omega, by omega⟩
theorem own_dc (x y : Int32) (o : CmpOp) : cmpValue (FP.dcmp (FP.i2d x) (FP.i2d y)) o = lcmpW x.toInt64 y.toInt64 := by
  rw [i2d_w x, i2d_w y]
  exact dcmpV_w (own_b53 x) (own_b53 y) o
theorem own_lt64 {x y : Int32} : x.toInt64 < y.toInt64 ↔ x < y := by
  rw [Int64.lt_iff_toInt_lt, Int32.lt_iff_toInt_lt, Int32.toInt_toInt64, Int32.toInt_toInt64]
theorem own_d1 {x y : Int32} (h : x < y) (o : CmpOp) : cmpValue (FP.dcmp (FP.i2d x) (FP.i2d y)) o = (-1 : Int32) := by
  rw [own_dc]
  have h1 : ¬ x.toInt64 > y.toInt64 := fun q => by
    have := own_lt64.mp q
    rw [Int32.lt_iff_toInt_lt] at this h
    omega
  have h2 : ¬ x.toInt64 = y.toInt64 := fun q => by
    have := own_lt64.mpr h
    rw [q, Int64.lt_iff_toInt_lt] at this
    omega
  show (if _ then _ else _) = _
  rw [if_neg h1, if_neg h2]
theorem own_d2 {x y : Int32} (h : y < x) (o : CmpOp) : cmpValue (FP.dcmp (FP.i2d x) (FP.i2d y)) o = (1 : Int32) := by
  rw [own_dc]
  show (if _ then _ else _) = _
  rw [if_pos (own_lt64.mpr h)]
theorem own_d0 {x y : Int32} (h : x = y) (o : CmpOp) : cmpValue (FP.dcmp (FP.i2d x) (FP.i2d y)) o = (0 : Int32) := by
  rw [own_dc]
  subst h
  show (if _ then _ else _) = _
  rw [if_neg (by show ¬ x.toInt64 < x.toInt64; rw [Int64.lt_iff_toInt_lt]; omega), if_pos rfl]
theorem own_irr (x : Int32) : ¬ x < x := by rw [Int32.lt_iff_toInt_lt]; omega
theorem own_tri (x y : Int32) : (x < y ∧ ¬ y < x) ∨ (y < x) ∨ (x = y ∧ ¬ x < y ∧ ¬ y < x) := by
  rcases Int.lt_trichotomy x.toInt y.toInt with h | h | h
  · exact Or.inl ⟨Int32.lt_iff_toInt_lt.mpr h, by rw [Int32.lt_iff_toInt_lt]; omega⟩
  · exact Or.inr (Or.inr ⟨Int32.toInt_inj.mp h, by rw [Int32.lt_iff_toInt_lt]; omega, by rw [Int32.lt_iff_toInt_lt]; omega⟩)
  · exact Or.inr (Or.inl (Int32.lt_iff_toInt_lt.mpr h))
def own_dom : List (Int32 × Int32) → Int32 → Int32
  | [], b => b
  | (x, y) :: r, b => if y < x then 0 else own_dom r (b ||| (if x < y then (1 : Int32) else 0))
def own_nw : List (Int32 × Int32) → Int32
  | [] => 1
  | (x, y) :: r => if y < x then 0 else own_nw r
def own_bt : List (Int32 × Int32) → Int32
  | [] => 0
  | (x, y) :: r => if x < y then 1 else own_bt r
def own_ex (a b : Int32) : Int32 := if a = (0 : Int32) then 0 else if b = (0 : Int32) then 0 else 1
theorem own_law3 (a b c d e f : Int32) : own_dom [(a, b), (c, d), (e, f)] (0 : Int32) = own_ex (own_nw [(a, b), (c, d), (e, f)]) (own_bt [(a, b), (c, d), (e, f)]) := by
  simp only [own_dom, own_nw, own_bt, own_ex]
  by_cases h1 : b < a <;> by_cases h2 : d < c <;> by_cases h3 : f < e <;> by_cases h4 : a < b <;> by_cases h5 : c < d <;> by_cases h6 : e < f <;> simp only [h1, h2, h3, h4, h5, h6, if_true, if_false] <;> decide
theorem own_law2 (a b c d : Int32) : own_dom [(a, b), (c, d)] (0 : Int32) = own_ex (own_nw [(a, b), (c, d)]) (own_bt [(a, b), (c, d)]) := by
  simp only [own_dom, own_nw, own_bt, own_ex]
  by_cases h1 : b < a <;> by_cases h2 : d < c <;> by_cases h4 : a < b <;> by_cases h5 : c < d <;> simp only [h1, h2, h4, h5, if_true, if_false] <;> decide
theorem own_law1 (a b : Int32) : own_dom [(a, b)] (0 : Int32) = own_ex (own_nw [(a, b)]) (own_bt [(a, b)]) := by
  simp only [own_dom, own_nw, own_bt, own_ex]
  by_cases h1 : b < a <;> by_cases h4 : a < b <;> simp only [h1, h4, if_true, if_false] <;> decide
theorem own_law0 : own_dom [] (0 : Int32) = own_ex (own_nw []) (own_bt []) := by decide
def own_n (p : Int32) : Int32 := (p &&& (3 : Int32))
theorem own_nf (p : Int32) : own_n p = (0 : Int32) ∨ own_n p = (1 : Int32) ∨ own_n p = (2 : Int32) ∨ own_n p = (3 : Int32) := by
  have h : (p &&& (3 : Int32)).toBitVec.toNat ≤ 3 := by
    rw [Int32.toBitVec_and, BitVec.toNat_and]
    exact Nat.le_trans Nat.and_le_right (by decide)
  have e : ∀ n : Nat, (p &&& (3 : Int32)).toBitVec.toNat = n → n < 4 → own_n p = Int32.ofNat n := fun n q hn => by
    apply Int32.toBitVec_inj.mp
    apply BitVec.eq_of_toNat_eq
    show (p &&& (3 : Int32)).toBitVec.toNat = (BitVec.ofNat 32 n).toNat
    rw [q, BitVec.toNat_ofNat, Nat.mod_eq_of_lt (by omega)]
  rcases (by omega : (p &&& (3 : Int32)).toBitVec.toNat = 0 ∨ (p &&& (3 : Int32)).toBitVec.toNat = 1 ∨ (p &&& (3 : Int32)).toBitVec.toNat = 2 ∨ (p &&& (3 : Int32)).toBitVec.toNat = 3) with q | q | q | q
  · exact Or.inl (e 0 q (by decide))
  · exact Or.inr (Or.inl (e 1 q (by decide)))
  · exact Or.inr (Or.inr (Or.inl (e 2 q (by decide))))
  · exact Or.inr (Or.inr (Or.inr (e 3 q (by decide))))
theorem pn_0 : plainName "com/example/tesserae/tesserae/core/VectorsDominatesPinLaw" = true := by first | (simp [plainName, overriddenIn]; done) | decide +kernel
theorem ef_1 (m : MethodId) (q1 : Int64) : entryFrame m #[(.long q1)] 2 = (mkF m 0 #[.val (.long q1), .second] []) := by first | (simp [entryFrame, mkF, argsToLocals, Value.category]; done) | rfl
theorem d1_0 : decode method_2_code 0 = .ok (.lload_n 0, 1) := by decide +kernel
theorem d1_1 : decode method_2_code 1 = .ok (.bipush 32, 2) := by decide +kernel
theorem d1_3 : decode method_2_code 3 = .ok (.lushr, 1) := by decide +kernel
theorem d1_4 : decode method_2_code 4 = .ok (.l2i, 1) := by decide +kernel
theorem d1_5 : decode method_2_code 5 = .ok (.ireturn, 1) := by decide +kernel
def Q1 (Z : State) (q1 : Int64) (h0 : Heap) (n0 : Nat) (v : Option Value) (h : Heap) (L : List Loc) : Prop := v = some (.int (own_hi q1)) ∧ Fr n0 L ∧ h = h0
set_option maxRecDepth 65536 in
set_option maxHeartbeats 40000000 in
theorem rm1 (l : Launch) (Z : State) (a0 : Array Value) (hw : ∀ d ∈ tables_1, d.before a0 Z = true) (ws : List Jvm.Cond) (q1 : Int64) (h0 : Heap) (n0 : Nat) (Z0 : n0 ≤ h0.size) :
    MetFree l (⟨"com/example/tesserae/tesserae/core/VectorsDominatesPinLaw", "hi", "(J)I"⟩ : MethodName) (head1 (Jvm.Cond.code (⟨"com/example/tesserae/tesserae/core/VectorsDominatesPinLaw", "hi", "(J)I"⟩ : MethodName) method_2_code 2 (some .int) :: ws) ({ frames := 0, cells := 0, slots := 0, locals := 0 } : Room)) (fun a U => a = #[(.long q1)] ∧ Z.Warmed39 U.vm ∧ U.heap = h0) (fun _ _ _ _ _ => True) (fun _ U o U' => ∃ v L, o = .returned v ∧ Q1 Z q1 h0 n0 v U'.heap L ∧ FrameEnd U o U' L ({ frames := 0, cells := 0, slots := 0, locals := 0 } : Room).cells ({ frames := 0, cells := 0, slots := 0, locals := 0 } : Room).slots) := by
  refine MetFree.of_bodySF (plainFor_of_name pn_0) hisR ?_
  intro p e s m args below meth c s₁ Bd hml0 hP hK
  obtain ⟨rfl, hZ, hh⟩ := hP
  have hx := Bd.exec
  have hby := Bd.bytes
  have hml : c.maxLocals = 2 := hml0
  have hown : s.vm.findClass "com/example/tesserae/tesserae/core/VectorsDominatesPinLaw" = some m.cls := findClass_of_methodNamed Bd.named
  have hnm := (name_of_methodNamed Bd.named Bd.method).1
  have X0 : Stand p l e ({ frames := 0, cells := 0, slots := 0, locals := 0 } : Room) s m #[(.long q1)] below meth c s₁ [] 0 0 := Stand.of_body Bd
  have e0 : s₁.heap = h0 := by rw [← hh, Bd.state]; rfl
  have N0 := Fr.nil n0
  have pre0 : ∀ t, Steps p.tables e below (s₁.setTop (mkF m 0 #[.val (.long q1), .second] [])) t → Steps p.tables e below (s₁.setTop (entryFrame m #[(.long q1)] 2)) t := fun t k => castTop (ef_1 m q1) k
  have pre1 : ∀ t, Steps p.tables e below (s₁.setTop (mkF m 5 #[.val (.long q1), .second] [(.int (((q1.toUInt64 >>> ((32 : Int32) &&& 0x3f).toInt64.toUInt64).toInt64).toInt32))])) t → Steps p.tables e below (s₁.setTop (entryFrame m #[(.long q1)] 2)) t := fun t kt => by
    refine pre0 _ ?_
    show Steps p.tables e below (s₁.setTop (mkF m 0 #[.val (.long q1), .second] [])) _
    refine XS.lloadN X0.here hx rfl (hb hby d1_0) rfl ?_
    show Steps p.tables e below (s₁.setTop (mkF m 1 #[.val (.long q1), .second] [(.long q1)])) _
    refine XS.bipush X0.here hx rfl (hb hby d1_1) ?_
    show Steps p.tables e below (s₁.setTop (mkF m 3 #[.val (.long q1), .second] [(.int (32 : Int32)), (.long q1)])) _
    refine XS.lushr X0.here hx rfl (hb hby d1_3) rfl ?_
    show Steps p.tables e below (s₁.setTop (mkF m 4 #[.val (.long q1), .second] [(.long ((q1.toUInt64 >>> ((32 : Int32) &&& 0x3f).toInt64.toUInt64).toInt64))])) _
    refine XS.l2i X0.here hx rfl (hb hby d1_4) rfl ?_
    exact kt
  obtain ⟨fs, hr, hrun, hended, hW, hsame⟩ := X0.leave (v := (some (.int (((q1.toUInt64 >>> ((32 : Int32) &&& 0x3f).toInt64.toUInt64).toInt64).toInt32)))) (fun h => by rw [Bd.returns] at h; cases h)
  refine ⟨_, _, pre1 _ ?_, hrun, hended, _, _, rfl, ?_, ⟨_, rfl⟩, hW, hsame.mono (by decide) (by decide)⟩
  · show Steps p.tables e below (s₁.setTop (mkF m 5 #[.val (.long q1), .second] [(.int (((q1.toUInt64 >>> ((32 : Int32) &&& 0x3f).toInt64.toUInt64).toInt64).toInt32))])) _
    exact retI X0 hx Bd.returns (hb hby d1_5) hr
  · show Q1 Z q1 h0 n0 _ s₁.heap _
    rw [e0]
    exact ⟨rfl, N0, rfl⟩
theorem ef_2 (m : MethodId) (q1 : Int64) : entryFrame m #[(.long q1)] 2 = (mkF m 0 #[.val (.long q1), .second] []) := by first | (simp [entryFrame, mkF, argsToLocals, Value.category]; done) | rfl
theorem d2_0 : decode method_3_code 0 = .ok (.lload_n 0, 1) := by decide +kernel
theorem d2_1 : decode method_3_code 1 = .ok (.l2i, 1) := by decide +kernel
theorem d2_2 : decode method_3_code 2 = .ok (.ireturn, 1) := by decide +kernel
def Q2 (Z : State) (q1 : Int64) (h0 : Heap) (n0 : Nat) (v : Option Value) (h : Heap) (L : List Loc) : Prop := v = some (.int (own_lo q1)) ∧ Fr n0 L ∧ h = h0
set_option maxRecDepth 65536 in
set_option maxHeartbeats 40000000 in
theorem rm2 (l : Launch) (Z : State) (a0 : Array Value) (hw : ∀ d ∈ tables_1, d.before a0 Z = true) (ws : List Jvm.Cond) (q1 : Int64) (h0 : Heap) (n0 : Nat) (Z0 : n0 ≤ h0.size) :
    MetFree l (⟨"com/example/tesserae/tesserae/core/VectorsDominatesPinLaw", "lo", "(J)I"⟩ : MethodName) (head1 (Jvm.Cond.code (⟨"com/example/tesserae/tesserae/core/VectorsDominatesPinLaw", "lo", "(J)I"⟩ : MethodName) method_3_code 2 (some .int) :: ws) ({ frames := 0, cells := 0, slots := 0, locals := 0 } : Room)) (fun a U => a = #[(.long q1)] ∧ Z.Warmed39 U.vm ∧ U.heap = h0) (fun _ _ _ _ _ => True) (fun _ U o U' => ∃ v L, o = .returned v ∧ Q2 Z q1 h0 n0 v U'.heap L ∧ FrameEnd U o U' L ({ frames := 0, cells := 0, slots := 0, locals := 0 } : Room).cells ({ frames := 0, cells := 0, slots := 0, locals := 0 } : Room).slots) := by
  refine MetFree.of_bodySF (plainFor_of_name pn_0) hisR ?_
  intro p e s m args below meth c s₁ Bd hml0 hP hK
  obtain ⟨rfl, hZ, hh⟩ := hP
  have hx := Bd.exec
  have hby := Bd.bytes
  have hml : c.maxLocals = 2 := hml0
  have hown : s.vm.findClass "com/example/tesserae/tesserae/core/VectorsDominatesPinLaw" = some m.cls := findClass_of_methodNamed Bd.named
  have hnm := (name_of_methodNamed Bd.named Bd.method).1
  have X0 : Stand p l e ({ frames := 0, cells := 0, slots := 0, locals := 0 } : Room) s m #[(.long q1)] below meth c s₁ [] 0 0 := Stand.of_body Bd
  have e0 : s₁.heap = h0 := by rw [← hh, Bd.state]; rfl
  have N0 := Fr.nil n0
  have pre0 : ∀ t, Steps p.tables e below (s₁.setTop (mkF m 0 #[.val (.long q1), .second] [])) t → Steps p.tables e below (s₁.setTop (entryFrame m #[(.long q1)] 2)) t := fun t k => castTop (ef_2 m q1) k
  have pre1 : ∀ t, Steps p.tables e below (s₁.setTop (mkF m 2 #[.val (.long q1), .second] [(.int (q1.toInt32))])) t → Steps p.tables e below (s₁.setTop (entryFrame m #[(.long q1)] 2)) t := fun t kt => by
    refine pre0 _ ?_
    show Steps p.tables e below (s₁.setTop (mkF m 0 #[.val (.long q1), .second] [])) _
    refine XS.lloadN X0.here hx rfl (hb hby d2_0) rfl ?_
    show Steps p.tables e below (s₁.setTop (mkF m 1 #[.val (.long q1), .second] [(.long q1)])) _
    refine XS.l2i X0.here hx rfl (hb hby d2_1) rfl ?_
    exact kt
  obtain ⟨fs, hr, hrun, hended, hW, hsame⟩ := X0.leave (v := (some (.int (q1.toInt32)))) (fun h => by rw [Bd.returns] at h; cases h)
  refine ⟨_, _, pre1 _ ?_, hrun, hended, _, _, rfl, ?_, ⟨_, rfl⟩, hW, hsame.mono (by decide) (by decide)⟩
  · show Steps p.tables e below (s₁.setTop (mkF m 2 #[.val (.long q1), .second] [(.int (q1.toInt32))])) _
    exact retI X0 hx Bd.returns (hb hby d2_2) hr
  · show Q2 Z q1 h0 n0 _ s₁.heap _
    rw [e0]
    exact ⟨rfl, N0, rfl⟩
theorem ef_3m0 (m : MethodId) (p1 : Int32) (p2 : Int32) (p3 : Int32) : entryFrame m #[(.int (0 : Int32)), (.int p1), (.int p2), (.int p3)] 4 = (mkF m 0 #[.val (.int (0 : Int32)), .val (.int p1), .val (.int p2), .val (.int p3)] []) := by first | (simp [entryFrame, mkF, argsToLocals, Value.category]; done) | rfl
theorem d3_0 : decode method_4_code 0 = .ok (.iload_n 0, 1) := by decide +kernel
theorem d3_1 : decode method_4_code 1 = .ok (.ifCond .ne 7, 3) := by decide +kernel
theorem d3_4 : decode method_4_code 4 = .ok (.iconst 0, 1) := by decide +kernel
theorem d3_5 : decode method_4_code 5 = .ok (.newarray .double, 2) := by decide +kernel
theorem d3_7 : decode method_4_code 7 = .ok (.areturn, 1) := by decide +kernel
def Q3m0 (Z : State) (p1 : Int32) (p2 : Int32) (p3 : Int32) (h0 : Heap) (n0 : Nat) (v : Option Value) (h : Heap) (L : List Loc) : Prop := v = some (.ref h0.size) ∧ Fr n0 L ∧ Keep h0 h [] ∧ ∃ k : ClassId, Arv Z h h0.size k .double (0 : Int32) [] (.double 0)
set_option maxRecDepth 65536 in
set_option maxHeartbeats 40000000 in
theorem rm3m0 (l : Launch) (Z : State) (a0 : Array Value) (hw : ∀ d ∈ tables_1, d.before a0 Z = true) (ws : List Jvm.Cond) (p1 : Int32) (p2 : Int32) (p3 : Int32) (h0 : Heap) (n0 : Nat) (Z0 : n0 ≤ h0.size) :
    MetFree l (⟨"com/example/tesserae/tesserae/core/VectorsDominatesPinLaw", "make", "(IIII)[D"⟩ : MethodName) (head1 (Jvm.Cond.code (⟨"com/example/tesserae/tesserae/core/VectorsDominatesPinLaw", "make", "(IIII)[D"⟩ : MethodName) method_4_code 4 (some (.array .double)) :: ws) ({ frames := 0, cells := 1, slots := 0, locals := 0 } : Room)) (fun a U => a = #[(.int (0 : Int32)), (.int p1), (.int p2), (.int p3)] ∧ Z.Warmed39 U.vm ∧ U.heap = h0) (fun _ _ _ _ _ => True) (fun _ U o U' => ∃ v L, o = .returned v ∧ Q3m0 Z p1 p2 p3 h0 n0 v U'.heap L ∧ FrameEnd U o U' L ({ frames := 0, cells := 1, slots := 0, locals := 0 } : Room).cells ({ frames := 0, cells := 1, slots := 0, locals := 0 } : Room).slots) := by
  refine MetFree.of_bodySF (plainFor_of_name pn_0) hisR ?_
  intro p e s m args below meth c s₁ Bd hml0 hP hK
  obtain ⟨rfl, hZ, hh⟩ := hP
  have hx := Bd.exec
  have hby := Bd.bytes
  have hml : c.maxLocals = 4 := hml0
  have hown : s.vm.findClass "com/example/tesserae/tesserae/core/VectorsDominatesPinLaw" = some m.cls := findClass_of_methodNamed Bd.named
  have hnm := (name_of_methodNamed Bd.named Bd.method).1
  have X0 : Stand p l e ({ frames := 0, cells := 1, slots := 0, locals := 0 } : Room) s m #[(.int (0 : Int32)), (.int p1), (.int p2), (.int p3)] below meth c s₁ [] 0 0 := Stand.of_body Bd
  have e0 : s₁.heap = h0 := by rw [← hh, Bd.state]; rfl
  have N0 := Fr.nil n0
  have K0 : Keep h0 h0 [] := Keep.refl _ _
  have pre0 : ∀ t, Steps p.tables e below (s₁.setTop (mkF m 0 #[.val (.int (0 : Int32)), .val (.int p1), .val (.int p2), .val (.int p3)] [])) t → Steps p.tables e below (s₁.setTop (entryFrame m #[(.int (0 : Int32)), (.int p1), (.int p2), (.int p3)] 4)) t := fun t k => castTop (ef_3m0 m p1 p2 p3) k
  have pre1 : ∀ t, Steps p.tables e below (s₁.setTop (mkF m 5 #[.val (.int (0 : Int32)), .val (.int p1), .val (.int p2), .val (.int p3)] [(.int (0 : Int32))])) t → Steps p.tables e below (s₁.setTop (entryFrame m #[(.int (0 : Int32)), (.int p1), (.int p2), (.int p3)] 4)) t := fun t kt => by
    refine pre0 _ ?_
    show Steps p.tables e below (s₁.setTop (mkF m 0 #[.val (.int (0 : Int32)), .val (.int p1), .val (.int p2), .val (.int p3)] [])) _
    refine XS.iloadN X0.here hx rfl (hb hby d3_0) rfl ?_
    show Steps p.tables e below (s₁.setTop (mkF m 1 #[.val (.int (0 : Int32)), .val (.int p1), .val (.int p2), .val (.int p3)] [(.int (0 : Int32))])) _
    refine XS.ifNo X0.here hx rfl (hb hby d3_1) rfl ((if0 _ _).trans (teq (by decide : (0 : Int32) = (0 : Int32))).2) ?_
    show Steps p.tables e below (s₁.setTop (mkF m 4 #[.val (.int (0 : Int32)), .val (.int p1), .val (.int p2), .val (.int p3)] [])) _
    refine XS.iconst X0.here hx rfl (hb hby d3_4) ?_
    exact kt
  obtain ⟨T2, h2, k2, X2, e2, E2, A2, st2⟩ := newP X0 hx hZ (hw _ (List.mem_of_getElem? (i := 10) rfl)) e0 (g := (mkF m 5 #[.val (.int (0 : Int32)), .val (.int p1), .val (.int p2), .val (.int p3)] [(.int (0 : Int32))])) rfl (hb hby d3_5) rfl (by decide) (cap := 0) (by decide) (by decide) (by decide) (by decide)
  obtain ⟨b2, gq2⟩ : ∃ z, z = h0.size := ⟨_, rfl⟩
  rw [← gq2] at A2 st2
  have gg_b2 : n0 ≤ b2 := Nat.le_trans Z0 (Nat.le_of_eq gq2.symm)
  have sz_b2 : h0.size ≤ b2 := Nat.le_trans K0.1 (Nat.le_of_eq gq2.symm)
  have V2 : Arv Z h2 b2 k2 .double (0 : Int32) [] (.double 0) := Arv.new A2 (by decide)
  have pre3 : ∀ t, Steps p.tables e below (T2.setTop (mkF m 7 #[.val (.int (0 : Int32)), .val (.int p1), .val (.int p2), .val (.int p3)] [(.ref b2)])) t → Steps p.tables e below (s₁.setTop (entryFrame m #[(.int (0 : Int32)), (.int p1), (.int p2), (.int p3)] 4)) t := fun t kt => pre1 _ (st2 _ kt)
  have k4 : Keep h0 h2 [] := (K0.ext E2)
  obtain ⟨fs, hr, hrun, hended, hW, hsame⟩ := X2.leave (v := (some (.ref b2))) (fun h => by rw [Bd.returns] at h; cases h)
  refine ⟨_, _, pre3 _ ?_, hrun, hended, _, _, rfl, ?_, ⟨_, rfl⟩, hW, hsame.mono (by decide) (by decide)⟩
  · show Steps p.tables e below (T2.setTop (mkF m 7 #[.val (.int (0 : Int32)), .val (.int p1), .val (.int p2), .val (.int p3)] [(.ref b2)])) _
    exact retOut X2 hx (t := (.array .double)) Bd.returns rfl (Or.inr (Or.inr (Or.inr (Or.inr ⟨rfl, rfl, rfl⟩)))) (hb hby d3_7) hr
  · show Q3m0 Z p1 p2 p3 h0 n0 _ T2.heap _
    rw [e2]
    exact ⟨by rw [gq2], N0, k4, _, by rw [← gq2]; exact V2⟩
theorem ef_3m1 (m : MethodId) (p1 : Int32) (p2 : Int32) (p3 : Int32) : entryFrame m #[(.int (1 : Int32)), (.int p1), (.int p2), (.int p3)] 4 = (mkF m 0 #[.val (.int (1 : Int32)), .val (.int p1), .val (.int p2), .val (.int p3)] []) := by first | (simp [entryFrame, mkF, argsToLocals, Value.category]; done) | rfl
theorem d3_8 : decode method_4_code 8 = .ok (.iload_n 0, 1) := by decide +kernel
theorem d3_9 : decode method_4_code 9 = .ok (.iconst 1, 1) := by decide +kernel
theorem d3_10 : decode method_4_code 10 = .ok (.if_icmp .ne 12, 3) := by decide +kernel
theorem d3_13 : decode method_4_code 13 = .ok (.iconst 1, 1) := by decide +kernel
theorem d3_14 : decode method_4_code 14 = .ok (.newarray .double, 2) := by decide +kernel
theorem d3_16 : decode method_4_code 16 = .ok (.dup, 1) := by decide +kernel
theorem d3_17 : decode method_4_code 17 = .ok (.iconst 0, 1) := by decide +kernel
theorem d3_18 : decode method_4_code 18 = .ok (.iload_n 1, 1) := by decide +kernel
theorem d3_19 : decode method_4_code 19 = .ok (.i2d, 1) := by decide +kernel
theorem d3_20 : decode method_4_code 20 = .ok (.dastore, 1) := by decide +kernel
theorem d3_21 : decode method_4_code 21 = .ok (.areturn, 1) := by decide +kernel
def Q3m1 (Z : State) (p1 : Int32) (p2 : Int32) (p3 : Int32) (h0 : Heap) (n0 : Nat) (v : Option Value) (h : Heap) (L : List Loc) : Prop := v = some (.ref h0.size) ∧ Fr n0 L ∧ Keep h0 h [] ∧ ∃ k : ClassId, Arv Z h h0.size k .double (1 : Int32) [(.double (FP.i2d p1))] (.double 0)
set_option maxRecDepth 65536 in
set_option maxHeartbeats 40000000 in
theorem rm3m1 (l : Launch) (Z : State) (a0 : Array Value) (hw : ∀ d ∈ tables_1, d.before a0 Z = true) (ws : List Jvm.Cond) (p1 : Int32) (p2 : Int32) (p3 : Int32) (h0 : Heap) (n0 : Nat) (Z0 : n0 ≤ h0.size) :
    MetFree l (⟨"com/example/tesserae/tesserae/core/VectorsDominatesPinLaw", "make", "(IIII)[D"⟩ : MethodName) (head1 (Jvm.Cond.code (⟨"com/example/tesserae/tesserae/core/VectorsDominatesPinLaw", "make", "(IIII)[D"⟩ : MethodName) method_4_code 4 (some (.array .double)) :: ws) ({ frames := 0, cells := 1, slots := 1, locals := 0 } : Room)) (fun a U => a = #[(.int (1 : Int32)), (.int p1), (.int p2), (.int p3)] ∧ Z.Warmed39 U.vm ∧ U.heap = h0) (fun _ _ _ _ _ => True) (fun _ U o U' => ∃ v L, o = .returned v ∧ Q3m1 Z p1 p2 p3 h0 n0 v U'.heap L ∧ FrameEnd U o U' L ({ frames := 0, cells := 1, slots := 1, locals := 0 } : Room).cells ({ frames := 0, cells := 1, slots := 1, locals := 0 } : Room).slots) := by
  refine MetFree.of_bodySF (plainFor_of_name pn_0) hisR ?_
  intro p e s m args below meth c s₁ Bd hml0 hP hK
  obtain ⟨rfl, hZ, hh⟩ := hP
  have hx := Bd.exec
  have hby := Bd.bytes
  have hml : c.maxLocals = 4 := hml0
  have hown : s.vm.findClass "com/example/tesserae/tesserae/core/VectorsDominatesPinLaw" = some m.cls := findClass_of_methodNamed Bd.named
  have hnm := (name_of_methodNamed Bd.named Bd.method).1
  have X0 : Stand p l e ({ frames := 0, cells := 1, slots := 1, locals := 0 } : Room) s m #[(.int (1 : Int32)), (.int p1), (.int p2), (.int p3)] below meth c s₁ [] 0 0 := Stand.of_body Bd
  have e0 : s₁.heap = h0 := by rw [← hh, Bd.state]; rfl
  have N0 := Fr.nil n0
  have K0 : Keep h0 h0 [] := Keep.refl _ _
  have pre0 : ∀ t, Steps p.tables e below (s₁.setTop (mkF m 0 #[.val (.int (1 : Int32)), .val (.int p1), .val (.int p2), .val (.int p3)] [])) t → Steps p.tables e below (s₁.setTop (entryFrame m #[(.int (1 : Int32)), (.int p1), (.int p2), (.int p3)] 4)) t := fun t k => castTop (ef_3m1 m p1 p2 p3) k
  have pre1 : ∀ t, Steps p.tables e below (s₁.setTop (mkF m 14 #[.val (.int (1 : Int32)), .val (.int p1), .val (.int p2), .val (.int p3)] [(.int (1 : Int32))])) t → Steps p.tables e below (s₁.setTop (entryFrame m #[(.int (1 : Int32)), (.int p1), (.int p2), (.int p3)] 4)) t := fun t kt => by
    refine pre0 _ ?_
    show Steps p.tables e below (s₁.setTop (mkF m 0 #[.val (.int (1 : Int32)), .val (.int p1), .val (.int p2), .val (.int p3)] [])) _
    refine XS.iloadN X0.here hx rfl (hb hby d3_0) rfl ?_
    show Steps p.tables e below (s₁.setTop (mkF m 1 #[.val (.int (1 : Int32)), .val (.int p1), .val (.int p2), .val (.int p3)] [(.int (1 : Int32))])) _
    refine XS.ifYes X0.here hx rfl (pc0 := 1) (pc' := 8) rfl (hb hby d3_1) rfl ((if0 _ _).trans (feq (by decide : ¬ ((1 : Int32) = (0 : Int32)))).2) (by decide) (by decide) ?_
    show Steps p.tables e below (s₁.setTop (mkF m 8 #[.val (.int (1 : Int32)), .val (.int p1), .val (.int p2), .val (.int p3)] [])) _
    refine XS.iloadN X0.here hx rfl (hb hby d3_8) rfl ?_
    show Steps p.tables e below (s₁.setTop (mkF m 9 #[.val (.int (1 : Int32)), .val (.int p1), .val (.int p2), .val (.int p3)] [(.int (1 : Int32))])) _
    refine XS.iconst X0.here hx rfl (hb hby d3_9) ?_
    show Steps p.tables e below (s₁.setTop (mkF m 10 #[.val (.int (1 : Int32)), .val (.int p1), .val (.int p2), .val (.int p3)] [(.int (1 : Int32)), (.int (1 : Int32))])) _
    refine XS.icmpNo X0.here hx rfl (hb hby d3_10) rfl (teq (by decide : (1 : Int32) = (1 : Int32))).2 ?_
    show Steps p.tables e below (s₁.setTop (mkF m 13 #[.val (.int (1 : Int32)), .val (.int p1), .val (.int p2), .val (.int p3)] [])) _
    refine XS.iconst X0.here hx rfl (hb hby d3_13) ?_
    exact kt
  obtain ⟨T2, h2, k2, X2, e2, E2, A2, st2⟩ := newP X0 hx hZ (hw _ (List.mem_of_getElem? (i := 10) rfl)) e0 (g := (mkF m 14 #[.val (.int (1 : Int32)), .val (.int p1), .val (.int p2), .val (.int p3)] [(.int (1 : Int32))])) rfl (hb hby d3_14) rfl (by decide) (cap := 1) (by decide) (by decide) (by decide) (by decide)
  obtain ⟨b2, gq2⟩ : ∃ z, z = h0.size := ⟨_, rfl⟩
  rw [← gq2] at A2 st2
  have gg_b2 : n0 ≤ b2 := Nat.le_trans Z0 (Nat.le_of_eq gq2.symm)
  have sz_b2 : h0.size ≤ b2 := Nat.le_trans K0.1 (Nat.le_of_eq gq2.symm)
  have V2 : Arv Z h2 b2 k2 .double (1 : Int32) [(.double 0)] (.double 0) := (Arv.new A2 (by decide)).pad (pad_rep [] (.double 0) 1)
  have pre3 : ∀ t, Steps p.tables e below (T2.setTop (mkF m 16 #[.val (.int (1 : Int32)), .val (.int p1), .val (.int p2), .val (.int p3)] [(.ref b2)])) t → Steps p.tables e below (s₁.setTop (entryFrame m #[(.int (1 : Int32)), (.int p1), (.int p2), (.int p3)] 4)) t := fun t kt => pre1 _ (st2 _ kt)
  obtain ⟨cl4, Ar4, qk4, Sz4, Nn4, Hh4, Gg4⟩ := id V2
  have hin4 : ¬ ((0 : Int32) < 0 ∨ cl4.slots.size ≤ ((0 : Int32)).toNatClampNeg) := inb_of Sz4 ⟨by decide, by decide⟩
  have pre5 : ∀ t, Steps p.tables e below (T2.setTop (mkF m 20 #[.val (.int (1 : Int32)), .val (.int p1), .val (.int p2), .val (.int p3)] [(.double (FP.i2d p1)), (.int (0 : Int32)), (.ref b2), (.ref b2)])) t → Steps p.tables e below (s₁.setTop (entryFrame m #[(.int (1 : Int32)), (.int p1), (.int p2), (.int p3)] 4)) t := fun t kt => by
    refine pre3 _ ?_
    show Steps p.tables e below (T2.setTop (mkF m 16 #[.val (.int (1 : Int32)), .val (.int p1), .val (.int p2), .val (.int p3)] [(.ref b2)])) _
    refine XS.dup X2.here hx rfl (hb hby d3_16) rfl rfl ?_
    show Steps p.tables e below (T2.setTop (mkF m 17 #[.val (.int (1 : Int32)), .val (.int p1), .val (.int p2), .val (.int p3)] [(.ref b2), (.ref b2)])) _
    refine XS.iconst X2.here hx rfl (hb hby d3_17) ?_
    show Steps p.tables e below (T2.setTop (mkF m 18 #[.val (.int (1 : Int32)), .val (.int p1), .val (.int p2), .val (.int p3)] [(.int (0 : Int32)), (.ref b2), (.ref b2)])) _
    refine XS.iloadN X2.here hx rfl (hb hby d3_18) rfl ?_
    show Steps p.tables e below (T2.setTop (mkF m 19 #[.val (.int (1 : Int32)), .val (.int p1), .val (.int p2), .val (.int p3)] [(.int p1), (.int (0 : Int32)), (.ref b2), (.ref b2)])) _
    refine XS.i2dS X2.here hx rfl (hb hby d3_19) rfl rfl ?_
    exact kt
  obtain ⟨T6, h6, X6, e6, W6, st6⟩ := stD X2 hx hZ e2 Ar4 (j := (0 : Int32)) hin4 (g := (mkF m 20 #[.val (.int (1 : Int32)), .val (.int p1), .val (.int p2), .val (.int p3)] [(.double (FP.i2d p1)), (.int (0 : Int32)), (.ref b2), (.ref b2)])) rfl rfl (hb hby d3_20)
  have V6 := Arv.set Ar4 qk4 Sz4 Nn4 Hh4 Gg4 rfl W6 0 rfl (Nat.le_of_ble_eq_true rfl)
  have V6' : Arv Z h6 b2 k2 .double (1 : Int32) [(.double (FP.i2d p1))] (.double 0) := V6
  have N6 := Fr.snoc X6 N0 gg_b2
  have pre7 : ∀ t, Steps p.tables e below (T6.setTop (mkF m 21 #[.val (.int (1 : Int32)), .val (.int p1), .val (.int p2), .val (.int p3)] [(.ref b2)])) t → Steps p.tables e below (s₁.setTop (entryFrame m #[(.int (1 : Int32)), (.int p1), (.int p2), (.int p3)] 4)) t := fun t kt => pre5 _ (st6 _ kt)
  have k8 : Keep h0 h6 [] := ((K0.ext E2).wr W6 (Or.inr sz_b2))
  obtain ⟨fs, hr, hrun, hended, hW, hsame⟩ := X6.leave (v := (some (.ref b2))) (fun h => by rw [Bd.returns] at h; cases h)
  refine ⟨_, _, pre7 _ ?_, hrun, hended, _, _, rfl, ?_, ⟨_, rfl⟩, hW, hsame.mono (by decide) (by decide)⟩
  · show Steps p.tables e below (T6.setTop (mkF m 21 #[.val (.int (1 : Int32)), .val (.int p1), .val (.int p2), .val (.int p3)] [(.ref b2)])) _
    exact retOut X6 hx (t := (.array .double)) Bd.returns rfl (Or.inr (Or.inr (Or.inr (Or.inr ⟨rfl, rfl, rfl⟩)))) (hb hby d3_21) hr
  · show Q3m1 Z p1 p2 p3 h0 n0 _ T6.heap _
    rw [e6]
    exact ⟨by rw [gq2], N6, k8, _, by rw [← gq2]; exact V6'⟩
theorem ef_3m2 (m : MethodId) (p1 : Int32) (p2 : Int32) (p3 : Int32) : entryFrame m #[(.int (2 : Int32)), (.int p1), (.int p2), (.int p3)] 4 = (mkF m 0 #[.val (.int (2 : Int32)), .val (.int p1), .val (.int p2), .val (.int p3)] []) := by first | (simp [entryFrame, mkF, argsToLocals, Value.category]; done) | rfl
theorem d3_22 : decode method_4_code 22 = .ok (.iload_n 0, 1) := by decide +kernel
theorem d3_23 : decode method_4_code 23 = .ok (.iconst 2, 1) := by decide +kernel
theorem d3_24 : decode method_4_code 24 = .ok (.if_icmp .ne 17, 3) := by decide +kernel
theorem d3_27 : decode method_4_code 27 = .ok (.iconst 2, 1) := by decide +kernel
theorem d3_28 : decode method_4_code 28 = .ok (.newarray .double, 2) := by decide +kernel
theorem d3_30 : decode method_4_code 30 = .ok (.dup, 1) := by decide +kernel
theorem d3_31 : decode method_4_code 31 = .ok (.iconst 0, 1) := by decide +kernel
theorem d3_32 : decode method_4_code 32 = .ok (.iload_n 1, 1) := by decide +kernel
theorem d3_33 : decode method_4_code 33 = .ok (.i2d, 1) := by decide +kernel
theorem d3_34 : decode method_4_code 34 = .ok (.dastore, 1) := by decide +kernel
theorem d3_35 : decode method_4_code 35 = .ok (.dup, 1) := by decide +kernel
theorem d3_36 : decode method_4_code 36 = .ok (.iconst 1, 1) := by decide +kernel
theorem d3_37 : decode method_4_code 37 = .ok (.iload_n 2, 1) := by decide +kernel
theorem d3_38 : decode method_4_code 38 = .ok (.i2d, 1) := by decide +kernel
theorem d3_39 : decode method_4_code 39 = .ok (.dastore, 1) := by decide +kernel
theorem d3_40 : decode method_4_code 40 = .ok (.areturn, 1) := by decide +kernel
def Q3m2 (Z : State) (p1 : Int32) (p2 : Int32) (p3 : Int32) (h0 : Heap) (n0 : Nat) (v : Option Value) (h : Heap) (L : List Loc) : Prop := v = some (.ref h0.size) ∧ Fr n0 L ∧ Keep h0 h [] ∧ ∃ k : ClassId, Arv Z h h0.size k .double (2 : Int32) [(.double (FP.i2d p1)), (.double (FP.i2d p2))] (.double 0)
set_option maxRecDepth 65536 in
set_option maxHeartbeats 40000000 in
theorem rm3m2 (l : Launch) (Z : State) (a0 : Array Value) (hw : ∀ d ∈ tables_1, d.before a0 Z = true) (ws : List Jvm.Cond) (p1 : Int32) (p2 : Int32) (p3 : Int32) (h0 : Heap) (n0 : Nat) (Z0 : n0 ≤ h0.size) :
    MetFree l (⟨"com/example/tesserae/tesserae/core/VectorsDominatesPinLaw", "make", "(IIII)[D"⟩ : MethodName) (head1 (Jvm.Cond.code (⟨"com/example/tesserae/tesserae/core/VectorsDominatesPinLaw", "make", "(IIII)[D"⟩ : MethodName) method_4_code 4 (some (.array .double)) :: ws) ({ frames := 0, cells := 1, slots := 2, locals := 0 } : Room)) (fun a U => a = #[(.int (2 : Int32)), (.int p1), (.int p2), (.int p3)] ∧ Z.Warmed39 U.vm ∧ U.heap = h0) (fun _ _ _ _ _ => True) (fun _ U o U' => ∃ v L, o = .returned v ∧ Q3m2 Z p1 p2 p3 h0 n0 v U'.heap L ∧ FrameEnd U o U' L ({ frames := 0, cells := 1, slots := 2, locals := 0 } : Room).cells ({ frames := 0, cells := 1, slots := 2, locals := 0 } : Room).slots) := by
  refine MetFree.of_bodySF (plainFor_of_name pn_0) hisR ?_
  intro p e s m args below meth c s₁ Bd hml0 hP hK
  obtain ⟨rfl, hZ, hh⟩ := hP
  have hx := Bd.exec
  have hby := Bd.bytes
  have hml : c.maxLocals = 4 := hml0
  have hown : s.vm.findClass "com/example/tesserae/tesserae/core/VectorsDominatesPinLaw" = some m.cls := findClass_of_methodNamed Bd.named
  have hnm := (name_of_methodNamed Bd.named Bd.method).1
  have X0 : Stand p l e ({ frames := 0, cells := 1, slots := 2, locals := 0 } : Room) s m #[(.int (2 : Int32)), (.int p1), (.int p2), (.int p3)] below meth c s₁ [] 0 0 := Stand.of_body Bd
  have e0 : s₁.heap = h0 := by rw [← hh, Bd.state]; rfl
  have N0 := Fr.nil n0
  have K0 : Keep h0 h0 [] := Keep.refl _ _
  have pre0 : ∀ t, Steps p.tables e below (s₁.setTop (mkF m 0 #[.val (.int (2 : Int32)), .val (.int p1), .val (.int p2), .val (.int p3)] [])) t → Steps p.tables e below (s₁.setTop (entryFrame m #[(.int (2 : Int32)), (.int p1), (.int p2), (.int p3)] 4)) t := fun t k => castTop (ef_3m2 m p1 p2 p3) k
  have pre1 : ∀ t, Steps p.tables e below (s₁.setTop (mkF m 28 #[.val (.int (2 : Int32)), .val (.int p1), .val (.int p2), .val (.int p3)] [(.int (2 : Int32))])) t → Steps p.tables e below (s₁.setTop (entryFrame m #[(.int (2 : Int32)), (.int p1), (.int p2), (.int p3)] 4)) t := fun t kt => by
    refine pre0 _ ?_
    show Steps p.tables e below (s₁.setTop (mkF m 0 #[.val (.int (2 : Int32)), .val (.int p1), .val (.int p2), .val (.int p3)] [])) _
    refine XS.iloadN X0.here hx rfl (hb hby d3_0) rfl ?_
    show Steps p.tables e below (s₁.setTop (mkF m 1 #[.val (.int (2 : Int32)), .val (.int p1), .val (.int p2), .val (.int p3)] [(.int (2 : Int32))])) _
    refine XS.ifYes X0.here hx rfl (pc0 := 1) (pc' := 8) rfl (hb hby d3_1) rfl ((if0 _ _).trans (feq (by decide : ¬ ((2 : Int32) = (0 : Int32)))).2) (by decide) (by decide) ?_
    show Steps p.tables e below (s₁.setTop (mkF m 8 #[.val (.int (2 : Int32)), .val (.int p1), .val (.int p2), .val (.int p3)] [])) _
    refine XS.iloadN X0.here hx rfl (hb hby d3_8) rfl ?_
    show Steps p.tables e below (s₁.setTop (mkF m 9 #[.val (.int (2 : Int32)), .val (.int p1), .val (.int p2), .val (.int p3)] [(.int (2 : Int32))])) _
    refine XS.iconst X0.here hx rfl (hb hby d3_9) ?_
    show Steps p.tables e below (s₁.setTop (mkF m 10 #[.val (.int (2 : Int32)), .val (.int p1), .val (.int p2), .val (.int p3)] [(.int (1 : Int32)), (.int (2 : Int32))])) _
    refine XS.icmpYes X0.here hx rfl (pc0 := 10) (pc' := 22) rfl (hb hby d3_10) rfl (feq (by decide : ¬ ((2 : Int32) = (1 : Int32)))).2 (by decide) (by decide) ?_
    show Steps p.tables e below (s₁.setTop (mkF m 22 #[.val (.int (2 : Int32)), .val (.int p1), .val (.int p2), .val (.int p3)] [])) _
    refine XS.iloadN X0.here hx rfl (hb hby d3_22) rfl ?_
    show Steps p.tables e below (s₁.setTop (mkF m 23 #[.val (.int (2 : Int32)), .val (.int p1), .val (.int p2), .val (.int p3)] [(.int (2 : Int32))])) _
    refine XS.iconst X0.here hx rfl (hb hby d3_23) ?_
    show Steps p.tables e below (s₁.setTop (mkF m 24 #[.val (.int (2 : Int32)), .val (.int p1), .val (.int p2), .val (.int p3)] [(.int (2 : Int32)), (.int (2 : Int32))])) _
    refine XS.icmpNo X0.here hx rfl (hb hby d3_24) rfl (teq (by decide : (2 : Int32) = (2 : Int32))).2 ?_
    show Steps p.tables e below (s₁.setTop (mkF m 27 #[.val (.int (2 : Int32)), .val (.int p1), .val (.int p2), .val (.int p3)] [])) _
    refine XS.iconst X0.here hx rfl (hb hby d3_27) ?_
    exact kt
  obtain ⟨T2, h2, k2, X2, e2, E2, A2, st2⟩ := newP X0 hx hZ (hw _ (List.mem_of_getElem? (i := 10) rfl)) e0 (g := (mkF m 28 #[.val (.int (2 : Int32)), .val (.int p1), .val (.int p2), .val (.int p3)] [(.int (2 : Int32))])) rfl (hb hby d3_28) rfl (by decide) (cap := 2) (by decide) (by decide) (by decide) (by decide)
  obtain ⟨b2, gq2⟩ : ∃ z, z = h0.size := ⟨_, rfl⟩
  rw [← gq2] at A2 st2
  have gg_b2 : n0 ≤ b2 := Nat.le_trans Z0 (Nat.le_of_eq gq2.symm)
  have sz_b2 : h0.size ≤ b2 := Nat.le_trans K0.1 (Nat.le_of_eq gq2.symm)
  have V2 : Arv Z h2 b2 k2 .double (2 : Int32) [(.double 0), (.double 0)] (.double 0) := (Arv.new A2 (by decide)).pad (pad_rep [] (.double 0) 2)
  have pre3 : ∀ t, Steps p.tables e below (T2.setTop (mkF m 30 #[.val (.int (2 : Int32)), .val (.int p1), .val (.int p2), .val (.int p3)] [(.ref b2)])) t → Steps p.tables e below (s₁.setTop (entryFrame m #[(.int (2 : Int32)), (.int p1), (.int p2), (.int p3)] 4)) t := fun t kt => pre1 _ (st2 _ kt)
  obtain ⟨cl4, Ar4, qk4, Sz4, Nn4, Hh4, Gg4⟩ := id V2
  have hin4 : ¬ ((0 : Int32) < 0 ∨ cl4.slots.size ≤ ((0 : Int32)).toNatClampNeg) := inb_of Sz4 ⟨by decide, by decide⟩
  have pre5 : ∀ t, Steps p.tables e below (T2.setTop (mkF m 34 #[.val (.int (2 : Int32)), .val (.int p1), .val (.int p2), .val (.int p3)] [(.double (FP.i2d p1)), (.int (0 : Int32)), (.ref b2), (.ref b2)])) t → Steps p.tables e below (s₁.setTop (entryFrame m #[(.int (2 : Int32)), (.int p1), (.int p2), (.int p3)] 4)) t := fun t kt => by
    refine pre3 _ ?_
    show Steps p.tables e below (T2.setTop (mkF m 30 #[.val (.int (2 : Int32)), .val (.int p1), .val (.int p2), .val (.int p3)] [(.ref b2)])) _
    refine XS.dup X2.here hx rfl (hb hby d3_30) rfl rfl ?_
    show Steps p.tables e below (T2.setTop (mkF m 31 #[.val (.int (2 : Int32)), .val (.int p1), .val (.int p2), .val (.int p3)] [(.ref b2), (.ref b2)])) _
    refine XS.iconst X2.here hx rfl (hb hby d3_31) ?_
    show Steps p.tables e below (T2.setTop (mkF m 32 #[.val (.int (2 : Int32)), .val (.int p1), .val (.int p2), .val (.int p3)] [(.int (0 : Int32)), (.ref b2), (.ref b2)])) _
    refine XS.iloadN X2.here hx rfl (hb hby d3_32) rfl ?_
    show Steps p.tables e below (T2.setTop (mkF m 33 #[.val (.int (2 : Int32)), .val (.int p1), .val (.int p2), .val (.int p3)] [(.int p1), (.int (0 : Int32)), (.ref b2), (.ref b2)])) _
    refine XS.i2dS X2.here hx rfl (hb hby d3_33) rfl rfl ?_
    exact kt
  obtain ⟨T6, h6, X6, e6, W6, st6⟩ := stD X2 hx hZ e2 Ar4 (j := (0 : Int32)) hin4 (g := (mkF m 34 #[.val (.int (2 : Int32)), .val (.int p1), .val (.int p2), .val (.int p3)] [(.double (FP.i2d p1)), (.int (0 : Int32)), (.ref b2), (.ref b2)])) rfl rfl (hb hby d3_34)
  have V6 := Arv.set Ar4 qk4 Sz4 Nn4 Hh4 Gg4 rfl W6 0 rfl (Nat.le_of_ble_eq_true rfl)
  have V6' : Arv Z h6 b2 k2 .double (2 : Int32) [(.double (FP.i2d p1)), (.double 0)] (.double 0) := V6
  have N6 := Fr.snoc X6 N0 gg_b2
  have pre7 : ∀ t, Steps p.tables e below (T6.setTop (mkF m 35 #[.val (.int (2 : Int32)), .val (.int p1), .val (.int p2), .val (.int p3)] [(.ref b2)])) t → Steps p.tables e below (s₁.setTop (entryFrame m #[(.int (2 : Int32)), (.int p1), (.int p2), (.int p3)] 4)) t := fun t kt => pre5 _ (st6 _ kt)
  obtain ⟨cl8, Ar8, qk8, Sz8, Nn8, Hh8, Gg8⟩ := id V6'
  have hin8 : ¬ ((1 : Int32) < 0 ∨ cl8.slots.size ≤ ((1 : Int32)).toNatClampNeg) := inb_of Sz8 ⟨by decide, by decide⟩
  have pre9 : ∀ t, Steps p.tables e below (T6.setTop (mkF m 39 #[.val (.int (2 : Int32)), .val (.int p1), .val (.int p2), .val (.int p3)] [(.double (FP.i2d p2)), (.int (1 : Int32)), (.ref b2), (.ref b2)])) t → Steps p.tables e below (s₁.setTop (entryFrame m #[(.int (2 : Int32)), (.int p1), (.int p2), (.int p3)] 4)) t := fun t kt => by
    refine pre7 _ ?_
    show Steps p.tables e below (T6.setTop (mkF m 35 #[.val (.int (2 : Int32)), .val (.int p1), .val (.int p2), .val (.int p3)] [(.ref b2)])) _
    refine XS.dup X6.here hx rfl (hb hby d3_35) rfl rfl ?_
    show Steps p.tables e below (T6.setTop (mkF m 36 #[.val (.int (2 : Int32)), .val (.int p1), .val (.int p2), .val (.int p3)] [(.ref b2), (.ref b2)])) _
    refine XS.iconst X6.here hx rfl (hb hby d3_36) ?_
    show Steps p.tables e below (T6.setTop (mkF m 37 #[.val (.int (2 : Int32)), .val (.int p1), .val (.int p2), .val (.int p3)] [(.int (1 : Int32)), (.ref b2), (.ref b2)])) _
    refine XS.iloadN X6.here hx rfl (hb hby d3_37) rfl ?_
    show Steps p.tables e below (T6.setTop (mkF m 38 #[.val (.int (2 : Int32)), .val (.int p1), .val (.int p2), .val (.int p3)] [(.int p2), (.int (1 : Int32)), (.ref b2), (.ref b2)])) _
    refine XS.i2dS X6.here hx rfl (hb hby d3_38) rfl rfl ?_
    exact kt
  obtain ⟨T10, h10, X10, e10, W10, st10⟩ := stD X6 hx hZ e6 Ar8 (j := (1 : Int32)) hin8 (g := (mkF m 39 #[.val (.int (2 : Int32)), .val (.int p1), .val (.int p2), .val (.int p3)] [(.double (FP.i2d p2)), (.int (1 : Int32)), (.ref b2), (.ref b2)])) rfl rfl (hb hby d3_39)
  have V10 := Arv.set Ar8 qk8 Sz8 Nn8 Hh8 Gg8 rfl W10 1 rfl (Nat.le_of_ble_eq_true rfl)
  have V10' : Arv Z h10 b2 k2 .double (2 : Int32) [(.double (FP.i2d p1)), (.double (FP.i2d p2))] (.double 0) := V10
  have N10 := Fr.snoc X10 N6 gg_b2
  have pre11 : ∀ t, Steps p.tables e below (T10.setTop (mkF m 40 #[.val (.int (2 : Int32)), .val (.int p1), .val (.int p2), .val (.int p3)] [(.ref b2)])) t → Steps p.tables e below (s₁.setTop (entryFrame m #[(.int (2 : Int32)), (.int p1), (.int p2), (.int p3)] 4)) t := fun t kt => pre9 _ (st10 _ kt)
  have k12 : Keep h0 h10 [] := (((K0.ext E2).wr W6 (Or.inr sz_b2)).wr W10 (Or.inr sz_b2))
  obtain ⟨fs, hr, hrun, hended, hW, hsame⟩ := X10.leave (v := (some (.ref b2))) (fun h => by rw [Bd.returns] at h; cases h)
  refine ⟨_, _, pre11 _ ?_, hrun, hended, _, _, rfl, ?_, ⟨_, rfl⟩, hW, hsame.mono (by decide) (by decide)⟩
  · show Steps p.tables e below (T10.setTop (mkF m 40 #[.val (.int (2 : Int32)), .val (.int p1), .val (.int p2), .val (.int p3)] [(.ref b2)])) _
    exact retOut X10 hx (t := (.array .double)) Bd.returns rfl (Or.inr (Or.inr (Or.inr (Or.inr ⟨rfl, rfl, rfl⟩)))) (hb hby d3_40) hr
  · show Q3m2 Z p1 p2 p3 h0 n0 _ T10.heap _
    rw [e10]
    exact ⟨by rw [gq2], N10, k12, _, by rw [← gq2]; exact V10'⟩
theorem ef_3m3 (m : MethodId) (p1 : Int32) (p2 : Int32) (p3 : Int32) : entryFrame m #[(.int (3 : Int32)), (.int p1), (.int p2), (.int p3)] 4 = (mkF m 0 #[.val (.int (3 : Int32)), .val (.int p1), .val (.int p2), .val (.int p3)] []) := by first | (simp [entryFrame, mkF, argsToLocals, Value.category]; done) | rfl
theorem d3_41 : decode method_4_code 41 = .ok (.iconst 3, 1) := by decide +kernel
theorem d3_42 : decode method_4_code 42 = .ok (.newarray .double, 2) := by decide +kernel
theorem d3_44 : decode method_4_code 44 = .ok (.dup, 1) := by decide +kernel
theorem d3_45 : decode method_4_code 45 = .ok (.iconst 0, 1) := by decide +kernel
theorem d3_46 : decode method_4_code 46 = .ok (.iload_n 1, 1) := by decide +kernel
theorem d3_47 : decode method_4_code 47 = .ok (.i2d, 1) := by decide +kernel
theorem d3_48 : decode method_4_code 48 = .ok (.dastore, 1) := by decide +kernel
theorem d3_49 : decode method_4_code 49 = .ok (.dup, 1) := by decide +kernel
theorem d3_50 : decode method_4_code 50 = .ok (.iconst 1, 1) := by decide +kernel
theorem d3_51 : decode method_4_code 51 = .ok (.iload_n 2, 1) := by decide +kernel
theorem d3_52 : decode method_4_code 52 = .ok (.i2d, 1) := by decide +kernel
theorem d3_53 : decode method_4_code 53 = .ok (.dastore, 1) := by decide +kernel
theorem d3_54 : decode method_4_code 54 = .ok (.dup, 1) := by decide +kernel
theorem d3_55 : decode method_4_code 55 = .ok (.iconst 2, 1) := by decide +kernel
theorem d3_56 : decode method_4_code 56 = .ok (.iload_n 3, 1) := by decide +kernel
theorem d3_57 : decode method_4_code 57 = .ok (.i2d, 1) := by decide +kernel
theorem d3_58 : decode method_4_code 58 = .ok (.dastore, 1) := by decide +kernel
theorem d3_59 : decode method_4_code 59 = .ok (.areturn, 1) := by decide +kernel
def Q3m3 (Z : State) (p1 : Int32) (p2 : Int32) (p3 : Int32) (h0 : Heap) (n0 : Nat) (v : Option Value) (h : Heap) (L : List Loc) : Prop := v = some (.ref h0.size) ∧ Fr n0 L ∧ Keep h0 h [] ∧ ∃ k : ClassId, Arv Z h h0.size k .double (3 : Int32) [(.double (FP.i2d p1)), (.double (FP.i2d p2)), (.double (FP.i2d p3))] (.double 0)
set_option maxRecDepth 65536 in
set_option maxHeartbeats 40000000 in
theorem rm3m3 (l : Launch) (Z : State) (a0 : Array Value) (hw : ∀ d ∈ tables_1, d.before a0 Z = true) (ws : List Jvm.Cond) (p1 : Int32) (p2 : Int32) (p3 : Int32) (h0 : Heap) (n0 : Nat) (Z0 : n0 ≤ h0.size) :
    MetFree l (⟨"com/example/tesserae/tesserae/core/VectorsDominatesPinLaw", "make", "(IIII)[D"⟩ : MethodName) (head1 (Jvm.Cond.code (⟨"com/example/tesserae/tesserae/core/VectorsDominatesPinLaw", "make", "(IIII)[D"⟩ : MethodName) method_4_code 4 (some (.array .double)) :: ws) ({ frames := 0, cells := 1, slots := 3, locals := 0 } : Room)) (fun a U => a = #[(.int (3 : Int32)), (.int p1), (.int p2), (.int p3)] ∧ Z.Warmed39 U.vm ∧ U.heap = h0) (fun _ _ _ _ _ => True) (fun _ U o U' => ∃ v L, o = .returned v ∧ Q3m3 Z p1 p2 p3 h0 n0 v U'.heap L ∧ FrameEnd U o U' L ({ frames := 0, cells := 1, slots := 3, locals := 0 } : Room).cells ({ frames := 0, cells := 1, slots := 3, locals := 0 } : Room).slots) := by
  refine MetFree.of_bodySF (plainFor_of_name pn_0) hisR ?_
  intro p e s m args below meth c s₁ Bd hml0 hP hK
  obtain ⟨rfl, hZ, hh⟩ := hP
  have hx := Bd.exec
  have hby := Bd.bytes
  have hml : c.maxLocals = 4 := hml0
  have hown : s.vm.findClass "com/example/tesserae/tesserae/core/VectorsDominatesPinLaw" = some m.cls := findClass_of_methodNamed Bd.named
  have hnm := (name_of_methodNamed Bd.named Bd.method).1
  have X0 : Stand p l e ({ frames := 0, cells := 1, slots := 3, locals := 0 } : Room) s m #[(.int (3 : Int32)), (.int p1), (.int p2), (.int p3)] below meth c s₁ [] 0 0 := Stand.of_body Bd
  have e0 : s₁.heap = h0 := by rw [← hh, Bd.state]; rfl
  have N0 := Fr.nil n0
  have K0 : Keep h0 h0 [] := Keep.refl _ _
  have pre0 : ∀ t, Steps p.tables e below (s₁.setTop (mkF m 0 #[.val (.int (3 : Int32)), .val (.int p1), .val (.int p2), .val (.int p3)] [])) t → Steps p.tables e below (s₁.setTop (entryFrame m #[(.int (3 : Int32)), (.int p1), (.int p2), (.int p3)] 4)) t := fun t k => castTop (ef_3m3 m p1 p2 p3) k
  have pre1 : ∀ t, Steps p.tables e below (s₁.setTop (mkF m 42 #[.val (.int (3 : Int32)), .val (.int p1), .val (.int p2), .val (.int p3)] [(.int (3 : Int32))])) t → Steps p.tables e below (s₁.setTop (entryFrame m #[(.int (3 : Int32)), (.int p1), (.int p2), (.int p3)] 4)) t := fun t kt => by
    refine pre0 _ ?_
    show Steps p.tables e below (s₁.setTop (mkF m 0 #[.val (.int (3 : Int32)), .val (.int p1), .val (.int p2), .val (.int p3)] [])) _
    refine XS.iloadN X0.here hx rfl (hb hby d3_0) rfl ?_
    show Steps p.tables e below (s₁.setTop (mkF m 1 #[.val (.int (3 : Int32)), .val (.int p1), .val (.int p2), .val (.int p3)] [(.int (3 : Int32))])) _
    refine XS.ifYes X0.here hx rfl (pc0 := 1) (pc' := 8) rfl (hb hby d3_1) rfl ((if0 _ _).trans (feq (by decide : ¬ ((3 : Int32) = (0 : Int32)))).2) (by decide) (by decide) ?_
    show Steps p.tables e below (s₁.setTop (mkF m 8 #[.val (.int (3 : Int32)), .val (.int p1), .val (.int p2), .val (.int p3)] [])) _
    refine XS.iloadN X0.here hx rfl (hb hby d3_8) rfl ?_
    show Steps p.tables e below (s₁.setTop (mkF m 9 #[.val (.int (3 : Int32)), .val (.int p1), .val (.int p2), .val (.int p3)] [(.int (3 : Int32))])) _
    refine XS.iconst X0.here hx rfl (hb hby d3_9) ?_
    show Steps p.tables e below (s₁.setTop (mkF m 10 #[.val (.int (3 : Int32)), .val (.int p1), .val (.int p2), .val (.int p3)] [(.int (1 : Int32)), (.int (3 : Int32))])) _
    refine XS.icmpYes X0.here hx rfl (pc0 := 10) (pc' := 22) rfl (hb hby d3_10) rfl (feq (by decide : ¬ ((3 : Int32) = (1 : Int32)))).2 (by decide) (by decide) ?_
    show Steps p.tables e below (s₁.setTop (mkF m 22 #[.val (.int (3 : Int32)), .val (.int p1), .val (.int p2), .val (.int p3)] [])) _
    refine XS.iloadN X0.here hx rfl (hb hby d3_22) rfl ?_
    show Steps p.tables e below (s₁.setTop (mkF m 23 #[.val (.int (3 : Int32)), .val (.int p1), .val (.int p2), .val (.int p3)] [(.int (3 : Int32))])) _
    refine XS.iconst X0.here hx rfl (hb hby d3_23) ?_
    show Steps p.tables e below (s₁.setTop (mkF m 24 #[.val (.int (3 : Int32)), .val (.int p1), .val (.int p2), .val (.int p3)] [(.int (2 : Int32)), (.int (3 : Int32))])) _
    refine XS.icmpYes X0.here hx rfl (pc0 := 24) (pc' := 41) rfl (hb hby d3_24) rfl (feq (by decide : ¬ ((3 : Int32) = (2 : Int32)))).2 (by decide) (by decide) ?_
    show Steps p.tables e below (s₁.setTop (mkF m 41 #[.val (.int (3 : Int32)), .val (.int p1), .val (.int p2), .val (.int p3)] [])) _
    refine XS.iconst X0.here hx rfl (hb hby d3_41) ?_
    exact kt
  obtain ⟨T2, h2, k2, X2, e2, E2, A2, st2⟩ := newP X0 hx hZ (hw _ (List.mem_of_getElem? (i := 10) rfl)) e0 (g := (mkF m 42 #[.val (.int (3 : Int32)), .val (.int p1), .val (.int p2), .val (.int p3)] [(.int (3 : Int32))])) rfl (hb hby d3_42) rfl (by decide) (cap := 3) (by decide) (by decide) (by decide) (by decide)
  obtain ⟨b2, gq2⟩ : ∃ z, z = h0.size := ⟨_, rfl⟩
  rw [← gq2] at A2 st2
  have gg_b2 : n0 ≤ b2 := Nat.le_trans Z0 (Nat.le_of_eq gq2.symm)
  have sz_b2 : h0.size ≤ b2 := Nat.le_trans K0.1 (Nat.le_of_eq gq2.symm)
  have V2 : Arv Z h2 b2 k2 .double (3 : Int32) [(.double 0), (.double 0), (.double 0)] (.double 0) := (Arv.new A2 (by decide)).pad (pad_rep [] (.double 0) 3)
  have pre3 : ∀ t, Steps p.tables e below (T2.setTop (mkF m 44 #[.val (.int (3 : Int32)), .val (.int p1), .val (.int p2), .val (.int p3)] [(.ref b2)])) t → Steps p.tables e below (s₁.setTop (entryFrame m #[(.int (3 : Int32)), (.int p1), (.int p2), (.int p3)] 4)) t := fun t kt => pre1 _ (st2 _ kt)
  obtain ⟨cl4, Ar4, qk4, Sz4, Nn4, Hh4, Gg4⟩ := id V2
  have hin4 : ¬ ((0 : Int32) < 0 ∨ cl4.slots.size ≤ ((0 : Int32)).toNatClampNeg) := inb_of Sz4 ⟨by decide, by decide⟩
  have pre5 : ∀ t, Steps p.tables e below (T2.setTop (mkF m 48 #[.val (.int (3 : Int32)), .val (.int p1), .val (.int p2), .val (.int p3)] [(.double (FP.i2d p1)), (.int (0 : Int32)), (.ref b2), (.ref b2)])) t → Steps p.tables e below (s₁.setTop (entryFrame m #[(.int (3 : Int32)), (.int p1), (.int p2), (.int p3)] 4)) t := fun t kt => by
    refine pre3 _ ?_
    show Steps p.tables e below (T2.setTop (mkF m 44 #[.val (.int (3 : Int32)), .val (.int p1), .val (.int p2), .val (.int p3)] [(.ref b2)])) _
    refine XS.dup X2.here hx rfl (hb hby d3_44) rfl rfl ?_
    show Steps p.tables e below (T2.setTop (mkF m 45 #[.val (.int (3 : Int32)), .val (.int p1), .val (.int p2), .val (.int p3)] [(.ref b2), (.ref b2)])) _
    refine XS.iconst X2.here hx rfl (hb hby d3_45) ?_
    show Steps p.tables e below (T2.setTop (mkF m 46 #[.val (.int (3 : Int32)), .val (.int p1), .val (.int p2), .val (.int p3)] [(.int (0 : Int32)), (.ref b2), (.ref b2)])) _
    refine XS.iloadN X2.here hx rfl (hb hby d3_46) rfl ?_
    show Steps p.tables e below (T2.setTop (mkF m 47 #[.val (.int (3 : Int32)), .val (.int p1), .val (.int p2), .val (.int p3)] [(.int p1), (.int (0 : Int32)), (.ref b2), (.ref b2)])) _
    refine XS.i2dS X2.here hx rfl (hb hby d3_47) rfl rfl ?_
    exact kt
  obtain ⟨T6, h6, X6, e6, W6, st6⟩ := stD X2 hx hZ e2 Ar4 (j := (0 : Int32)) hin4 (g := (mkF m 48 #[.val (.int (3 : Int32)), .val (.int p1), .val (.int p2), .val (.int p3)] [(.double (FP.i2d p1)), (.int (0 : Int32)), (.ref b2), (.ref b2)])) rfl rfl (hb hby d3_48)
  have V6 := Arv.set Ar4 qk4 Sz4 Nn4 Hh4 Gg4 rfl W6 0 rfl (Nat.le_of_ble_eq_true rfl)
  have V6' : Arv Z h6 b2 k2 .double (3 : Int32) [(.double (FP.i2d p1)), (.double 0), (.double 0)] (.double 0) := V6
  have N6 := Fr.snoc X6 N0 gg_b2
  have pre7 : ∀ t, Steps p.tables e below (T6.setTop (mkF m 49 #[.val (.int (3 : Int32)), .val (.int p1), .val (.int p2), .val (.int p3)] [(.ref b2)])) t → Steps p.tables e below (s₁.setTop (entryFrame m #[(.int (3 : Int32)), (.int p1), (.int p2), (.int p3)] 4)) t := fun t kt => pre5 _ (st6 _ kt)
  obtain ⟨cl8, Ar8, qk8, Sz8, Nn8, Hh8, Gg8⟩ := id V6'
  have hin8 : ¬ ((1 : Int32) < 0 ∨ cl8.slots.size ≤ ((1 : Int32)).toNatClampNeg) := inb_of Sz8 ⟨by decide, by decide⟩
  have pre9 : ∀ t, Steps p.tables e below (T6.setTop (mkF m 53 #[.val (.int (3 : Int32)), .val (.int p1), .val (.int p2), .val (.int p3)] [(.double (FP.i2d p2)), (.int (1 : Int32)), (.ref b2), (.ref b2)])) t → Steps p.tables e below (s₁.setTop (entryFrame m #[(.int (3 : Int32)), (.int p1), (.int p2), (.int p3)] 4)) t := fun t kt => by
    refine pre7 _ ?_
    show Steps p.tables e below (T6.setTop (mkF m 49 #[.val (.int (3 : Int32)), .val (.int p1), .val (.int p2), .val (.int p3)] [(.ref b2)])) _
    refine XS.dup X6.here hx rfl (hb hby d3_49) rfl rfl ?_
    show Steps p.tables e below (T6.setTop (mkF m 50 #[.val (.int (3 : Int32)), .val (.int p1), .val (.int p2), .val (.int p3)] [(.ref b2), (.ref b2)])) _
    refine XS.iconst X6.here hx rfl (hb hby d3_50) ?_
    show Steps p.tables e below (T6.setTop (mkF m 51 #[.val (.int (3 : Int32)), .val (.int p1), .val (.int p2), .val (.int p3)] [(.int (1 : Int32)), (.ref b2), (.ref b2)])) _
    refine XS.iloadN X6.here hx rfl (hb hby d3_51) rfl ?_
    show Steps p.tables e below (T6.setTop (mkF m 52 #[.val (.int (3 : Int32)), .val (.int p1), .val (.int p2), .val (.int p3)] [(.int p2), (.int (1 : Int32)), (.ref b2), (.ref b2)])) _
    refine XS.i2dS X6.here hx rfl (hb hby d3_52) rfl rfl ?_
    exact kt
  obtain ⟨T10, h10, X10, e10, W10, st10⟩ := stD X6 hx hZ e6 Ar8 (j := (1 : Int32)) hin8 (g := (mkF m 53 #[.val (.int (3 : Int32)), .val (.int p1), .val (.int p2), .val (.int p3)] [(.double (FP.i2d p2)), (.int (1 : Int32)), (.ref b2), (.ref b2)])) rfl rfl (hb hby d3_53)
  have V10 := Arv.set Ar8 qk8 Sz8 Nn8 Hh8 Gg8 rfl W10 1 rfl (Nat.le_of_ble_eq_true rfl)
  have V10' : Arv Z h10 b2 k2 .double (3 : Int32) [(.double (FP.i2d p1)), (.double (FP.i2d p2)), (.double 0)] (.double 0) := V10
  have N10 := Fr.snoc X10 N6 gg_b2
  have pre11 : ∀ t, Steps p.tables e below (T10.setTop (mkF m 54 #[.val (.int (3 : Int32)), .val (.int p1), .val (.int p2), .val (.int p3)] [(.ref b2)])) t → Steps p.tables e below (s₁.setTop (entryFrame m #[(.int (3 : Int32)), (.int p1), (.int p2), (.int p3)] 4)) t := fun t kt => pre9 _ (st10 _ kt)
  obtain ⟨cl12, Ar12, qk12, Sz12, Nn12, Hh12, Gg12⟩ := id V10'
  have hin12 : ¬ ((2 : Int32) < 0 ∨ cl12.slots.size ≤ ((2 : Int32)).toNatClampNeg) := inb_of Sz12 ⟨by decide, by decide⟩
  have pre13 : ∀ t, Steps p.tables e below (T10.setTop (mkF m 58 #[.val (.int (3 : Int32)), .val (.int p1), .val (.int p2), .val (.int p3)] [(.double (FP.i2d p3)), (.int (2 : Int32)), (.ref b2), (.ref b2)])) t → Steps p.tables e below (s₁.setTop (entryFrame m #[(.int (3 : Int32)), (.int p1), (.int p2), (.int p3)] 4)) t := fun t kt => by
    refine pre11 _ ?_
    show Steps p.tables e below (T10.setTop (mkF m 54 #[.val (.int (3 : Int32)), .val (.int p1), .val (.int p2), .val (.int p3)] [(.ref b2)])) _
    refine XS.dup X10.here hx rfl (hb hby d3_54) rfl rfl ?_
    show Steps p.tables e below (T10.setTop (mkF m 55 #[.val (.int (3 : Int32)), .val (.int p1), .val (.int p2), .val (.int p3)] [(.ref b2), (.ref b2)])) _
    refine XS.iconst X10.here hx rfl (hb hby d3_55) ?_
    show Steps p.tables e below (T10.setTop (mkF m 56 #[.val (.int (3 : Int32)), .val (.int p1), .val (.int p2), .val (.int p3)] [(.int (2 : Int32)), (.ref b2), (.ref b2)])) _
    refine XS.iloadN X10.here hx rfl (hb hby d3_56) rfl ?_
    show Steps p.tables e below (T10.setTop (mkF m 57 #[.val (.int (3 : Int32)), .val (.int p1), .val (.int p2), .val (.int p3)] [(.int p3), (.int (2 : Int32)), (.ref b2), (.ref b2)])) _
    refine XS.i2dS X10.here hx rfl (hb hby d3_57) rfl rfl ?_
    exact kt
  obtain ⟨T14, h14, X14, e14, W14, st14⟩ := stD X10 hx hZ e10 Ar12 (j := (2 : Int32)) hin12 (g := (mkF m 58 #[.val (.int (3 : Int32)), .val (.int p1), .val (.int p2), .val (.int p3)] [(.double (FP.i2d p3)), (.int (2 : Int32)), (.ref b2), (.ref b2)])) rfl rfl (hb hby d3_58)
  have V14 := Arv.set Ar12 qk12 Sz12 Nn12 Hh12 Gg12 rfl W14 2 rfl (Nat.le_of_ble_eq_true rfl)
  have V14' : Arv Z h14 b2 k2 .double (3 : Int32) [(.double (FP.i2d p1)), (.double (FP.i2d p2)), (.double (FP.i2d p3))] (.double 0) := V14
  have N14 := Fr.snoc X14 N10 gg_b2
  have pre15 : ∀ t, Steps p.tables e below (T14.setTop (mkF m 59 #[.val (.int (3 : Int32)), .val (.int p1), .val (.int p2), .val (.int p3)] [(.ref b2)])) t → Steps p.tables e below (s₁.setTop (entryFrame m #[(.int (3 : Int32)), (.int p1), (.int p2), (.int p3)] 4)) t := fun t kt => pre13 _ (st14 _ kt)
  have k16 : Keep h0 h14 [] := ((((K0.ext E2).wr W6 (Or.inr sz_b2)).wr W10 (Or.inr sz_b2)).wr W14 (Or.inr sz_b2))
  obtain ⟨fs, hr, hrun, hended, hW, hsame⟩ := X14.leave (v := (some (.ref b2))) (fun h => by rw [Bd.returns] at h; cases h)
  refine ⟨_, _, pre15 _ ?_, hrun, hended, _, _, rfl, ?_, ⟨_, rfl⟩, hW, hsame.mono (by decide) (by decide)⟩
  · show Steps p.tables e below (T14.setTop (mkF m 59 #[.val (.int (3 : Int32)), .val (.int p1), .val (.int p2), .val (.int p3)] [(.ref b2)])) _
    exact retOut X14 hx (t := (.array .double)) Bd.returns rfl (Or.inr (Or.inr (Or.inr (Or.inr ⟨rfl, rfl, rfl⟩)))) (hb hby d3_59) hr
  · show Q3m3 Z p1 p2 p3 h0 n0 _ T14.heap _
    rw [e14]
    exact ⟨by rw [gq2], N14, k16, _, by rw [← gq2]; exact V14'⟩
theorem pn_1 : plainName "com/example/tesserae/tesserae/core/Vectors" = true := by first | (simp [plainName, overriddenIn]; done) | decide +kernel
theorem ef_4m0 (m : MethodId) (a1 : Addr) (a2 : Addr) : entryFrame m #[(.ref a1), (.ref a2)] 4 = (mkF m 0 #[.val (.ref a1), .val (.ref a2), .unset, .unset] []) := by first | (simp [entryFrame, mkF, argsToLocals, Value.category]; done) | rfl
theorem d4_0 : decode prog_51_method_6_code 0 = .ok (.iconst 0, 1) := by decide +kernel
theorem d4_1 : decode prog_51_method_6_code 1 = .ok (.istore_n 2, 1) := by decide +kernel
theorem d4_2 : decode prog_51_method_6_code 2 = .ok (.iconst 0, 1) := by decide +kernel
theorem d4_3 : decode prog_51_method_6_code 3 = .ok (.istore_n 3, 1) := by decide +kernel
theorem d4_4 : decode prog_51_method_6_code 4 = .ok (.iload_n 3, 1) := by decide +kernel
theorem d4_5 : decode prog_51_method_6_code 5 = .ok (.aload_n 0, 1) := by decide +kernel
theorem d4_6 : decode prog_51_method_6_code 6 = .ok (.arraylength, 1) := by decide +kernel
theorem d4_7 : decode prog_51_method_6_code 7 = .ok (.if_icmp .ge 39, 3) := by decide +kernel
theorem d4_46 : decode prog_51_method_6_code 46 = .ok (.iload_n 2, 1) := by decide +kernel
theorem d4_47 : decode prog_51_method_6_code 47 = .ok (.ireturn, 1) := by decide +kernel
def Q4m0 (Z : State) (a1 : Addr) (a2 : Addr) (k1 : ClassId) (k2 : ClassId) (h0 : Heap) (n0 : Nat) (v : Option Value) (h : Heap) (L : List Loc) : Prop := v = some (.int (own_dom [] (0 : Int32))) ∧ Fr n0 L ∧ h = h0
set_option maxRecDepth 65536 in
set_option maxHeartbeats 40000000 in
theorem rm4m0 (l : Launch) (Z : State) (a0 : Array Value) (hw : ∀ d ∈ tables_1, d.before a0 Z = true) (ws : List Jvm.Cond) (a1 : Addr) (a2 : Addr) (k1 : ClassId) (k2 : ClassId) (h0 : Heap) (n0 : Nat) (Z0 : n0 ≤ h0.size) (V1 : Arv Z h0 a1 k1 .double (0 : Int32) [] (.double 0)) (V2 : Arv Z h0 a2 k2 .double (0 : Int32) [] (.double 0)) :
    MetFree l (⟨"com/example/tesserae/tesserae/core/Vectors", "dominates", "([D[D)Z"⟩ : MethodName) (head1 (Jvm.Cond.code (⟨"com/example/tesserae/tesserae/core/Vectors", "dominates", "([D[D)Z"⟩ : MethodName) prog_51_method_6_code 4 (some .boolean) :: ws) ({ frames := 0, cells := 0, slots := 0, locals := 0 } : Room)) (fun a U => a = #[(.ref a1), (.ref a2)] ∧ Z.Warmed39 U.vm ∧ U.heap = h0) (fun _ _ _ _ _ => True) (fun _ U o U' => ∃ v L, o = .returned v ∧ Q4m0 Z a1 a2 k1 k2 h0 n0 v U'.heap L ∧ FrameEnd U o U' L ({ frames := 0, cells := 0, slots := 0, locals := 0 } : Room).cells ({ frames := 0, cells := 0, slots := 0, locals := 0 } : Room).slots) := by
  refine MetFree.of_bodySF (plainFor_of_name pn_1) hisR ?_
  intro p e s m args below meth c s₁ Bd hml0 hP hK
  obtain ⟨rfl, hZ, hh⟩ := hP
  have hx := Bd.exec
  have hby := Bd.bytes
  have hml : c.maxLocals = 4 := hml0
  have hown : s.vm.findClass "com/example/tesserae/tesserae/core/Vectors" = some m.cls := findClass_of_methodNamed Bd.named
  have hnm := (name_of_methodNamed Bd.named Bd.method).1
  have X0 : Stand p l e ({ frames := 0, cells := 0, slots := 0, locals := 0 } : Room) s m #[(.ref a1), (.ref a2)] below meth c s₁ [] 0 0 := Stand.of_body Bd
  have e0 : s₁.heap = h0 := by rw [← hh, Bd.state]; rfl
  have N0 := Fr.nil n0
  have pre0 : ∀ t, Steps p.tables e below (s₁.setTop (mkF m 0 #[.val (.ref a1), .val (.ref a2), .unset, .unset] [])) t → Steps p.tables e below (s₁.setTop (entryFrame m #[(.ref a1), (.ref a2)] 4)) t := fun t k => castTop (ef_4m0 m a1 a2) k
  have pre1 : ∀ t, Steps p.tables e below (s₁.setTop (mkF m 6 #[.val (.ref a1), .val (.ref a2), .val (.int (0 : Int32)), .val (.int (0 : Int32))] [(.ref a1), (.int (0 : Int32))])) t → Steps p.tables e below (s₁.setTop (entryFrame m #[(.ref a1), (.ref a2)] 4)) t := fun t kt => by
    refine pre0 _ ?_
    show Steps p.tables e below (s₁.setTop (mkF m 0 #[.val (.ref a1), .val (.ref a2), .unset, .unset] [])) _
    refine XS.iconst X0.here hx rfl (hb hby d4_0) ?_
    show Steps p.tables e below (s₁.setTop (mkF m 1 #[.val (.ref a1), .val (.ref a2), .unset, .unset] [(.int (0 : Int32))])) _
    refine XS.istoreN X0.here hx rfl (hb hby d4_1) rfl (l' := #[.val (.ref a1), .val (.ref a2), .val (.int (0 : Int32)), .unset]) rfl ?_
    show Steps p.tables e below (s₁.setTop (mkF m 2 #[.val (.ref a1), .val (.ref a2), .val (.int (0 : Int32)), .unset] [])) _
    refine XS.iconst X0.here hx rfl (hb hby d4_2) ?_
    show Steps p.tables e below (s₁.setTop (mkF m 3 #[.val (.ref a1), .val (.ref a2), .val (.int (0 : Int32)), .unset] [(.int (0 : Int32))])) _
    refine XS.istoreN X0.here hx rfl (hb hby d4_3) rfl (l' := #[.val (.ref a1), .val (.ref a2), .val (.int (0 : Int32)), .val (.int (0 : Int32))]) rfl ?_
    show Steps p.tables e below (s₁.setTop (mkF m 4 #[.val (.ref a1), .val (.ref a2), .val (.int (0 : Int32)), .val (.int (0 : Int32))] [])) _
    refine XS.iloadN X0.here hx rfl (hb hby d4_4) rfl ?_
    show Steps p.tables e below (s₁.setTop (mkF m 5 #[.val (.ref a1), .val (.ref a2), .val (.int (0 : Int32)), .val (.int (0 : Int32))] [(.int (0 : Int32))])) _
    refine XS.aloadN X0.here hx rfl (hb hby d4_5) rfl rfl ?_
    exact kt
  obtain ⟨cl2, Ar2, qk2, Sz2, Nn2, Hh2, Gg2⟩ := id V1
  have pre3 : ∀ t, Steps p.tables e below (s₁.setTop (mkF m 47 #[.val (.ref a1), .val (.ref a2), .val (.int (0 : Int32)), .val (.int (0 : Int32))] [(.int (0 : Int32))])) t → Steps p.tables e below (s₁.setTop (entryFrame m #[(.ref a1), (.ref a2)] 4)) t := fun t kt => by
    refine pre1 _ ?_
    show Steps p.tables e below (s₁.setTop (mkF m 6 #[.val (.ref a1), .val (.ref a2), .val (.int (0 : Int32)), .val (.int (0 : Int32))] [(.ref a1), (.int (0 : Int32))])) _
    refine X0.arraylength hx (by rw [e0]; exact Ar2.1) (State.isArrayOf_alike hZ.alike Ar2.2.1) (g := (mkF m 6 #[.val (.ref a1), .val (.ref a2), .val (.int (0 : Int32)), .val (.int (0 : Int32))] [(.ref a1), (.int (0 : Int32))])) rfl rfl (hb hby d4_6) _ ?_
    rw [len_of Sz2 Nn2]
    show Steps p.tables e below (s₁.setTop (mkF m 7 #[.val (.ref a1), .val (.ref a2), .val (.int (0 : Int32)), .val (.int (0 : Int32))] [(.int (0 : Int32)), (.int (0 : Int32))])) _
    refine XS.icmpYes X0.here hx rfl (pc0 := 7) (pc' := 46) rfl (hb hby d4_7) rfl (flt (by decide : ¬ ((0 : Int32) < (0 : Int32)))).2.1 (by decide) (by decide) ?_
    show Steps p.tables e below (s₁.setTop (mkF m 46 #[.val (.ref a1), .val (.ref a2), .val (.int (0 : Int32)), .val (.int (0 : Int32))] [])) _
    refine XS.iloadN X0.here hx rfl (hb hby d4_46) rfl ?_
    exact kt
  have ev : own_dom [] (0 : Int32) = (0 : Int32) := by simp only [own_dom, if_true, if_false]
  obtain ⟨fs, hr, hrun, hended, hW, hsame⟩ := X0.leave (v := (some (.int (0 : Int32)))) (fun h => by rw [Bd.returns] at h; cases h)
  refine ⟨_, _, pre3 _ ?_, hrun, hended, _, _, rfl, ?_, ⟨_, rfl⟩, hW, hsame.mono (by decide) (by decide)⟩
  · show Steps p.tables e below (s₁.setTop (mkF m 47 #[.val (.ref a1), .val (.ref a2), .val (.int (0 : Int32)), .val (.int (0 : Int32))] [(.int (0 : Int32))])) _
    exact retN X0 hx (t := .boolean) Bd.returns (by simp) (hb hby d4_47) hr
  · show Q4m0 Z a1 a2 k1 k2 h0 n0 _ s₁.heap _
    rw [e0]
    exact ⟨by rw [ev], N0, rfl⟩
theorem ef_4m1 (m : MethodId) (a1 : Addr) (a2 : Addr) : entryFrame m #[(.ref a1), (.ref a2)] 4 = (mkF m 0 #[.val (.ref a1), .val (.ref a2), .unset, .unset] []) := by first | (simp [entryFrame, mkF, argsToLocals, Value.category]; done) | rfl
theorem d4_10 : decode prog_51_method_6_code 10 = .ok (.aload_n 0, 1) := by decide +kernel
theorem d4_11 : decode prog_51_method_6_code 11 = .ok (.iload_n 3, 1) := by decide +kernel
theorem d4_12 : decode prog_51_method_6_code 12 = .ok (.daload, 1) := by decide +kernel
theorem d4_13 : decode prog_51_method_6_code 13 = .ok (.aload_n 1, 1) := by decide +kernel
theorem d4_14 : decode prog_51_method_6_code 14 = .ok (.iload_n 3, 1) := by decide +kernel
theorem d4_15 : decode prog_51_method_6_code 15 = .ok (.daload, 1) := by decide +kernel
theorem d4_16 : decode prog_51_method_6_code 16 = .ok (.dcmp .l, 1) := by decide +kernel
theorem d4_17 : decode prog_51_method_6_code 17 = .ok (.ifCond .le 5, 3) := by decide +kernel
theorem d4_22 : decode prog_51_method_6_code 22 = .ok (.iload_n 2, 1) := by decide +kernel
theorem d4_23 : decode prog_51_method_6_code 23 = .ok (.aload_n 0, 1) := by decide +kernel
theorem d4_24 : decode prog_51_method_6_code 24 = .ok (.iload_n 3, 1) := by decide +kernel
theorem d4_25 : decode prog_51_method_6_code 25 = .ok (.daload, 1) := by decide +kernel
theorem d4_26 : decode prog_51_method_6_code 26 = .ok (.aload_n 1, 1) := by decide +kernel
theorem d4_27 : decode prog_51_method_6_code 27 = .ok (.iload_n 3, 1) := by decide +kernel
theorem d4_28 : decode prog_51_method_6_code 28 = .ok (.daload, 1) := by decide +kernel
theorem d4_29 : decode prog_51_method_6_code 29 = .ok (.dcmp .g, 1) := by decide +kernel
theorem d4_30 : decode prog_51_method_6_code 30 = .ok (.ifCond .ge 7, 3) := by decide +kernel
theorem d4_33 : decode prog_51_method_6_code 33 = .ok (.iconst 1, 1) := by decide +kernel
theorem d4_34 : decode prog_51_method_6_code 34 = .ok (.goto 4, 3) := by decide +kernel
theorem d4_38 : decode prog_51_method_6_code 38 = .ok (.ior, 1) := by decide +kernel
theorem d4_39 : decode prog_51_method_6_code 39 = .ok (.istore_n 2, 1) := by decide +kernel
theorem d4_40 : decode prog_51_method_6_code 40 = .ok (.iinc 3 1, 3) := by decide +kernel
theorem d4_43 : decode prog_51_method_6_code 43 = .ok (.goto (-39), 3) := by decide +kernel
theorem d4_20 : decode prog_51_method_6_code 20 = .ok (.iconst 0, 1) := by decide +kernel
theorem d4_21 : decode prog_51_method_6_code 21 = .ok (.ireturn, 1) := by decide +kernel
theorem d4_37 : decode prog_51_method_6_code 37 = .ok (.iconst 0, 1) := by decide +kernel
def Q4m1 (Z : State) (a1 : Addr) (a2 : Addr) (k1 : ClassId) (k2 : ClassId) (x0 : Int32) (y0 : Int32) (h0 : Heap) (n0 : Nat) (v : Option Value) (h : Heap) (L : List Loc) : Prop := v = some (.int (own_dom [(x0, y0)] (0 : Int32))) ∧ Fr n0 L ∧ h = h0
set_option maxRecDepth 65536 in
set_option maxHeartbeats 40000000 in
theorem rm4m1 (l : Launch) (Z : State) (a0 : Array Value) (hw : ∀ d ∈ tables_1, d.before a0 Z = true) (ws : List Jvm.Cond) (a1 : Addr) (a2 : Addr) (k1 : ClassId) (k2 : ClassId) (x0 : Int32) (y0 : Int32) (h0 : Heap) (n0 : Nat) (Z0 : n0 ≤ h0.size) (V1 : Arv Z h0 a1 k1 .double (1 : Int32) [(.double (FP.i2d x0))] (.double 0)) (V2 : Arv Z h0 a2 k2 .double (1 : Int32) [(.double (FP.i2d y0))] (.double 0)) :
    MetFree l (⟨"com/example/tesserae/tesserae/core/Vectors", "dominates", "([D[D)Z"⟩ : MethodName) (head1 (Jvm.Cond.code (⟨"com/example/tesserae/tesserae/core/Vectors", "dominates", "([D[D)Z"⟩ : MethodName) prog_51_method_6_code 4 (some .boolean) :: ws) ({ frames := 0, cells := 0, slots := 0, locals := 0 } : Room)) (fun a U => a = #[(.ref a1), (.ref a2)] ∧ Z.Warmed39 U.vm ∧ U.heap = h0) (fun _ _ _ _ _ => True) (fun _ U o U' => ∃ v L, o = .returned v ∧ Q4m1 Z a1 a2 k1 k2 x0 y0 h0 n0 v U'.heap L ∧ FrameEnd U o U' L ({ frames := 0, cells := 0, slots := 0, locals := 0 } : Room).cells ({ frames := 0, cells := 0, slots := 0, locals := 0 } : Room).slots) := by
  refine MetFree.of_bodySF (plainFor_of_name pn_1) hisR ?_
  intro p e s m args below meth c s₁ Bd hml0 hP hK
  obtain ⟨rfl, hZ, hh⟩ := hP
  have hx := Bd.exec
  have hby := Bd.bytes
  have hml : c.maxLocals = 4 := hml0
  have hown : s.vm.findClass "com/example/tesserae/tesserae/core/Vectors" = some m.cls := findClass_of_methodNamed Bd.named
  have hnm := (name_of_methodNamed Bd.named Bd.method).1
  have X0 : Stand p l e ({ frames := 0, cells := 0, slots := 0, locals := 0 } : Room) s m #[(.ref a1), (.ref a2)] below meth c s₁ [] 0 0 := Stand.of_body Bd
  have e0 : s₁.heap = h0 := by rw [← hh, Bd.state]; rfl
  have N0 := Fr.nil n0
  have pre0 : ∀ t, Steps p.tables e below (s₁.setTop (mkF m 0 #[.val (.ref a1), .val (.ref a2), .unset, .unset] [])) t → Steps p.tables e below (s₁.setTop (entryFrame m #[(.ref a1), (.ref a2)] 4)) t := fun t k => castTop (ef_4m1 m a1 a2) k
  have pre1 : ∀ t, Steps p.tables e below (s₁.setTop (mkF m 6 #[.val (.ref a1), .val (.ref a2), .val (.int (0 : Int32)), .val (.int (0 : Int32))] [(.ref a1), (.int (0 : Int32))])) t → Steps p.tables e below (s₁.setTop (entryFrame m #[(.ref a1), (.ref a2)] 4)) t := fun t kt => by
    refine pre0 _ ?_
    show Steps p.tables e below (s₁.setTop (mkF m 0 #[.val (.ref a1), .val (.ref a2), .unset, .unset] [])) _
    refine XS.iconst X0.here hx rfl (hb hby d4_0) ?_
    show Steps p.tables e below (s₁.setTop (mkF m 1 #[.val (.ref a1), .val (.ref a2), .unset, .unset] [(.int (0 : Int32))])) _
    refine XS.istoreN X0.here hx rfl (hb hby d4_1) rfl (l' := #[.val (.ref a1), .val (.ref a2), .val (.int (0 : Int32)), .unset]) rfl ?_
    show Steps p.tables e below (s₁.setTop (mkF m 2 #[.val (.ref a1), .val (.ref a2), .val (.int (0 : Int32)), .unset] [])) _
    refine XS.iconst X0.here hx rfl (hb hby d4_2) ?_
    show Steps p.tables e below (s₁.setTop (mkF m 3 #[.val (.ref a1), .val (.ref a2), .val (.int (0 : Int32)), .unset] [(.int (0 : Int32))])) _
    refine XS.istoreN X0.here hx rfl (hb hby d4_3) rfl (l' := #[.val (.ref a1), .val (.ref a2), .val (.int (0 : Int32)), .val (.int (0 : Int32))]) rfl ?_
    show Steps p.tables e below (s₁.setTop (mkF m 4 #[.val (.ref a1), .val (.ref a2), .val (.int (0 : Int32)), .val (.int (0 : Int32))] [])) _
    refine XS.iloadN X0.here hx rfl (hb hby d4_4) rfl ?_
    show Steps p.tables e below (s₁.setTop (mkF m 5 #[.val (.ref a1), .val (.ref a2), .val (.int (0 : Int32)), .val (.int (0 : Int32))] [(.int (0 : Int32))])) _
    refine XS.aloadN X0.here hx rfl (hb hby d4_5) rfl rfl ?_
    exact kt
  obtain ⟨cl2, Ar2, qk2, Sz2, Nn2, Hh2, Gg2⟩ := id V1
  have pre3 : ∀ t, Steps p.tables e below (s₁.setTop (mkF m 10 #[.val (.ref a1), .val (.ref a2), .val (.int (0 : Int32)), .val (.int (0 : Int32))] [])) t → Steps p.tables e below (s₁.setTop (entryFrame m #[(.ref a1), (.ref a2)] 4)) t := fun t kt => by
    refine pre1 _ ?_
    show Steps p.tables e below (s₁.setTop (mkF m 6 #[.val (.ref a1), .val (.ref a2), .val (.int (0 : Int32)), .val (.int (0 : Int32))] [(.ref a1), (.int (0 : Int32))])) _
    refine X0.arraylength hx (by rw [e0]; exact Ar2.1) (State.isArrayOf_alike hZ.alike Ar2.2.1) (g := (mkF m 6 #[.val (.ref a1), .val (.ref a2), .val (.int (0 : Int32)), .val (.int (0 : Int32))] [(.ref a1), (.int (0 : Int32))])) rfl rfl (hb hby d4_6) _ ?_
    rw [len_of Sz2 Nn2]
    show Steps p.tables e below (s₁.setTop (mkF m 7 #[.val (.ref a1), .val (.ref a2), .val (.int (0 : Int32)), .val (.int (0 : Int32))] [(.int (1 : Int32)), (.int (0 : Int32))])) _
    refine XS.icmpNo X0.here hx rfl (hb hby d4_7) rfl (tlt (by decide : (0 : Int32) < (1 : Int32))).2.1 ?_
    exact kt
  rcases own_tri x0 y0 with ⟨h4a, h4b⟩ | h4c | ⟨h4d, h4e, h4f⟩
  · have pre5 : ∀ t, Steps p.tables e below (s₁.setTop (mkF m 12 #[.val (.ref a1), .val (.ref a2), .val (.int (0 : Int32)), .val (.int (0 : Int32))] [(.int (0 : Int32)), (.ref a1)])) t → Steps p.tables e below (s₁.setTop (entryFrame m #[(.ref a1), (.ref a2)] 4)) t := fun t kt => by
      refine pre3 _ ?_
      show Steps p.tables e below (s₁.setTop (mkF m 10 #[.val (.ref a1), .val (.ref a2), .val (.int (0 : Int32)), .val (.int (0 : Int32))] [])) _
      refine XS.aloadN X0.here hx rfl (hb hby d4_10) rfl rfl ?_
      show Steps p.tables e below (s₁.setTop (mkF m 11 #[.val (.ref a1), .val (.ref a2), .val (.int (0 : Int32)), .val (.int (0 : Int32))] [(.ref a1)])) _
      refine XS.iloadN X0.here hx rfl (hb hby d4_11) rfl ?_
      exact kt
    obtain ⟨cl6, Ar6, qk6, Sz6, Nn6, Hh6, Gg6⟩ := id V1
    have hin6 : ¬ ((0 : Int32) < 0 ∨ cl6.slots.size ≤ ((0 : Int32)).toNatClampNeg) := inb_of Sz6 ⟨by decide, by decide⟩
    have hat6 : cl6.slots[((0 : Int32)).toNatClampNeg]? = some (.double (FP.i2d x0)) := Hh6.at hin6 rfl
    have pre7 : ∀ t, Steps p.tables e below (s₁.setTop (mkF m 15 #[.val (.ref a1), .val (.ref a2), .val (.int (0 : Int32)), .val (.int (0 : Int32))] [(.int (0 : Int32)), (.ref a2), (.double (FP.i2d x0))])) t → Steps p.tables e below (s₁.setTop (entryFrame m #[(.ref a1), (.ref a2)] 4)) t := fun t kt => by
      refine pre5 _ ?_
      show Steps p.tables e below (s₁.setTop (mkF m 12 #[.val (.ref a1), .val (.ref a2), .val (.int (0 : Int32)), .val (.int (0 : Int32))] [(.int (0 : Int32)), (.ref a1)])) _
      refine X0.daload hx (j := (0 : Int32)) (v := (.double (FP.i2d x0))) (by rw [e0]; exact Ar6.1) (State.isArrayOf_alike hZ.alike Ar6.2.1) Ar6.2.2 hin6 hat6 (g := (mkF m 12 #[.val (.ref a1), .val (.ref a2), .val (.int (0 : Int32)), .val (.int (0 : Int32))] [(.int (0 : Int32)), (.ref a1)])) rfl rfl (hb hby d4_12) _ ?_
      show Steps p.tables e below (s₁.setTop (mkF m 13 #[.val (.ref a1), .val (.ref a2), .val (.int (0 : Int32)), .val (.int (0 : Int32))] [(.double (FP.i2d x0))])) _
      refine XS.aloadN X0.here hx rfl (hb hby d4_13) rfl rfl ?_
      show Steps p.tables e below (s₁.setTop (mkF m 14 #[.val (.ref a1), .val (.ref a2), .val (.int (0 : Int32)), .val (.int (0 : Int32))] [(.ref a2), (.double (FP.i2d x0))])) _
      refine XS.iloadN X0.here hx rfl (hb hby d4_14) rfl ?_
      exact kt
    obtain ⟨cl8, Ar8, qk8, Sz8, Nn8, Hh8, Gg8⟩ := id V2
    have hin8 : ¬ ((0 : Int32) < 0 ∨ cl8.slots.size ≤ ((0 : Int32)).toNatClampNeg) := inb_of Sz8 ⟨by decide, by decide⟩
    have hat8 : cl8.slots[((0 : Int32)).toNatClampNeg]? = some (.double (FP.i2d y0)) := Hh8.at hin8 rfl
    have pre9 : ∀ t, Steps p.tables e below (s₁.setTop (mkF m 25 #[.val (.ref a1), .val (.ref a2), .val (.int (0 : Int32)), .val (.int (0 : Int32))] [(.int (0 : Int32)), (.ref a1), (.int (0 : Int32))])) t → Steps p.tables e below (s₁.setTop (entryFrame m #[(.ref a1), (.ref a2)] 4)) t := fun t kt => by
      refine pre7 _ ?_
      show Steps p.tables e below (s₁.setTop (mkF m 15 #[.val (.ref a1), .val (.ref a2), .val (.int (0 : Int32)), .val (.int (0 : Int32))] [(.int (0 : Int32)), (.ref a2), (.double (FP.i2d x0))])) _
      refine X0.daload hx (j := (0 : Int32)) (v := (.double (FP.i2d y0))) (by rw [e0]; exact Ar8.1) (State.isArrayOf_alike hZ.alike Ar8.2.1) Ar8.2.2 hin8 hat8 (g := (mkF m 15 #[.val (.ref a1), .val (.ref a2), .val (.int (0 : Int32)), .val (.int (0 : Int32))] [(.int (0 : Int32)), (.ref a2), (.double (FP.i2d x0))])) rfl rfl (hb hby d4_15) _ ?_
      show Steps p.tables e below (s₁.setTop (mkF m 16 #[.val (.ref a1), .val (.ref a2), .val (.int (0 : Int32)), .val (.int (0 : Int32))] [(.double (FP.i2d y0)), (.double (FP.i2d x0))])) _
      refine XS.dcmpS X0.here hx rfl (hb hby d4_16) rfl (own_d1 h4a _) ?_
      show Steps p.tables e below (s₁.setTop (mkF m 17 #[.val (.ref a1), .val (.ref a2), .val (.int (0 : Int32)), .val (.int (0 : Int32))] [(.int (-1 : Int32))])) _
      refine XS.ifYes X0.here hx rfl (pc0 := 17) (pc' := 22) rfl (hb hby d4_17) rfl ((if0 _ _).trans (flt (by decide : ¬ ((0 : Int32) < (-1 : Int32)))).2.2.2) (by decide) (by decide) ?_
      show Steps p.tables e below (s₁.setTop (mkF m 22 #[.val (.ref a1), .val (.ref a2), .val (.int (0 : Int32)), .val (.int (0 : Int32))] [])) _
      refine XS.iloadN X0.here hx rfl (hb hby d4_22) rfl ?_
      show Steps p.tables e below (s₁.setTop (mkF m 23 #[.val (.ref a1), .val (.ref a2), .val (.int (0 : Int32)), .val (.int (0 : Int32))] [(.int (0 : Int32))])) _
      refine XS.aloadN X0.here hx rfl (hb hby d4_23) rfl rfl ?_
      show Steps p.tables e below (s₁.setTop (mkF m 24 #[.val (.ref a1), .val (.ref a2), .val (.int (0 : Int32)), .val (.int (0 : Int32))] [(.ref a1), (.int (0 : Int32))])) _
      refine XS.iloadN X0.here hx rfl (hb hby d4_24) rfl ?_
      exact kt
    obtain ⟨cl10, Ar10, qk10, Sz10, Nn10, Hh10, Gg10⟩ := id V1
    have hin10 : ¬ ((0 : Int32) < 0 ∨ cl10.slots.size ≤ ((0 : Int32)).toNatClampNeg) := inb_of Sz10 ⟨by decide, by decide⟩
    have hat10 : cl10.slots[((0 : Int32)).toNatClampNeg]? = some (.double (FP.i2d x0)) := Hh10.at hin10 rfl
    have pre11 : ∀ t, Steps p.tables e below (s₁.setTop (mkF m 28 #[.val (.ref a1), .val (.ref a2), .val (.int (0 : Int32)), .val (.int (0 : Int32))] [(.int (0 : Int32)), (.ref a2), (.double (FP.i2d x0)), (.int (0 : Int32))])) t → Steps p.tables e below (s₁.setTop (entryFrame m #[(.ref a1), (.ref a2)] 4)) t := fun t kt => by
      refine pre9 _ ?_
      show Steps p.tables e below (s₁.setTop (mkF m 25 #[.val (.ref a1), .val (.ref a2), .val (.int (0 : Int32)), .val (.int (0 : Int32))] [(.int (0 : Int32)), (.ref a1), (.int (0 : Int32))])) _
      refine X0.daload hx (j := (0 : Int32)) (v := (.double (FP.i2d x0))) (by rw [e0]; exact Ar10.1) (State.isArrayOf_alike hZ.alike Ar10.2.1) Ar10.2.2 hin10 hat10 (g := (mkF m 25 #[.val (.ref a1), .val (.ref a2), .val (.int (0 : Int32)), .val (.int (0 : Int32))] [(.int (0 : Int32)), (.ref a1), (.int (0 : Int32))])) rfl rfl (hb hby d4_25) _ ?_
      show Steps p.tables e below (s₁.setTop (mkF m 26 #[.val (.ref a1), .val (.ref a2), .val (.int (0 : Int32)), .val (.int (0 : Int32))] [(.double (FP.i2d x0)), (.int (0 : Int32))])) _
      refine XS.aloadN X0.here hx rfl (hb hby d4_26) rfl rfl ?_
      show Steps p.tables e below (s₁.setTop (mkF m 27 #[.val (.ref a1), .val (.ref a2), .val (.int (0 : Int32)), .val (.int (0 : Int32))] [(.ref a2), (.double (FP.i2d x0)), (.int (0 : Int32))])) _
      refine XS.iloadN X0.here hx rfl (hb hby d4_27) rfl ?_
      exact kt
    obtain ⟨cl12, Ar12, qk12, Sz12, Nn12, Hh12, Gg12⟩ := id V2
    have hin12 : ¬ ((0 : Int32) < 0 ∨ cl12.slots.size ≤ ((0 : Int32)).toNatClampNeg) := inb_of Sz12 ⟨by decide, by decide⟩
    have hat12 : cl12.slots[((0 : Int32)).toNatClampNeg]? = some (.double (FP.i2d y0)) := Hh12.at hin12 rfl
    have pre13 : ∀ t, Steps p.tables e below (s₁.setTop (mkF m 6 #[.val (.ref a1), .val (.ref a2), .val (.int (1 : Int32)), .val (.int (1 : Int32))] [(.ref a1), (.int (1 : Int32))])) t → Steps p.tables e below (s₁.setTop (entryFrame m #[(.ref a1), (.ref a2)] 4)) t := fun t kt => by
      refine pre11 _ ?_
      show Steps p.tables e below (s₁.setTop (mkF m 28 #[.val (.ref a1), .val (.ref a2), .val (.int (0 : Int32)), .val (.int (0 : Int32))] [(.int (0 : Int32)), (.ref a2), (.double (FP.i2d x0)), (.int (0 : Int32))])) _
      refine X0.daload hx (j := (0 : Int32)) (v := (.double (FP.i2d y0))) (by rw [e0]; exact Ar12.1) (State.isArrayOf_alike hZ.alike Ar12.2.1) Ar12.2.2 hin12 hat12 (g := (mkF m 28 #[.val (.ref a1), .val (.ref a2), .val (.int (0 : Int32)), .val (.int (0 : Int32))] [(.int (0 : Int32)), (.ref a2), (.double (FP.i2d x0)), (.int (0 : Int32))])) rfl rfl (hb hby d4_28) _ ?_
      show Steps p.tables e below (s₁.setTop (mkF m 29 #[.val (.ref a1), .val (.ref a2), .val (.int (0 : Int32)), .val (.int (0 : Int32))] [(.double (FP.i2d y0)), (.double (FP.i2d x0)), (.int (0 : Int32))])) _
      refine XS.dcmpS X0.here hx rfl (hb hby d4_29) rfl (own_d1 h4a _) ?_
      show Steps p.tables e below (s₁.setTop (mkF m 30 #[.val (.ref a1), .val (.ref a2), .val (.int (0 : Int32)), .val (.int (0 : Int32))] [(.int (-1 : Int32)), (.int (0 : Int32))])) _
      refine XS.ifNo X0.here hx rfl (hb hby d4_30) rfl ((if0 _ _).trans (tlt (by decide : (-1 : Int32) < (0 : Int32))).2.1) ?_
      show Steps p.tables e below (s₁.setTop (mkF m 33 #[.val (.ref a1), .val (.ref a2), .val (.int (0 : Int32)), .val (.int (0 : Int32))] [(.int (0 : Int32))])) _
      refine XS.iconst X0.here hx rfl (hb hby d4_33) ?_
      show Steps p.tables e below (s₁.setTop (mkF m 34 #[.val (.ref a1), .val (.ref a2), .val (.int (0 : Int32)), .val (.int (0 : Int32))] [(.int (1 : Int32)), (.int (0 : Int32))])) _
      refine XS.goto X0.here hx rfl (pc0 := 34) (pc' := 38) rfl (hb hby d4_34) (by decide) (by decide) ?_
      show Steps p.tables e below (s₁.setTop (mkF m 38 #[.val (.ref a1), .val (.ref a2), .val (.int (0 : Int32)), .val (.int (0 : Int32))] [(.int (1 : Int32)), (.int (0 : Int32))])) _
      refine XS.ior X0.here hx rfl (hb hby d4_38) rfl ?_
      show Steps p.tables e below (s₁.setTop (mkF m 39 #[.val (.ref a1), .val (.ref a2), .val (.int (0 : Int32)), .val (.int (0 : Int32))] [(.int ((0 : Int32) ||| (1 : Int32)))])) _
      show Steps p.tables e below (s₁.setTop (mkF m 39 #[.val (.ref a1), .val (.ref a2), .val (.int (0 : Int32)), .val (.int (0 : Int32))] [(.int (1 : Int32))])) _
      refine XS.istoreN X0.here hx rfl (hb hby d4_39) rfl (l' := #[.val (.ref a1), .val (.ref a2), .val (.int (1 : Int32)), .val (.int (0 : Int32))]) rfl ?_
      show Steps p.tables e below (s₁.setTop (mkF m 40 #[.val (.ref a1), .val (.ref a2), .val (.int (1 : Int32)), .val (.int (0 : Int32))] [])) _
      refine XS.iinc X0.here hx rfl (hb hby d4_40) rfl (l' := #[.val (.ref a1), .val (.ref a2), .val (.int (1 : Int32)), .val (.int ((0 : Int32) + (1 : Int32)))]) rfl ?_
      show Steps p.tables e below (s₁.setTop (mkF m 43 #[.val (.ref a1), .val (.ref a2), .val (.int (1 : Int32)), .val (.int ((0 : Int32) + (1 : Int32)))] [])) _
      show Steps p.tables e below (s₁.setTop (mkF m 43 #[.val (.ref a1), .val (.ref a2), .val (.int (1 : Int32)), .val (.int (1 : Int32))] [])) _
      refine XS.goto X0.here hx rfl (pc0 := 43) (pc' := 4) rfl (hb hby d4_43) (by decide) (by decide) ?_
      show Steps p.tables e below (s₁.setTop (mkF m 4 #[.val (.ref a1), .val (.ref a2), .val (.int (1 : Int32)), .val (.int (1 : Int32))] [])) _
      refine XS.iloadN X0.here hx rfl (hb hby d4_4) rfl ?_
      show Steps p.tables e below (s₁.setTop (mkF m 5 #[.val (.ref a1), .val (.ref a2), .val (.int (1 : Int32)), .val (.int (1 : Int32))] [(.int (1 : Int32))])) _
      refine XS.aloadN X0.here hx rfl (hb hby d4_5) rfl rfl ?_
      exact kt
    obtain ⟨cl14, Ar14, qk14, Sz14, Nn14, Hh14, Gg14⟩ := id V1
    have pre15 : ∀ t, Steps p.tables e below (s₁.setTop (mkF m 47 #[.val (.ref a1), .val (.ref a2), .val (.int (1 : Int32)), .val (.int (1 : Int32))] [(.int (1 : Int32))])) t → Steps p.tables e below (s₁.setTop (entryFrame m #[(.ref a1), (.ref a2)] 4)) t := fun t kt => by
      refine pre13 _ ?_
      show Steps p.tables e below (s₁.setTop (mkF m 6 #[.val (.ref a1), .val (.ref a2), .val (.int (1 : Int32)), .val (.int (1 : Int32))] [(.ref a1), (.int (1 : Int32))])) _
      refine X0.arraylength hx (by rw [e0]; exact Ar14.1) (State.isArrayOf_alike hZ.alike Ar14.2.1) (g := (mkF m 6 #[.val (.ref a1), .val (.ref a2), .val (.int (1 : Int32)), .val (.int (1 : Int32))] [(.ref a1), (.int (1 : Int32))])) rfl rfl (hb hby d4_6) _ ?_
      rw [len_of Sz14 Nn14]
      show Steps p.tables e below (s₁.setTop (mkF m 7 #[.val (.ref a1), .val (.ref a2), .val (.int (1 : Int32)), .val (.int (1 : Int32))] [(.int (1 : Int32)), (.int (1 : Int32))])) _
      refine XS.icmpYes X0.here hx rfl (pc0 := 7) (pc' := 46) rfl (hb hby d4_7) rfl (flt (by decide : ¬ ((1 : Int32) < (1 : Int32)))).2.1 (by decide) (by decide) ?_
      show Steps p.tables e below (s₁.setTop (mkF m 46 #[.val (.ref a1), .val (.ref a2), .val (.int (1 : Int32)), .val (.int (1 : Int32))] [])) _
      refine XS.iloadN X0.here hx rfl (hb hby d4_46) rfl ?_
      exact kt
    have ev : own_dom [(x0, y0)] (0 : Int32) = (1 : Int32) := by simp only [own_dom, h4a, h4b, if_true, if_false]; try decide
    obtain ⟨fs, hr, hrun, hended, hW, hsame⟩ := X0.leave (v := (some (.int (1 : Int32)))) (fun h => by rw [Bd.returns] at h; cases h)
    refine ⟨_, _, pre15 _ ?_, hrun, hended, _, _, rfl, ?_, ⟨_, rfl⟩, hW, hsame.mono (by decide) (by decide)⟩
    · show Steps p.tables e below (s₁.setTop (mkF m 47 #[.val (.ref a1), .val (.ref a2), .val (.int (1 : Int32)), .val (.int (1 : Int32))] [(.int (1 : Int32))])) _
      exact retN X0 hx (t := .boolean) Bd.returns (by simp) (hb hby d4_47) hr
    · show Q4m1 Z a1 a2 k1 k2 x0 y0 h0 n0 _ s₁.heap _
      rw [e0]
      exact ⟨by rw [ev], N0, rfl⟩
  · have pre16 : ∀ t, Steps p.tables e below (s₁.setTop (mkF m 12 #[.val (.ref a1), .val (.ref a2), .val (.int (0 : Int32)), .val (.int (0 : Int32))] [(.int (0 : Int32)), (.ref a1)])) t → Steps p.tables e below (s₁.setTop (entryFrame m #[(.ref a1), (.ref a2)] 4)) t := fun t kt => by
      refine pre3 _ ?_
      show Steps p.tables e below (s₁.setTop (mkF m 10 #[.val (.ref a1), .val (.ref a2), .val (.int (0 : Int32)), .val (.int (0 : Int32))] [])) _
      refine XS.aloadN X0.here hx rfl (hb hby d4_10) rfl rfl ?_
      show Steps p.tables e below (s₁.setTop (mkF m 11 #[.val (.ref a1), .val (.ref a2), .val (.int (0 : Int32)), .val (.int (0 : Int32))] [(.ref a1)])) _
      refine XS.iloadN X0.here hx rfl (hb hby d4_11) rfl ?_
      exact kt
    obtain ⟨cl17, Ar17, qk17, Sz17, Nn17, Hh17, Gg17⟩ := id V1
    have hin17 : ¬ ((0 : Int32) < 0 ∨ cl17.slots.size ≤ ((0 : Int32)).toNatClampNeg) := inb_of Sz17 ⟨by decide, by decide⟩
    have hat17 : cl17.slots[((0 : Int32)).toNatClampNeg]? = some (.double (FP.i2d x0)) := Hh17.at hin17 rfl
    have pre18 : ∀ t, Steps p.tables e below (s₁.setTop (mkF m 15 #[.val (.ref a1), .val (.ref a2), .val (.int (0 : Int32)), .val (.int (0 : Int32))] [(.int (0 : Int32)), (.ref a2), (.double (FP.i2d x0))])) t → Steps p.tables e below (s₁.setTop (entryFrame m #[(.ref a1), (.ref a2)] 4)) t := fun t kt => by
      refine pre16 _ ?_
      show Steps p.tables e below (s₁.setTop (mkF m 12 #[.val (.ref a1), .val (.ref a2), .val (.int (0 : Int32)), .val (.int (0 : Int32))] [(.int (0 : Int32)), (.ref a1)])) _
      refine X0.daload hx (j := (0 : Int32)) (v := (.double (FP.i2d x0))) (by rw [e0]; exact Ar17.1) (State.isArrayOf_alike hZ.alike Ar17.2.1) Ar17.2.2 hin17 hat17 (g := (mkF m 12 #[.val (.ref a1), .val (.ref a2), .val (.int (0 : Int32)), .val (.int (0 : Int32))] [(.int (0 : Int32)), (.ref a1)])) rfl rfl (hb hby d4_12) _ ?_
      show Steps p.tables e below (s₁.setTop (mkF m 13 #[.val (.ref a1), .val (.ref a2), .val (.int (0 : Int32)), .val (.int (0 : Int32))] [(.double (FP.i2d x0))])) _
      refine XS.aloadN X0.here hx rfl (hb hby d4_13) rfl rfl ?_
      show Steps p.tables e below (s₁.setTop (mkF m 14 #[.val (.ref a1), .val (.ref a2), .val (.int (0 : Int32)), .val (.int (0 : Int32))] [(.ref a2), (.double (FP.i2d x0))])) _
      refine XS.iloadN X0.here hx rfl (hb hby d4_14) rfl ?_
      exact kt
    obtain ⟨cl19, Ar19, qk19, Sz19, Nn19, Hh19, Gg19⟩ := id V2
    have hin19 : ¬ ((0 : Int32) < 0 ∨ cl19.slots.size ≤ ((0 : Int32)).toNatClampNeg) := inb_of Sz19 ⟨by decide, by decide⟩
    have hat19 : cl19.slots[((0 : Int32)).toNatClampNeg]? = some (.double (FP.i2d y0)) := Hh19.at hin19 rfl
    have pre20 : ∀ t, Steps p.tables e below (s₁.setTop (mkF m 21 #[.val (.ref a1), .val (.ref a2), .val (.int (0 : Int32)), .val (.int (0 : Int32))] [(.int (0 : Int32))])) t → Steps p.tables e below (s₁.setTop (entryFrame m #[(.ref a1), (.ref a2)] 4)) t := fun t kt => by
      refine pre18 _ ?_
      show Steps p.tables e below (s₁.setTop (mkF m 15 #[.val (.ref a1), .val (.ref a2), .val (.int (0 : Int32)), .val (.int (0 : Int32))] [(.int (0 : Int32)), (.ref a2), (.double (FP.i2d x0))])) _
      refine X0.daload hx (j := (0 : Int32)) (v := (.double (FP.i2d y0))) (by rw [e0]; exact Ar19.1) (State.isArrayOf_alike hZ.alike Ar19.2.1) Ar19.2.2 hin19 hat19 (g := (mkF m 15 #[.val (.ref a1), .val (.ref a2), .val (.int (0 : Int32)), .val (.int (0 : Int32))] [(.int (0 : Int32)), (.ref a2), (.double (FP.i2d x0))])) rfl rfl (hb hby d4_15) _ ?_
      show Steps p.tables e below (s₁.setTop (mkF m 16 #[.val (.ref a1), .val (.ref a2), .val (.int (0 : Int32)), .val (.int (0 : Int32))] [(.double (FP.i2d y0)), (.double (FP.i2d x0))])) _
      refine XS.dcmpS X0.here hx rfl (hb hby d4_16) rfl (own_d2 h4c _) ?_
      show Steps p.tables e below (s₁.setTop (mkF m 17 #[.val (.ref a1), .val (.ref a2), .val (.int (0 : Int32)), .val (.int (0 : Int32))] [(.int (1 : Int32))])) _
      refine XS.ifNo X0.here hx rfl (hb hby d4_17) rfl ((if0 _ _).trans (tlt (by decide : (0 : Int32) < (1 : Int32))).2.2.2) ?_
      show Steps p.tables e below (s₁.setTop (mkF m 20 #[.val (.ref a1), .val (.ref a2), .val (.int (0 : Int32)), .val (.int (0 : Int32))] [])) _
      refine XS.iconst X0.here hx rfl (hb hby d4_20) ?_
      exact kt
    have ev : own_dom [(x0, y0)] (0 : Int32) = (0 : Int32) := by simp only [own_dom, h4c, if_true, if_false]; try decide
    obtain ⟨fs, hr, hrun, hended, hW, hsame⟩ := X0.leave (v := (some (.int (0 : Int32)))) (fun h => by rw [Bd.returns] at h; cases h)
    refine ⟨_, _, pre20 _ ?_, hrun, hended, _, _, rfl, ?_, ⟨_, rfl⟩, hW, hsame.mono (by decide) (by decide)⟩
    · show Steps p.tables e below (s₁.setTop (mkF m 21 #[.val (.ref a1), .val (.ref a2), .val (.int (0 : Int32)), .val (.int (0 : Int32))] [(.int (0 : Int32))])) _
      exact retN X0 hx (t := .boolean) Bd.returns (by simp) (hb hby d4_21) hr
    · show Q4m1 Z a1 a2 k1 k2 x0 y0 h0 n0 _ s₁.heap _
      rw [e0]
      exact ⟨by rw [ev], N0, rfl⟩
  · have pre21 : ∀ t, Steps p.tables e below (s₁.setTop (mkF m 12 #[.val (.ref a1), .val (.ref a2), .val (.int (0 : Int32)), .val (.int (0 : Int32))] [(.int (0 : Int32)), (.ref a1)])) t → Steps p.tables e below (s₁.setTop (entryFrame m #[(.ref a1), (.ref a2)] 4)) t := fun t kt => by
      refine pre3 _ ?_
      show Steps p.tables e below (s₁.setTop (mkF m 10 #[.val (.ref a1), .val (.ref a2), .val (.int (0 : Int32)), .val (.int (0 : Int32))] [])) _
      refine XS.aloadN X0.here hx rfl (hb hby d4_10) rfl rfl ?_
      show Steps p.tables e below (s₁.setTop (mkF m 11 #[.val (.ref a1), .val (.ref a2), .val (.int (0 : Int32)), .val (.int (0 : Int32))] [(.ref a1)])) _
      refine XS.iloadN X0.here hx rfl (hb hby d4_11) rfl ?_
      exact kt
    obtain ⟨cl22, Ar22, qk22, Sz22, Nn22, Hh22, Gg22⟩ := id V1
    have hin22 : ¬ ((0 : Int32) < 0 ∨ cl22.slots.size ≤ ((0 : Int32)).toNatClampNeg) := inb_of Sz22 ⟨by decide, by decide⟩
    have hat22 : cl22.slots[((0 : Int32)).toNatClampNeg]? = some (.double (FP.i2d x0)) := Hh22.at hin22 rfl
    have pre23 : ∀ t, Steps p.tables e below (s₁.setTop (mkF m 15 #[.val (.ref a1), .val (.ref a2), .val (.int (0 : Int32)), .val (.int (0 : Int32))] [(.int (0 : Int32)), (.ref a2), (.double (FP.i2d x0))])) t → Steps p.tables e below (s₁.setTop (entryFrame m #[(.ref a1), (.ref a2)] 4)) t := fun t kt => by
      refine pre21 _ ?_
      show Steps p.tables e below (s₁.setTop (mkF m 12 #[.val (.ref a1), .val (.ref a2), .val (.int (0 : Int32)), .val (.int (0 : Int32))] [(.int (0 : Int32)), (.ref a1)])) _
      refine X0.daload hx (j := (0 : Int32)) (v := (.double (FP.i2d x0))) (by rw [e0]; exact Ar22.1) (State.isArrayOf_alike hZ.alike Ar22.2.1) Ar22.2.2 hin22 hat22 (g := (mkF m 12 #[.val (.ref a1), .val (.ref a2), .val (.int (0 : Int32)), .val (.int (0 : Int32))] [(.int (0 : Int32)), (.ref a1)])) rfl rfl (hb hby d4_12) _ ?_
      show Steps p.tables e below (s₁.setTop (mkF m 13 #[.val (.ref a1), .val (.ref a2), .val (.int (0 : Int32)), .val (.int (0 : Int32))] [(.double (FP.i2d x0))])) _
      refine XS.aloadN X0.here hx rfl (hb hby d4_13) rfl rfl ?_
      show Steps p.tables e below (s₁.setTop (mkF m 14 #[.val (.ref a1), .val (.ref a2), .val (.int (0 : Int32)), .val (.int (0 : Int32))] [(.ref a2), (.double (FP.i2d x0))])) _
      refine XS.iloadN X0.here hx rfl (hb hby d4_14) rfl ?_
      exact kt
    obtain ⟨cl24, Ar24, qk24, Sz24, Nn24, Hh24, Gg24⟩ := id V2
    have hin24 : ¬ ((0 : Int32) < 0 ∨ cl24.slots.size ≤ ((0 : Int32)).toNatClampNeg) := inb_of Sz24 ⟨by decide, by decide⟩
    have hat24 : cl24.slots[((0 : Int32)).toNatClampNeg]? = some (.double (FP.i2d y0)) := Hh24.at hin24 rfl
    have pre25 : ∀ t, Steps p.tables e below (s₁.setTop (mkF m 25 #[.val (.ref a1), .val (.ref a2), .val (.int (0 : Int32)), .val (.int (0 : Int32))] [(.int (0 : Int32)), (.ref a1), (.int (0 : Int32))])) t → Steps p.tables e below (s₁.setTop (entryFrame m #[(.ref a1), (.ref a2)] 4)) t := fun t kt => by
      refine pre23 _ ?_
      show Steps p.tables e below (s₁.setTop (mkF m 15 #[.val (.ref a1), .val (.ref a2), .val (.int (0 : Int32)), .val (.int (0 : Int32))] [(.int (0 : Int32)), (.ref a2), (.double (FP.i2d x0))])) _
      refine X0.daload hx (j := (0 : Int32)) (v := (.double (FP.i2d y0))) (by rw [e0]; exact Ar24.1) (State.isArrayOf_alike hZ.alike Ar24.2.1) Ar24.2.2 hin24 hat24 (g := (mkF m 15 #[.val (.ref a1), .val (.ref a2), .val (.int (0 : Int32)), .val (.int (0 : Int32))] [(.int (0 : Int32)), (.ref a2), (.double (FP.i2d x0))])) rfl rfl (hb hby d4_15) _ ?_
      show Steps p.tables e below (s₁.setTop (mkF m 16 #[.val (.ref a1), .val (.ref a2), .val (.int (0 : Int32)), .val (.int (0 : Int32))] [(.double (FP.i2d y0)), (.double (FP.i2d x0))])) _
      refine XS.dcmpS X0.here hx rfl (hb hby d4_16) rfl (own_d0 h4d _) ?_
      show Steps p.tables e below (s₁.setTop (mkF m 17 #[.val (.ref a1), .val (.ref a2), .val (.int (0 : Int32)), .val (.int (0 : Int32))] [(.int (0 : Int32))])) _
      refine XS.ifYes X0.here hx rfl (pc0 := 17) (pc' := 22) rfl (hb hby d4_17) rfl ((if0 _ _).trans (flt (by decide : ¬ ((0 : Int32) < (0 : Int32)))).2.2.2) (by decide) (by decide) ?_
      show Steps p.tables e below (s₁.setTop (mkF m 22 #[.val (.ref a1), .val (.ref a2), .val (.int (0 : Int32)), .val (.int (0 : Int32))] [])) _
      refine XS.iloadN X0.here hx rfl (hb hby d4_22) rfl ?_
      show Steps p.tables e below (s₁.setTop (mkF m 23 #[.val (.ref a1), .val (.ref a2), .val (.int (0 : Int32)), .val (.int (0 : Int32))] [(.int (0 : Int32))])) _
      refine XS.aloadN X0.here hx rfl (hb hby d4_23) rfl rfl ?_
      show Steps p.tables e below (s₁.setTop (mkF m 24 #[.val (.ref a1), .val (.ref a2), .val (.int (0 : Int32)), .val (.int (0 : Int32))] [(.ref a1), (.int (0 : Int32))])) _
      refine XS.iloadN X0.here hx rfl (hb hby d4_24) rfl ?_
      exact kt
    obtain ⟨cl26, Ar26, qk26, Sz26, Nn26, Hh26, Gg26⟩ := id V1
    have hin26 : ¬ ((0 : Int32) < 0 ∨ cl26.slots.size ≤ ((0 : Int32)).toNatClampNeg) := inb_of Sz26 ⟨by decide, by decide⟩
    have hat26 : cl26.slots[((0 : Int32)).toNatClampNeg]? = some (.double (FP.i2d x0)) := Hh26.at hin26 rfl
    have pre27 : ∀ t, Steps p.tables e below (s₁.setTop (mkF m 28 #[.val (.ref a1), .val (.ref a2), .val (.int (0 : Int32)), .val (.int (0 : Int32))] [(.int (0 : Int32)), (.ref a2), (.double (FP.i2d x0)), (.int (0 : Int32))])) t → Steps p.tables e below (s₁.setTop (entryFrame m #[(.ref a1), (.ref a2)] 4)) t := fun t kt => by
      refine pre25 _ ?_
      show Steps p.tables e below (s₁.setTop (mkF m 25 #[.val (.ref a1), .val (.ref a2), .val (.int (0 : Int32)), .val (.int (0 : Int32))] [(.int (0 : Int32)), (.ref a1), (.int (0 : Int32))])) _
      refine X0.daload hx (j := (0 : Int32)) (v := (.double (FP.i2d x0))) (by rw [e0]; exact Ar26.1) (State.isArrayOf_alike hZ.alike Ar26.2.1) Ar26.2.2 hin26 hat26 (g := (mkF m 25 #[.val (.ref a1), .val (.ref a2), .val (.int (0 : Int32)), .val (.int (0 : Int32))] [(.int (0 : Int32)), (.ref a1), (.int (0 : Int32))])) rfl rfl (hb hby d4_25) _ ?_
      show Steps p.tables e below (s₁.setTop (mkF m 26 #[.val (.ref a1), .val (.ref a2), .val (.int (0 : Int32)), .val (.int (0 : Int32))] [(.double (FP.i2d x0)), (.int (0 : Int32))])) _
      refine XS.aloadN X0.here hx rfl (hb hby d4_26) rfl rfl ?_
      show Steps p.tables e below (s₁.setTop (mkF m 27 #[.val (.ref a1), .val (.ref a2), .val (.int (0 : Int32)), .val (.int (0 : Int32))] [(.ref a2), (.double (FP.i2d x0)), (.int (0 : Int32))])) _
      refine XS.iloadN X0.here hx rfl (hb hby d4_27) rfl ?_
      exact kt
    obtain ⟨cl28, Ar28, qk28, Sz28, Nn28, Hh28, Gg28⟩ := id V2
    have hin28 : ¬ ((0 : Int32) < 0 ∨ cl28.slots.size ≤ ((0 : Int32)).toNatClampNeg) := inb_of Sz28 ⟨by decide, by decide⟩
    have hat28 : cl28.slots[((0 : Int32)).toNatClampNeg]? = some (.double (FP.i2d y0)) := Hh28.at hin28 rfl
    have pre29 : ∀ t, Steps p.tables e below (s₁.setTop (mkF m 6 #[.val (.ref a1), .val (.ref a2), .val (.int (0 : Int32)), .val (.int (1 : Int32))] [(.ref a1), (.int (1 : Int32))])) t → Steps p.tables e below (s₁.setTop (entryFrame m #[(.ref a1), (.ref a2)] 4)) t := fun t kt => by
      refine pre27 _ ?_
      show Steps p.tables e below (s₁.setTop (mkF m 28 #[.val (.ref a1), .val (.ref a2), .val (.int (0 : Int32)), .val (.int (0 : Int32))] [(.int (0 : Int32)), (.ref a2), (.double (FP.i2d x0)), (.int (0 : Int32))])) _
      refine X0.daload hx (j := (0 : Int32)) (v := (.double (FP.i2d y0))) (by rw [e0]; exact Ar28.1) (State.isArrayOf_alike hZ.alike Ar28.2.1) Ar28.2.2 hin28 hat28 (g := (mkF m 28 #[.val (.ref a1), .val (.ref a2), .val (.int (0 : Int32)), .val (.int (0 : Int32))] [(.int (0 : Int32)), (.ref a2), (.double (FP.i2d x0)), (.int (0 : Int32))])) rfl rfl (hb hby d4_28) _ ?_
      show Steps p.tables e below (s₁.setTop (mkF m 29 #[.val (.ref a1), .val (.ref a2), .val (.int (0 : Int32)), .val (.int (0 : Int32))] [(.double (FP.i2d y0)), (.double (FP.i2d x0)), (.int (0 : Int32))])) _
      refine XS.dcmpS X0.here hx rfl (hb hby d4_29) rfl (own_d0 h4d _) ?_
      show Steps p.tables e below (s₁.setTop (mkF m 30 #[.val (.ref a1), .val (.ref a2), .val (.int (0 : Int32)), .val (.int (0 : Int32))] [(.int (0 : Int32)), (.int (0 : Int32))])) _
      refine XS.ifYes X0.here hx rfl (pc0 := 30) (pc' := 37) rfl (hb hby d4_30) rfl ((if0 _ _).trans (flt (by decide : ¬ ((0 : Int32) < (0 : Int32)))).2.1) (by decide) (by decide) ?_
      show Steps p.tables e below (s₁.setTop (mkF m 37 #[.val (.ref a1), .val (.ref a2), .val (.int (0 : Int32)), .val (.int (0 : Int32))] [(.int (0 : Int32))])) _
      refine XS.iconst X0.here hx rfl (hb hby d4_37) ?_
      show Steps p.tables e below (s₁.setTop (mkF m 38 #[.val (.ref a1), .val (.ref a2), .val (.int (0 : Int32)), .val (.int (0 : Int32))] [(.int (0 : Int32)), (.int (0 : Int32))])) _
      refine XS.ior X0.here hx rfl (hb hby d4_38) rfl ?_
      show Steps p.tables e below (s₁.setTop (mkF m 39 #[.val (.ref a1), .val (.ref a2), .val (.int (0 : Int32)), .val (.int (0 : Int32))] [(.int ((0 : Int32) ||| (0 : Int32)))])) _
      show Steps p.tables e below (s₁.setTop (mkF m 39 #[.val (.ref a1), .val (.ref a2), .val (.int (0 : Int32)), .val (.int (0 : Int32))] [(.int (0 : Int32))])) _
      refine XS.istoreN X0.here hx rfl (hb hby d4_39) rfl (l' := #[.val (.ref a1), .val (.ref a2), .val (.int (0 : Int32)), .val (.int (0 : Int32))]) rfl ?_
      show Steps p.tables e below (s₁.setTop (mkF m 40 #[.val (.ref a1), .val (.ref a2), .val (.int (0 : Int32)), .val (.int (0 : Int32))] [])) _
      refine XS.iinc X0.here hx rfl (hb hby d4_40) rfl (l' := #[.val (.ref a1), .val (.ref a2), .val (.int (0 : Int32)), .val (.int ((0 : Int32) + (1 : Int32)))]) rfl ?_
      show Steps p.tables e below (s₁.setTop (mkF m 43 #[.val (.ref a1), .val (.ref a2), .val (.int (0 : Int32)), .val (.int ((0 : Int32) + (1 : Int32)))] [])) _
      show Steps p.tables e below (s₁.setTop (mkF m 43 #[.val (.ref a1), .val (.ref a2), .val (.int (0 : Int32)), .val (.int (1 : Int32))] [])) _
      refine XS.goto X0.here hx rfl (pc0 := 43) (pc' := 4) rfl (hb hby d4_43) (by decide) (by decide) ?_
      show Steps p.tables e below (s₁.setTop (mkF m 4 #[.val (.ref a1), .val (.ref a2), .val (.int (0 : Int32)), .val (.int (1 : Int32))] [])) _
      refine XS.iloadN X0.here hx rfl (hb hby d4_4) rfl ?_
      show Steps p.tables e below (s₁.setTop (mkF m 5 #[.val (.ref a1), .val (.ref a2), .val (.int (0 : Int32)), .val (.int (1 : Int32))] [(.int (1 : Int32))])) _
      refine XS.aloadN X0.here hx rfl (hb hby d4_5) rfl rfl ?_
      exact kt
    obtain ⟨cl30, Ar30, qk30, Sz30, Nn30, Hh30, Gg30⟩ := id V1
    have pre31 : ∀ t, Steps p.tables e below (s₁.setTop (mkF m 47 #[.val (.ref a1), .val (.ref a2), .val (.int (0 : Int32)), .val (.int (1 : Int32))] [(.int (0 : Int32))])) t → Steps p.tables e below (s₁.setTop (entryFrame m #[(.ref a1), (.ref a2)] 4)) t := fun t kt => by
      refine pre29 _ ?_
      show Steps p.tables e below (s₁.setTop (mkF m 6 #[.val (.ref a1), .val (.ref a2), .val (.int (0 : Int32)), .val (.int (1 : Int32))] [(.ref a1), (.int (1 : Int32))])) _
      refine X0.arraylength hx (by rw [e0]; exact Ar30.1) (State.isArrayOf_alike hZ.alike Ar30.2.1) (g := (mkF m 6 #[.val (.ref a1), .val (.ref a2), .val (.int (0 : Int32)), .val (.int (1 : Int32))] [(.ref a1), (.int (1 : Int32))])) rfl rfl (hb hby d4_6) _ ?_
      rw [len_of Sz30 Nn30]
      show Steps p.tables e below (s₁.setTop (mkF m 7 #[.val (.ref a1), .val (.ref a2), .val (.int (0 : Int32)), .val (.int (1 : Int32))] [(.int (1 : Int32)), (.int (1 : Int32))])) _
      refine XS.icmpYes X0.here hx rfl (pc0 := 7) (pc' := 46) rfl (hb hby d4_7) rfl (flt (by decide : ¬ ((1 : Int32) < (1 : Int32)))).2.1 (by decide) (by decide) ?_
      show Steps p.tables e below (s₁.setTop (mkF m 46 #[.val (.ref a1), .val (.ref a2), .val (.int (0 : Int32)), .val (.int (1 : Int32))] [])) _
      refine XS.iloadN X0.here hx rfl (hb hby d4_46) rfl ?_
      exact kt
    have ev : own_dom [(x0, y0)] (0 : Int32) = (0 : Int32) := by simp only [own_dom, h4e, h4f, if_true, if_false]; try decide
    obtain ⟨fs, hr, hrun, hended, hW, hsame⟩ := X0.leave (v := (some (.int (0 : Int32)))) (fun h => by rw [Bd.returns] at h; cases h)
    refine ⟨_, _, pre31 _ ?_, hrun, hended, _, _, rfl, ?_, ⟨_, rfl⟩, hW, hsame.mono (by decide) (by decide)⟩
    · show Steps p.tables e below (s₁.setTop (mkF m 47 #[.val (.ref a1), .val (.ref a2), .val (.int (0 : Int32)), .val (.int (1 : Int32))] [(.int (0 : Int32))])) _
      exact retN X0 hx (t := .boolean) Bd.returns (by simp) (hb hby d4_47) hr
    · show Q4m1 Z a1 a2 k1 k2 x0 y0 h0 n0 _ s₁.heap _
      rw [e0]
      exact ⟨by rw [ev], N0, rfl⟩
theorem ef_4m2 (m : MethodId) (a1 : Addr) (a2 : Addr) : entryFrame m #[(.ref a1), (.ref a2)] 4 = (mkF m 0 #[.val (.ref a1), .val (.ref a2), .unset, .unset] []) := by first | (simp [entryFrame, mkF, argsToLocals, Value.category]; done) | rfl
def Q4m2 (Z : State) (a1 : Addr) (a2 : Addr) (k1 : ClassId) (k2 : ClassId) (x0 : Int32) (x1 : Int32) (y0 : Int32) (y1 : Int32) (h0 : Heap) (n0 : Nat) (v : Option Value) (h : Heap) (L : List Loc) : Prop := v = some (.int (own_dom [(x0, y0), (x1, y1)] (0 : Int32))) ∧ Fr n0 L ∧ h = h0
set_option maxRecDepth 65536 in
set_option maxHeartbeats 40000000 in
theorem rm4m2 (l : Launch) (Z : State) (a0 : Array Value) (hw : ∀ d ∈ tables_1, d.before a0 Z = true) (ws : List Jvm.Cond) (a1 : Addr) (a2 : Addr) (k1 : ClassId) (k2 : ClassId) (x0 : Int32) (x1 : Int32) (y0 : Int32) (y1 : Int32) (h0 : Heap) (n0 : Nat) (Z0 : n0 ≤ h0.size) (V1 : Arv Z h0 a1 k1 .double (2 : Int32) [(.double (FP.i2d x0)), (.double (FP.i2d x1))] (.double 0)) (V2 : Arv Z h0 a2 k2 .double (2 : Int32) [(.double (FP.i2d y0)), (.double (FP.i2d y1))] (.double 0)) :
    MetFree l (⟨"com/example/tesserae/tesserae/core/Vectors", "dominates", "([D[D)Z"⟩ : MethodName) (head1 (Jvm.Cond.code (⟨"com/example/tesserae/tesserae/core/Vectors", "dominates", "([D[D)Z"⟩ : MethodName) prog_51_method_6_code 4 (some .boolean) :: ws) ({ frames := 0, cells := 0, slots := 0, locals := 0 } : Room)) (fun a U => a = #[(.ref a1), (.ref a2)] ∧ Z.Warmed39 U.vm ∧ U.heap = h0) (fun _ _ _ _ _ => True) (fun _ U o U' => ∃ v L, o = .returned v ∧ Q4m2 Z a1 a2 k1 k2 x0 x1 y0 y1 h0 n0 v U'.heap L ∧ FrameEnd U o U' L ({ frames := 0, cells := 0, slots := 0, locals := 0 } : Room).cells ({ frames := 0, cells := 0, slots := 0, locals := 0 } : Room).slots) := by
  refine MetFree.of_bodySF (plainFor_of_name pn_1) hisR ?_
  intro p e s m args below meth c s₁ Bd hml0 hP hK
  obtain ⟨rfl, hZ, hh⟩ := hP
  have hx := Bd.exec
  have hby := Bd.bytes
  have hml : c.maxLocals = 4 := hml0
  have hown : s.vm.findClass "com/example/tesserae/tesserae/core/Vectors" = some m.cls := findClass_of_methodNamed Bd.named
  have hnm := (name_of_methodNamed Bd.named Bd.method).1
  have X0 : Stand p l e ({ frames := 0, cells := 0, slots := 0, locals := 0 } : Room) s m #[(.ref a1), (.ref a2)] below meth c s₁ [] 0 0 := Stand.of_body Bd
  have e0 : s₁.heap = h0 := by rw [← hh, Bd.state]; rfl
  have N0 := Fr.nil n0
  have pre0 : ∀ t, Steps p.tables e below (s₁.setTop (mkF m 0 #[.val (.ref a1), .val (.ref a2), .unset, .unset] [])) t → Steps p.tables e below (s₁.setTop (entryFrame m #[(.ref a1), (.ref a2)] 4)) t := fun t k => castTop (ef_4m2 m a1 a2) k
  have pre1 : ∀ t, Steps p.tables e below (s₁.setTop (mkF m 6 #[.val (.ref a1), .val (.ref a2), .val (.int (0 : Int32)), .val (.int (0 : Int32))] [(.ref a1), (.int (0 : Int32))])) t → Steps p.tables e below (s₁.setTop (entryFrame m #[(.ref a1), (.ref a2)] 4)) t := fun t kt => by
    refine pre0 _ ?_
    show Steps p.tables e below (s₁.setTop (mkF m 0 #[.val (.ref a1), .val (.ref a2), .unset, .unset] [])) _
    refine XS.iconst X0.here hx rfl (hb hby d4_0) ?_
    show Steps p.tables e below (s₁.setTop (mkF m 1 #[.val (.ref a1), .val (.ref a2), .unset, .unset] [(.int (0 : Int32))])) _
    refine XS.istoreN X0.here hx rfl (hb hby d4_1) rfl (l' := #[.val (.ref a1), .val (.ref a2), .val (.int (0 : Int32)), .unset]) rfl ?_
    show Steps p.tables e below (s₁.setTop (mkF m 2 #[.val (.ref a1), .val (.ref a2), .val (.int (0 : Int32)), .unset] [])) _
    refine XS.iconst X0.here hx rfl (hb hby d4_2) ?_
    show Steps p.tables e below (s₁.setTop (mkF m 3 #[.val (.ref a1), .val (.ref a2), .val (.int (0 : Int32)), .unset] [(.int (0 : Int32))])) _
    refine XS.istoreN X0.here hx rfl (hb hby d4_3) rfl (l' := #[.val (.ref a1), .val (.ref a2), .val (.int (0 : Int32)), .val (.int (0 : Int32))]) rfl ?_
    show Steps p.tables e below (s₁.setTop (mkF m 4 #[.val (.ref a1), .val (.ref a2), .val (.int (0 : Int32)), .val (.int (0 : Int32))] [])) _
    refine XS.iloadN X0.here hx rfl (hb hby d4_4) rfl ?_
    show Steps p.tables e below (s₁.setTop (mkF m 5 #[.val (.ref a1), .val (.ref a2), .val (.int (0 : Int32)), .val (.int (0 : Int32))] [(.int (0 : Int32))])) _
    refine XS.aloadN X0.here hx rfl (hb hby d4_5) rfl rfl ?_
    exact kt
  obtain ⟨cl2, Ar2, qk2, Sz2, Nn2, Hh2, Gg2⟩ := id V1
  have pre3 : ∀ t, Steps p.tables e below (s₁.setTop (mkF m 10 #[.val (.ref a1), .val (.ref a2), .val (.int (0 : Int32)), .val (.int (0 : Int32))] [])) t → Steps p.tables e below (s₁.setTop (entryFrame m #[(.ref a1), (.ref a2)] 4)) t := fun t kt => by
    refine pre1 _ ?_
    show Steps p.tables e below (s₁.setTop (mkF m 6 #[.val (.ref a1), .val (.ref a2), .val (.int (0 : Int32)), .val (.int (0 : Int32))] [(.ref a1), (.int (0 : Int32))])) _
    refine X0.arraylength hx (by rw [e0]; exact Ar2.1) (State.isArrayOf_alike hZ.alike Ar2.2.1) (g := (mkF m 6 #[.val (.ref a1), .val (.ref a2), .val (.int (0 : Int32)), .val (.int (0 : Int32))] [(.ref a1), (.int (0 : Int32))])) rfl rfl (hb hby d4_6) _ ?_
    rw [len_of Sz2 Nn2]
    show Steps p.tables e below (s₁.setTop (mkF m 7 #[.val (.ref a1), .val (.ref a2), .val (.int (0 : Int32)), .val (.int (0 : Int32))] [(.int (2 : Int32)), (.int (0 : Int32))])) _
    refine XS.icmpNo X0.here hx rfl (hb hby d4_7) rfl (tlt (by decide : (0 : Int32) < (2 : Int32))).2.1 ?_
    exact kt
  rcases own_tri x0 y0 with ⟨h4a, h4b⟩ | h4c | ⟨h4d, h4e, h4f⟩
  · have pre5 : ∀ t, Steps p.tables e below (s₁.setTop (mkF m 12 #[.val (.ref a1), .val (.ref a2), .val (.int (0 : Int32)), .val (.int (0 : Int32))] [(.int (0 : Int32)), (.ref a1)])) t → Steps p.tables e below (s₁.setTop (entryFrame m #[(.ref a1), (.ref a2)] 4)) t := fun t kt => by
      refine pre3 _ ?_
      show Steps p.tables e below (s₁.setTop (mkF m 10 #[.val (.ref a1), .val (.ref a2), .val (.int (0 : Int32)), .val (.int (0 : Int32))] [])) _
      refine XS.aloadN X0.here hx rfl (hb hby d4_10) rfl rfl ?_
      show Steps p.tables e below (s₁.setTop (mkF m 11 #[.val (.ref a1), .val (.ref a2), .val (.int (0 : Int32)), .val (.int (0 : Int32))] [(.ref a1)])) _
      refine XS.iloadN X0.here hx rfl (hb hby d4_11) rfl ?_
      exact kt
    obtain ⟨cl6, Ar6, qk6, Sz6, Nn6, Hh6, Gg6⟩ := id V1
    have hin6 : ¬ ((0 : Int32) < 0 ∨ cl6.slots.size ≤ ((0 : Int32)).toNatClampNeg) := inb_of Sz6 ⟨by decide, by decide⟩
    have hat6 : cl6.slots[((0 : Int32)).toNatClampNeg]? = some (.double (FP.i2d x0)) := Hh6.at hin6 rfl
    have pre7 : ∀ t, Steps p.tables e below (s₁.setTop (mkF m 15 #[.val (.ref a1), .val (.ref a2), .val (.int (0 : Int32)), .val (.int (0 : Int32))] [(.int (0 : Int32)), (.ref a2), (.double (FP.i2d x0))])) t → Steps p.tables e below (s₁.setTop (entryFrame m #[(.ref a1), (.ref a2)] 4)) t := fun t kt => by
      refine pre5 _ ?_
      show Steps p.tables e below (s₁.setTop (mkF m 12 #[.val (.ref a1), .val (.ref a2), .val (.int (0 : Int32)), .val (.int (0 : Int32))] [(.int (0 : Int32)), (.ref a1)])) _
      refine X0.daload hx (j := (0 : Int32)) (v := (.double (FP.i2d x0))) (by rw [e0]; exact Ar6.1) (State.isArrayOf_alike hZ.alike Ar6.2.1) Ar6.2.2 hin6 hat6 (g := (mkF m 12 #[.val (.ref a1), .val (.ref a2), .val (.int (0 : Int32)), .val (.int (0 : Int32))] [(.int (0 : Int32)), (.ref a1)])) rfl rfl (hb hby d4_12) _ ?_
      show Steps p.tables e below (s₁.setTop (mkF m 13 #[.val (.ref a1), .val (.ref a2), .val (.int (0 : Int32)), .val (.int (0 : Int32))] [(.double (FP.i2d x0))])) _
      refine XS.aloadN X0.here hx rfl (hb hby d4_13) rfl rfl ?_
      show Steps p.tables e below (s₁.setTop (mkF m 14 #[.val (.ref a1), .val (.ref a2), .val (.int (0 : Int32)), .val (.int (0 : Int32))] [(.ref a2), (.double (FP.i2d x0))])) _
      refine XS.iloadN X0.here hx rfl (hb hby d4_14) rfl ?_
      exact kt
    obtain ⟨cl8, Ar8, qk8, Sz8, Nn8, Hh8, Gg8⟩ := id V2
    have hin8 : ¬ ((0 : Int32) < 0 ∨ cl8.slots.size ≤ ((0 : Int32)).toNatClampNeg) := inb_of Sz8 ⟨by decide, by decide⟩
    have hat8 : cl8.slots[((0 : Int32)).toNatClampNeg]? = some (.double (FP.i2d y0)) := Hh8.at hin8 rfl
    have pre9 : ∀ t, Steps p.tables e below (s₁.setTop (mkF m 25 #[.val (.ref a1), .val (.ref a2), .val (.int (0 : Int32)), .val (.int (0 : Int32))] [(.int (0 : Int32)), (.ref a1), (.int (0 : Int32))])) t → Steps p.tables e below (s₁.setTop (entryFrame m #[(.ref a1), (.ref a2)] 4)) t := fun t kt => by
      refine pre7 _ ?_
      show Steps p.tables e below (s₁.setTop (mkF m 15 #[.val (.ref a1), .val (.ref a2), .val (.int (0 : Int32)), .val (.int (0 : Int32))] [(.int (0 : Int32)), (.ref a2), (.double (FP.i2d x0))])) _
      refine X0.daload hx (j := (0 : Int32)) (v := (.double (FP.i2d y0))) (by rw [e0]; exact Ar8.1) (State.isArrayOf_alike hZ.alike Ar8.2.1) Ar8.2.2 hin8 hat8 (g := (mkF m 15 #[.val (.ref a1), .val (.ref a2), .val (.int (0 : Int32)), .val (.int (0 : Int32))] [(.int (0 : Int32)), (.ref a2), (.double (FP.i2d x0))])) rfl rfl (hb hby d4_15) _ ?_
      show Steps p.tables e below (s₁.setTop (mkF m 16 #[.val (.ref a1), .val (.ref a2), .val (.int (0 : Int32)), .val (.int (0 : Int32))] [(.double (FP.i2d y0)), (.double (FP.i2d x0))])) _
      refine XS.dcmpS X0.here hx rfl (hb hby d4_16) rfl (own_d1 h4a _) ?_
      show Steps p.tables e below (s₁.setTop (mkF m 17 #[.val (.ref a1), .val (.ref a2), .val (.int (0 : Int32)), .val (.int (0 : Int32))] [(.int (-1 : Int32))])) _
      refine XS.ifYes X0.here hx rfl (pc0 := 17) (pc' := 22) rfl (hb hby d4_17) rfl ((if0 _ _).trans (flt (by decide : ¬ ((0 : Int32) < (-1 : Int32)))).2.2.2) (by decide) (by decide) ?_
      show Steps p.tables e below (s₁.setTop (mkF m 22 #[.val (.ref a1), .val (.ref a2), .val (.int (0 : Int32)), .val (.int (0 : Int32))] [])) _
      refine XS.iloadN X0.here hx rfl (hb hby d4_22) rfl ?_
      show Steps p.tables e below (s₁.setTop (mkF m 23 #[.val (.ref a1), .val (.ref a2), .val (.int (0 : Int32)), .val (.int (0 : Int32))] [(.int (0 : Int32))])) _
      refine XS.aloadN X0.here hx rfl (hb hby d4_23) rfl rfl ?_
      show Steps p.tables e below (s₁.setTop (mkF m 24 #[.val (.ref a1), .val (.ref a2), .val (.int (0 : Int32)), .val (.int (0 : Int32))] [(.ref a1), (.int (0 : Int32))])) _
      refine XS.iloadN X0.here hx rfl (hb hby d4_24) rfl ?_
      exact kt
    obtain ⟨cl10, Ar10, qk10, Sz10, Nn10, Hh10, Gg10⟩ := id V1
    have hin10 : ¬ ((0 : Int32) < 0 ∨ cl10.slots.size ≤ ((0 : Int32)).toNatClampNeg) := inb_of Sz10 ⟨by decide, by decide⟩
    have hat10 : cl10.slots[((0 : Int32)).toNatClampNeg]? = some (.double (FP.i2d x0)) := Hh10.at hin10 rfl
    have pre11 : ∀ t, Steps p.tables e below (s₁.setTop (mkF m 28 #[.val (.ref a1), .val (.ref a2), .val (.int (0 : Int32)), .val (.int (0 : Int32))] [(.int (0 : Int32)), (.ref a2), (.double (FP.i2d x0)), (.int (0 : Int32))])) t → Steps p.tables e below (s₁.setTop (entryFrame m #[(.ref a1), (.ref a2)] 4)) t := fun t kt => by
      refine pre9 _ ?_
      show Steps p.tables e below (s₁.setTop (mkF m 25 #[.val (.ref a1), .val (.ref a2), .val (.int (0 : Int32)), .val (.int (0 : Int32))] [(.int (0 : Int32)), (.ref a1), (.int (0 : Int32))])) _
      refine X0.daload hx (j := (0 : Int32)) (v := (.double (FP.i2d x0))) (by rw [e0]; exact Ar10.1) (State.isArrayOf_alike hZ.alike Ar10.2.1) Ar10.2.2 hin10 hat10 (g := (mkF m 25 #[.val (.ref a1), .val (.ref a2), .val (.int (0 : Int32)), .val (.int (0 : Int32))] [(.int (0 : Int32)), (.ref a1), (.int (0 : Int32))])) rfl rfl (hb hby d4_25) _ ?_
      show Steps p.tables e below (s₁.setTop (mkF m 26 #[.val (.ref a1), .val (.ref a2), .val (.int (0 : Int32)), .val (.int (0 : Int32))] [(.double (FP.i2d x0)), (.int (0 : Int32))])) _
      refine XS.aloadN X0.here hx rfl (hb hby d4_26) rfl rfl ?_
      show Steps p.tables e below (s₁.setTop (mkF m 27 #[.val (.ref a1), .val (.ref a2), .val (.int (0 : Int32)), .val (.int (0 : Int32))] [(.ref a2), (.double (FP.i2d x0)), (.int (0 : Int32))])) _
      refine XS.iloadN X0.here hx rfl (hb hby d4_27) rfl ?_
      exact kt
    obtain ⟨cl12, Ar12, qk12, Sz12, Nn12, Hh12, Gg12⟩ := id V2
    have hin12 : ¬ ((0 : Int32) < 0 ∨ cl12.slots.size ≤ ((0 : Int32)).toNatClampNeg) := inb_of Sz12 ⟨by decide, by decide⟩
    have hat12 : cl12.slots[((0 : Int32)).toNatClampNeg]? = some (.double (FP.i2d y0)) := Hh12.at hin12 rfl
    have pre13 : ∀ t, Steps p.tables e below (s₁.setTop (mkF m 6 #[.val (.ref a1), .val (.ref a2), .val (.int (1 : Int32)), .val (.int (1 : Int32))] [(.ref a1), (.int (1 : Int32))])) t → Steps p.tables e below (s₁.setTop (entryFrame m #[(.ref a1), (.ref a2)] 4)) t := fun t kt => by
      refine pre11 _ ?_
      show Steps p.tables e below (s₁.setTop (mkF m 28 #[.val (.ref a1), .val (.ref a2), .val (.int (0 : Int32)), .val (.int (0 : Int32))] [(.int (0 : Int32)), (.ref a2), (.double (FP.i2d x0)), (.int (0 : Int32))])) _
      refine X0.daload hx (j := (0 : Int32)) (v := (.double (FP.i2d y0))) (by rw [e0]; exact Ar12.1) (State.isArrayOf_alike hZ.alike Ar12.2.1) Ar12.2.2 hin12 hat12 (g := (mkF m 28 #[.val (.ref a1), .val (.ref a2), .val (.int (0 : Int32)), .val (.int (0 : Int32))] [(.int (0 : Int32)), (.ref a2), (.double (FP.i2d x0)), (.int (0 : Int32))])) rfl rfl (hb hby d4_28) _ ?_
      show Steps p.tables e below (s₁.setTop (mkF m 29 #[.val (.ref a1), .val (.ref a2), .val (.int (0 : Int32)), .val (.int (0 : Int32))] [(.double (FP.i2d y0)), (.double (FP.i2d x0)), (.int (0 : Int32))])) _
      refine XS.dcmpS X0.here hx rfl (hb hby d4_29) rfl (own_d1 h4a _) ?_
      show Steps p.tables e below (s₁.setTop (mkF m 30 #[.val (.ref a1), .val (.ref a2), .val (.int (0 : Int32)), .val (.int (0 : Int32))] [(.int (-1 : Int32)), (.int (0 : Int32))])) _
      refine XS.ifNo X0.here hx rfl (hb hby d4_30) rfl ((if0 _ _).trans (tlt (by decide : (-1 : Int32) < (0 : Int32))).2.1) ?_
      show Steps p.tables e below (s₁.setTop (mkF m 33 #[.val (.ref a1), .val (.ref a2), .val (.int (0 : Int32)), .val (.int (0 : Int32))] [(.int (0 : Int32))])) _
      refine XS.iconst X0.here hx rfl (hb hby d4_33) ?_
      show Steps p.tables e below (s₁.setTop (mkF m 34 #[.val (.ref a1), .val (.ref a2), .val (.int (0 : Int32)), .val (.int (0 : Int32))] [(.int (1 : Int32)), (.int (0 : Int32))])) _
      refine XS.goto X0.here hx rfl (pc0 := 34) (pc' := 38) rfl (hb hby d4_34) (by decide) (by decide) ?_
      show Steps p.tables e below (s₁.setTop (mkF m 38 #[.val (.ref a1), .val (.ref a2), .val (.int (0 : Int32)), .val (.int (0 : Int32))] [(.int (1 : Int32)), (.int (0 : Int32))])) _
      refine XS.ior X0.here hx rfl (hb hby d4_38) rfl ?_
      show Steps p.tables e below (s₁.setTop (mkF m 39 #[.val (.ref a1), .val (.ref a2), .val (.int (0 : Int32)), .val (.int (0 : Int32))] [(.int ((0 : Int32) ||| (1 : Int32)))])) _
      show Steps p.tables e below (s₁.setTop (mkF m 39 #[.val (.ref a1), .val (.ref a2), .val (.int (0 : Int32)), .val (.int (0 : Int32))] [(.int (1 : Int32))])) _
      refine XS.istoreN X0.here hx rfl (hb hby d4_39) rfl (l' := #[.val (.ref a1), .val (.ref a2), .val (.int (1 : Int32)), .val (.int (0 : Int32))]) rfl ?_
      show Steps p.tables e below (s₁.setTop (mkF m 40 #[.val (.ref a1), .val (.ref a2), .val (.int (1 : Int32)), .val (.int (0 : Int32))] [])) _
      refine XS.iinc X0.here hx rfl (hb hby d4_40) rfl (l' := #[.val (.ref a1), .val (.ref a2), .val (.int (1 : Int32)), .val (.int ((0 : Int32) + (1 : Int32)))]) rfl ?_
      show Steps p.tables e below (s₁.setTop (mkF m 43 #[.val (.ref a1), .val (.ref a2), .val (.int (1 : Int32)), .val (.int ((0 : Int32) + (1 : Int32)))] [])) _
      show Steps p.tables e below (s₁.setTop (mkF m 43 #[.val (.ref a1), .val (.ref a2), .val (.int (1 : Int32)), .val (.int (1 : Int32))] [])) _
      refine XS.goto X0.here hx rfl (pc0 := 43) (pc' := 4) rfl (hb hby d4_43) (by decide) (by decide) ?_
      show Steps p.tables e below (s₁.setTop (mkF m 4 #[.val (.ref a1), .val (.ref a2), .val (.int (1 : Int32)), .val (.int (1 : Int32))] [])) _
      refine XS.iloadN X0.here hx rfl (hb hby d4_4) rfl ?_
      show Steps p.tables e below (s₁.setTop (mkF m 5 #[.val (.ref a1), .val (.ref a2), .val (.int (1 : Int32)), .val (.int (1 : Int32))] [(.int (1 : Int32))])) _
      refine XS.aloadN X0.here hx rfl (hb hby d4_5) rfl rfl ?_
      exact kt
    obtain ⟨cl14, Ar14, qk14, Sz14, Nn14, Hh14, Gg14⟩ := id V1
    have pre15 : ∀ t, Steps p.tables e below (s₁.setTop (mkF m 10 #[.val (.ref a1), .val (.ref a2), .val (.int (1 : Int32)), .val (.int (1 : Int32))] [])) t → Steps p.tables e below (s₁.setTop (entryFrame m #[(.ref a1), (.ref a2)] 4)) t := fun t kt => by
      refine pre13 _ ?_
      show Steps p.tables e below (s₁.setTop (mkF m 6 #[.val (.ref a1), .val (.ref a2), .val (.int (1 : Int32)), .val (.int (1 : Int32))] [(.ref a1), (.int (1 : Int32))])) _
      refine X0.arraylength hx (by rw [e0]; exact Ar14.1) (State.isArrayOf_alike hZ.alike Ar14.2.1) (g := (mkF m 6 #[.val (.ref a1), .val (.ref a2), .val (.int (1 : Int32)), .val (.int (1 : Int32))] [(.ref a1), (.int (1 : Int32))])) rfl rfl (hb hby d4_6) _ ?_
      rw [len_of Sz14 Nn14]
      show Steps p.tables e below (s₁.setTop (mkF m 7 #[.val (.ref a1), .val (.ref a2), .val (.int (1 : Int32)), .val (.int (1 : Int32))] [(.int (2 : Int32)), (.int (1 : Int32))])) _
      refine XS.icmpNo X0.here hx rfl (hb hby d4_7) rfl (tlt (by decide : (1 : Int32) < (2 : Int32))).2.1 ?_
      exact kt
    rcases own_tri x1 y1 with ⟨h16a, h16b⟩ | h16c | ⟨h16d, h16e, h16f⟩
    · have pre17 : ∀ t, Steps p.tables e below (s₁.setTop (mkF m 12 #[.val (.ref a1), .val (.ref a2), .val (.int (1 : Int32)), .val (.int (1 : Int32))] [(.int (1 : Int32)), (.ref a1)])) t → Steps p.tables e below (s₁.setTop (entryFrame m #[(.ref a1), (.ref a2)] 4)) t := fun t kt => by
        refine pre15 _ ?_
        show Steps p.tables e below (s₁.setTop (mkF m 10 #[.val (.ref a1), .val (.ref a2), .val (.int (1 : Int32)), .val (.int (1 : Int32))] [])) _
        refine XS.aloadN X0.here hx rfl (hb hby d4_10) rfl rfl ?_
        show Steps p.tables e below (s₁.setTop (mkF m 11 #[.val (.ref a1), .val (.ref a2), .val (.int (1 : Int32)), .val (.int (1 : Int32))] [(.ref a1)])) _
        refine XS.iloadN X0.here hx rfl (hb hby d4_11) rfl ?_
        exact kt
      obtain ⟨cl18, Ar18, qk18, Sz18, Nn18, Hh18, Gg18⟩ := id V1
      have hin18 : ¬ ((1 : Int32) < 0 ∨ cl18.slots.size ≤ ((1 : Int32)).toNatClampNeg) := inb_of Sz18 ⟨by decide, by decide⟩
      have hat18 : cl18.slots[((1 : Int32)).toNatClampNeg]? = some (.double (FP.i2d x1)) := Hh18.at hin18 rfl
      have pre19 : ∀ t, Steps p.tables e below (s₁.setTop (mkF m 15 #[.val (.ref a1), .val (.ref a2), .val (.int (1 : Int32)), .val (.int (1 : Int32))] [(.int (1 : Int32)), (.ref a2), (.double (FP.i2d x1))])) t → Steps p.tables e below (s₁.setTop (entryFrame m #[(.ref a1), (.ref a2)] 4)) t := fun t kt => by
        refine pre17 _ ?_
        show Steps p.tables e below (s₁.setTop (mkF m 12 #[.val (.ref a1), .val (.ref a2), .val (.int (1 : Int32)), .val (.int (1 : Int32))] [(.int (1 : Int32)), (.ref a1)])) _
        refine X0.daload hx (j := (1 : Int32)) (v := (.double (FP.i2d x1))) (by rw [e0]; exact Ar18.1) (State.isArrayOf_alike hZ.alike Ar18.2.1) Ar18.2.2 hin18 hat18 (g := (mkF m 12 #[.val (.ref a1), .val (.ref a2), .val (.int (1 : Int32)), .val (.int (1 : Int32))] [(.int (1 : Int32)), (.ref a1)])) rfl rfl (hb hby d4_12) _ ?_
        show Steps p.tables e below (s₁.setTop (mkF m 13 #[.val (.ref a1), .val (.ref a2), .val (.int (1 : Int32)), .val (.int (1 : Int32))] [(.double (FP.i2d x1))])) _
        refine XS.aloadN X0.here hx rfl (hb hby d4_13) rfl rfl ?_
        show Steps p.tables e below (s₁.setTop (mkF m 14 #[.val (.ref a1), .val (.ref a2), .val (.int (1 : Int32)), .val (.int (1 : Int32))] [(.ref a2), (.double (FP.i2d x1))])) _
        refine XS.iloadN X0.here hx rfl (hb hby d4_14) rfl ?_
        exact kt
      obtain ⟨cl20, Ar20, qk20, Sz20, Nn20, Hh20, Gg20⟩ := id V2
      have hin20 : ¬ ((1 : Int32) < 0 ∨ cl20.slots.size ≤ ((1 : Int32)).toNatClampNeg) := inb_of Sz20 ⟨by decide, by decide⟩
      have hat20 : cl20.slots[((1 : Int32)).toNatClampNeg]? = some (.double (FP.i2d y1)) := Hh20.at hin20 rfl
      have pre21 : ∀ t, Steps p.tables e below (s₁.setTop (mkF m 25 #[.val (.ref a1), .val (.ref a2), .val (.int (1 : Int32)), .val (.int (1 : Int32))] [(.int (1 : Int32)), (.ref a1), (.int (1 : Int32))])) t → Steps p.tables e below (s₁.setTop (entryFrame m #[(.ref a1), (.ref a2)] 4)) t := fun t kt => by
        refine pre19 _ ?_
        show Steps p.tables e below (s₁.setTop (mkF m 15 #[.val (.ref a1), .val (.ref a2), .val (.int (1 : Int32)), .val (.int (1 : Int32))] [(.int (1 : Int32)), (.ref a2), (.double (FP.i2d x1))])) _
        refine X0.daload hx (j := (1 : Int32)) (v := (.double (FP.i2d y1))) (by rw [e0]; exact Ar20.1) (State.isArrayOf_alike hZ.alike Ar20.2.1) Ar20.2.2 hin20 hat20 (g := (mkF m 15 #[.val (.ref a1), .val (.ref a2), .val (.int (1 : Int32)), .val (.int (1 : Int32))] [(.int (1 : Int32)), (.ref a2), (.double (FP.i2d x1))])) rfl rfl (hb hby d4_15) _ ?_
        show Steps p.tables e below (s₁.setTop (mkF m 16 #[.val (.ref a1), .val (.ref a2), .val (.int (1 : Int32)), .val (.int (1 : Int32))] [(.double (FP.i2d y1)), (.double (FP.i2d x1))])) _
        refine XS.dcmpS X0.here hx rfl (hb hby d4_16) rfl (own_d1 h16a _) ?_
        show Steps p.tables e below (s₁.setTop (mkF m 17 #[.val (.ref a1), .val (.ref a2), .val (.int (1 : Int32)), .val (.int (1 : Int32))] [(.int (-1 : Int32))])) _
        refine XS.ifYes X0.here hx rfl (pc0 := 17) (pc' := 22) rfl (hb hby d4_17) rfl ((if0 _ _).trans (flt (by decide : ¬ ((0 : Int32) < (-1 : Int32)))).2.2.2) (by decide) (by decide) ?_
        show Steps p.tables e below (s₁.setTop (mkF m 22 #[.val (.ref a1), .val (.ref a2), .val (.int (1 : Int32)), .val (.int (1 : Int32))] [])) _
        refine XS.iloadN X0.here hx rfl (hb hby d4_22) rfl ?_
        show Steps p.tables e below (s₁.setTop (mkF m 23 #[.val (.ref a1), .val (.ref a2), .val (.int (1 : Int32)), .val (.int (1 : Int32))] [(.int (1 : Int32))])) _
        refine XS.aloadN X0.here hx rfl (hb hby d4_23) rfl rfl ?_
        show Steps p.tables e below (s₁.setTop (mkF m 24 #[.val (.ref a1), .val (.ref a2), .val (.int (1 : Int32)), .val (.int (1 : Int32))] [(.ref a1), (.int (1 : Int32))])) _
        refine XS.iloadN X0.here hx rfl (hb hby d4_24) rfl ?_
        exact kt
      obtain ⟨cl22, Ar22, qk22, Sz22, Nn22, Hh22, Gg22⟩ := id V1
      have hin22 : ¬ ((1 : Int32) < 0 ∨ cl22.slots.size ≤ ((1 : Int32)).toNatClampNeg) := inb_of Sz22 ⟨by decide, by decide⟩
      have hat22 : cl22.slots[((1 : Int32)).toNatClampNeg]? = some (.double (FP.i2d x1)) := Hh22.at hin22 rfl
      have pre23 : ∀ t, Steps p.tables e below (s₁.setTop (mkF m 28 #[.val (.ref a1), .val (.ref a2), .val (.int (1 : Int32)), .val (.int (1 : Int32))] [(.int (1 : Int32)), (.ref a2), (.double (FP.i2d x1)), (.int (1 : Int32))])) t → Steps p.tables e below (s₁.setTop (entryFrame m #[(.ref a1), (.ref a2)] 4)) t := fun t kt => by
        refine pre21 _ ?_
        show Steps p.tables e below (s₁.setTop (mkF m 25 #[.val (.ref a1), .val (.ref a2), .val (.int (1 : Int32)), .val (.int (1 : Int32))] [(.int (1 : Int32)), (.ref a1), (.int (1 : Int32))])) _
        refine X0.daload hx (j := (1 : Int32)) (v := (.double (FP.i2d x1))) (by rw [e0]; exact Ar22.1) (State.isArrayOf_alike hZ.alike Ar22.2.1) Ar22.2.2 hin22 hat22 (g := (mkF m 25 #[.val (.ref a1), .val (.ref a2), .val (.int (1 : Int32)), .val (.int (1 : Int32))] [(.int (1 : Int32)), (.ref a1), (.int (1 : Int32))])) rfl rfl (hb hby d4_25) _ ?_
        show Steps p.tables e below (s₁.setTop (mkF m 26 #[.val (.ref a1), .val (.ref a2), .val (.int (1 : Int32)), .val (.int (1 : Int32))] [(.double (FP.i2d x1)), (.int (1 : Int32))])) _
        refine XS.aloadN X0.here hx rfl (hb hby d4_26) rfl rfl ?_
        show Steps p.tables e below (s₁.setTop (mkF m 27 #[.val (.ref a1), .val (.ref a2), .val (.int (1 : Int32)), .val (.int (1 : Int32))] [(.ref a2), (.double (FP.i2d x1)), (.int (1 : Int32))])) _
        refine XS.iloadN X0.here hx rfl (hb hby d4_27) rfl ?_
        exact kt
      obtain ⟨cl24, Ar24, qk24, Sz24, Nn24, Hh24, Gg24⟩ := id V2
      have hin24 : ¬ ((1 : Int32) < 0 ∨ cl24.slots.size ≤ ((1 : Int32)).toNatClampNeg) := inb_of Sz24 ⟨by decide, by decide⟩
      have hat24 : cl24.slots[((1 : Int32)).toNatClampNeg]? = some (.double (FP.i2d y1)) := Hh24.at hin24 rfl
      have pre25 : ∀ t, Steps p.tables e below (s₁.setTop (mkF m 6 #[.val (.ref a1), .val (.ref a2), .val (.int (1 : Int32)), .val (.int (2 : Int32))] [(.ref a1), (.int (2 : Int32))])) t → Steps p.tables e below (s₁.setTop (entryFrame m #[(.ref a1), (.ref a2)] 4)) t := fun t kt => by
        refine pre23 _ ?_
        show Steps p.tables e below (s₁.setTop (mkF m 28 #[.val (.ref a1), .val (.ref a2), .val (.int (1 : Int32)), .val (.int (1 : Int32))] [(.int (1 : Int32)), (.ref a2), (.double (FP.i2d x1)), (.int (1 : Int32))])) _
        refine X0.daload hx (j := (1 : Int32)) (v := (.double (FP.i2d y1))) (by rw [e0]; exact Ar24.1) (State.isArrayOf_alike hZ.alike Ar24.2.1) Ar24.2.2 hin24 hat24 (g := (mkF m 28 #[.val (.ref a1), .val (.ref a2), .val (.int (1 : Int32)), .val (.int (1 : Int32))] [(.int (1 : Int32)), (.ref a2), (.double (FP.i2d x1)), (.int (1 : Int32))])) rfl rfl (hb hby d4_28) _ ?_
        show Steps p.tables e below (s₁.setTop (mkF m 29 #[.val (.ref a1), .val (.ref a2), .val (.int (1 : Int32)), .val (.int (1 : Int32))] [(.double (FP.i2d y1)), (.double (FP.i2d x1)), (.int (1 : Int32))])) _
        refine XS.dcmpS X0.here hx rfl (hb hby d4_29) rfl (own_d1 h16a _) ?_
        show Steps p.tables e below (s₁.setTop (mkF m 30 #[.val (.ref a1), .val (.ref a2), .val (.int (1 : Int32)), .val (.int (1 : Int32))] [(.int (-1 : Int32)), (.int (1 : Int32))])) _
        refine XS.ifNo X0.here hx rfl (hb hby d4_30) rfl ((if0 _ _).trans (tlt (by decide : (-1 : Int32) < (0 : Int32))).2.1) ?_
        show Steps p.tables e below (s₁.setTop (mkF m 33 #[.val (.ref a1), .val (.ref a2), .val (.int (1 : Int32)), .val (.int (1 : Int32))] [(.int (1 : Int32))])) _
        refine XS.iconst X0.here hx rfl (hb hby d4_33) ?_
        show Steps p.tables e below (s₁.setTop (mkF m 34 #[.val (.ref a1), .val (.ref a2), .val (.int (1 : Int32)), .val (.int (1 : Int32))] [(.int (1 : Int32)), (.int (1 : Int32))])) _
        refine XS.goto X0.here hx rfl (pc0 := 34) (pc' := 38) rfl (hb hby d4_34) (by decide) (by decide) ?_
        show Steps p.tables e below (s₁.setTop (mkF m 38 #[.val (.ref a1), .val (.ref a2), .val (.int (1 : Int32)), .val (.int (1 : Int32))] [(.int (1 : Int32)), (.int (1 : Int32))])) _
        refine XS.ior X0.here hx rfl (hb hby d4_38) rfl ?_
        show Steps p.tables e below (s₁.setTop (mkF m 39 #[.val (.ref a1), .val (.ref a2), .val (.int (1 : Int32)), .val (.int (1 : Int32))] [(.int ((1 : Int32) ||| (1 : Int32)))])) _
        show Steps p.tables e below (s₁.setTop (mkF m 39 #[.val (.ref a1), .val (.ref a2), .val (.int (1 : Int32)), .val (.int (1 : Int32))] [(.int (1 : Int32))])) _
        refine XS.istoreN X0.here hx rfl (hb hby d4_39) rfl (l' := #[.val (.ref a1), .val (.ref a2), .val (.int (1 : Int32)), .val (.int (1 : Int32))]) rfl ?_
        show Steps p.tables e below (s₁.setTop (mkF m 40 #[.val (.ref a1), .val (.ref a2), .val (.int (1 : Int32)), .val (.int (1 : Int32))] [])) _
        refine XS.iinc X0.here hx rfl (hb hby d4_40) rfl (l' := #[.val (.ref a1), .val (.ref a2), .val (.int (1 : Int32)), .val (.int ((1 : Int32) + (1 : Int32)))]) rfl ?_
        show Steps p.tables e below (s₁.setTop (mkF m 43 #[.val (.ref a1), .val (.ref a2), .val (.int (1 : Int32)), .val (.int ((1 : Int32) + (1 : Int32)))] [])) _
        show Steps p.tables e below (s₁.setTop (mkF m 43 #[.val (.ref a1), .val (.ref a2), .val (.int (1 : Int32)), .val (.int (2 : Int32))] [])) _
        refine XS.goto X0.here hx rfl (pc0 := 43) (pc' := 4) rfl (hb hby d4_43) (by decide) (by decide) ?_
        show Steps p.tables e below (s₁.setTop (mkF m 4 #[.val (.ref a1), .val (.ref a2), .val (.int (1 : Int32)), .val (.int (2 : Int32))] [])) _
        refine XS.iloadN X0.here hx rfl (hb hby d4_4) rfl ?_
        show Steps p.tables e below (s₁.setTop (mkF m 5 #[.val (.ref a1), .val (.ref a2), .val (.int (1 : Int32)), .val (.int (2 : Int32))] [(.int (2 : Int32))])) _
        refine XS.aloadN X0.here hx rfl (hb hby d4_5) rfl rfl ?_
        exact kt
      obtain ⟨cl26, Ar26, qk26, Sz26, Nn26, Hh26, Gg26⟩ := id V1
      have pre27 : ∀ t, Steps p.tables e below (s₁.setTop (mkF m 47 #[.val (.ref a1), .val (.ref a2), .val (.int (1 : Int32)), .val (.int (2 : Int32))] [(.int (1 : Int32))])) t → Steps p.tables e below (s₁.setTop (entryFrame m #[(.ref a1), (.ref a2)] 4)) t := fun t kt => by
        refine pre25 _ ?_
        show Steps p.tables e below (s₁.setTop (mkF m 6 #[.val (.ref a1), .val (.ref a2), .val (.int (1 : Int32)), .val (.int (2 : Int32))] [(.ref a1), (.int (2 : Int32))])) _
        refine X0.arraylength hx (by rw [e0]; exact Ar26.1) (State.isArrayOf_alike hZ.alike Ar26.2.1) (g := (mkF m 6 #[.val (.ref a1), .val (.ref a2), .val (.int (1 : Int32)), .val (.int (2 : Int32))] [(.ref a1), (.int (2 : Int32))])) rfl rfl (hb hby d4_6) _ ?_
        rw [len_of Sz26 Nn26]
        show Steps p.tables e below (s₁.setTop (mkF m 7 #[.val (.ref a1), .val (.ref a2), .val (.int (1 : Int32)), .val (.int (2 : Int32))] [(.int (2 : Int32)), (.int (2 : Int32))])) _
        refine XS.icmpYes X0.here hx rfl (pc0 := 7) (pc' := 46) rfl (hb hby d4_7) rfl (flt (by decide : ¬ ((2 : Int32) < (2 : Int32)))).2.1 (by decide) (by decide) ?_
        show Steps p.tables e below (s₁.setTop (mkF m 46 #[.val (.ref a1), .val (.ref a2), .val (.int (1 : Int32)), .val (.int (2 : Int32))] [])) _
        refine XS.iloadN X0.here hx rfl (hb hby d4_46) rfl ?_
        exact kt
      have ev : own_dom [(x0, y0), (x1, y1)] (0 : Int32) = (1 : Int32) := by simp only [own_dom, h4a, h4b, h16a, h16b, if_true, if_false]; try decide
      obtain ⟨fs, hr, hrun, hended, hW, hsame⟩ := X0.leave (v := (some (.int (1 : Int32)))) (fun h => by rw [Bd.returns] at h; cases h)
      refine ⟨_, _, pre27 _ ?_, hrun, hended, _, _, rfl, ?_, ⟨_, rfl⟩, hW, hsame.mono (by decide) (by decide)⟩
      · show Steps p.tables e below (s₁.setTop (mkF m 47 #[.val (.ref a1), .val (.ref a2), .val (.int (1 : Int32)), .val (.int (2 : Int32))] [(.int (1 : Int32))])) _
        exact retN X0 hx (t := .boolean) Bd.returns (by simp) (hb hby d4_47) hr
      · show Q4m2 Z a1 a2 k1 k2 x0 x1 y0 y1 h0 n0 _ s₁.heap _
        rw [e0]
        exact ⟨by rw [ev], N0, rfl⟩
    · have pre28 : ∀ t, Steps p.tables e below (s₁.setTop (mkF m 12 #[.val (.ref a1), .val (.ref a2), .val (.int (1 : Int32)), .val (.int (1 : Int32))] [(.int (1 : Int32)), (.ref a1)])) t → Steps p.tables e below (s₁.setTop (entryFrame m #[(.ref a1), (.ref a2)] 4)) t := fun t kt => by
        refine pre15 _ ?_
        show Steps p.tables e below (s₁.setTop (mkF m 10 #[.val (.ref a1), .val (.ref a2), .val (.int (1 : Int32)), .val (.int (1 : Int32))] [])) _
        refine XS.aloadN X0.here hx rfl (hb hby d4_10) rfl rfl ?_
        show Steps p.tables e below (s₁.setTop (mkF m 11 #[.val (.ref a1), .val (.ref a2), .val (.int (1 : Int32)), .val (.int (1 : Int32))] [(.ref a1)])) _
        refine XS.iloadN X0.here hx rfl (hb hby d4_11) rfl ?_
        exact kt
      obtain ⟨cl29, Ar29, qk29, Sz29, Nn29, Hh29, Gg29⟩ := id V1
      have hin29 : ¬ ((1 : Int32) < 0 ∨ cl29.slots.size ≤ ((1 : Int32)).toNatClampNeg) := inb_of Sz29 ⟨by decide, by decide⟩
      have hat29 : cl29.slots[((1 : Int32)).toNatClampNeg]? = some (.double (FP.i2d x1)) := Hh29.at hin29 rfl
      have pre30 : ∀ t, Steps p.tables e below (s₁.setTop (mkF m 15 #[.val (.ref a1), .val (.ref a2), .val (.int (1 : Int32)), .val (.int (1 : Int32))] [(.int (1 : Int32)), (.ref a2), (.double (FP.i2d x1))])) t → Steps p.tables e below (s₁.setTop (entryFrame m #[(.ref a1), (.ref a2)] 4)) t := fun t kt => by
        refine pre28 _ ?_
        show Steps p.tables e below (s₁.setTop (mkF m 12 #[.val (.ref a1), .val (.ref a2), .val (.int (1 : Int32)), .val (.int (1 : Int32))] [(.int (1 : Int32)), (.ref a1)])) _
        refine X0.daload hx (j := (1 : Int32)) (v := (.double (FP.i2d x1))) (by rw [e0]; exact Ar29.1) (State.isArrayOf_alike hZ.alike Ar29.2.1) Ar29.2.2 hin29 hat29 (g := (mkF m 12 #[.val (.ref a1), .val (.ref a2), .val (.int (1 : Int32)), .val (.int (1 : Int32))] [(.int (1 : Int32)), (.ref a1)])) rfl rfl (hb hby d4_12) _ ?_
        show Steps p.tables e below (s₁.setTop (mkF m 13 #[.val (.ref a1), .val (.ref a2), .val (.int (1 : Int32)), .val (.int (1 : Int32))] [(.double (FP.i2d x1))])) _
        refine XS.aloadN X0.here hx rfl (hb hby d4_13) rfl rfl ?_
        show Steps p.tables e below (s₁.setTop (mkF m 14 #[.val (.ref a1), .val (.ref a2), .val (.int (1 : Int32)), .val (.int (1 : Int32))] [(.ref a2), (.double (FP.i2d x1))])) _
        refine XS.iloadN X0.here hx rfl (hb hby d4_14) rfl ?_
        exact kt
      obtain ⟨cl31, Ar31, qk31, Sz31, Nn31, Hh31, Gg31⟩ := id V2
      have hin31 : ¬ ((1 : Int32) < 0 ∨ cl31.slots.size ≤ ((1 : Int32)).toNatClampNeg) := inb_of Sz31 ⟨by decide, by decide⟩
      have hat31 : cl31.slots[((1 : Int32)).toNatClampNeg]? = some (.double (FP.i2d y1)) := Hh31.at hin31 rfl
      have pre32 : ∀ t, Steps p.tables e below (s₁.setTop (mkF m 21 #[.val (.ref a1), .val (.ref a2), .val (.int (1 : Int32)), .val (.int (1 : Int32))] [(.int (0 : Int32))])) t → Steps p.tables e below (s₁.setTop (entryFrame m #[(.ref a1), (.ref a2)] 4)) t := fun t kt => by
        refine pre30 _ ?_
        show Steps p.tables e below (s₁.setTop (mkF m 15 #[.val (.ref a1), .val (.ref a2), .val (.int (1 : Int32)), .val (.int (1 : Int32))] [(.int (1 : Int32)), (.ref a2), (.double (FP.i2d x1))])) _
        refine X0.daload hx (j := (1 : Int32)) (v := (.double (FP.i2d y1))) (by rw [e0]; exact Ar31.1) (State.isArrayOf_alike hZ.alike Ar31.2.1) Ar31.2.2 hin31 hat31 (g := (mkF m 15 #[.val (.ref a1), .val (.ref a2), .val (.int (1 : Int32)), .val (.int (1 : Int32))] [(.int (1 : Int32)), (.ref a2), (.double (FP.i2d x1))])) rfl rfl (hb hby d4_15) _ ?_
        show Steps p.tables e below (s₁.setTop (mkF m 16 #[.val (.ref a1), .val (.ref a2), .val (.int (1 : Int32)), .val (.int (1 : Int32))] [(.double (FP.i2d y1)), (.double (FP.i2d x1))])) _
        refine XS.dcmpS X0.here hx rfl (hb hby d4_16) rfl (own_d2 h16c _) ?_
        show Steps p.tables e below (s₁.setTop (mkF m 17 #[.val (.ref a1), .val (.ref a2), .val (.int (1 : Int32)), .val (.int (1 : Int32))] [(.int (1 : Int32))])) _
        refine XS.ifNo X0.here hx rfl (hb hby d4_17) rfl ((if0 _ _).trans (tlt (by decide : (0 : Int32) < (1 : Int32))).2.2.2) ?_
        show Steps p.tables e below (s₁.setTop (mkF m 20 #[.val (.ref a1), .val (.ref a2), .val (.int (1 : Int32)), .val (.int (1 : Int32))] [])) _
        refine XS.iconst X0.here hx rfl (hb hby d4_20) ?_
        exact kt
      have ev : own_dom [(x0, y0), (x1, y1)] (0 : Int32) = (0 : Int32) := by simp only [own_dom, h4a, h4b, h16c, if_true, if_false]; try decide
      obtain ⟨fs, hr, hrun, hended, hW, hsame⟩ := X0.leave (v := (some (.int (0 : Int32)))) (fun h => by rw [Bd.returns] at h; cases h)
      refine ⟨_, _, pre32 _ ?_, hrun, hended, _, _, rfl, ?_, ⟨_, rfl⟩, hW, hsame.mono (by decide) (by decide)⟩
      · show Steps p.tables e below (s₁.setTop (mkF m 21 #[.val (.ref a1), .val (.ref a2), .val (.int (1 : Int32)), .val (.int (1 : Int32))] [(.int (0 : Int32))])) _
        exact retN X0 hx (t := .boolean) Bd.returns (by simp) (hb hby d4_21) hr
      · show Q4m2 Z a1 a2 k1 k2 x0 x1 y0 y1 h0 n0 _ s₁.heap _
        rw [e0]
        exact ⟨by rw [ev], N0, rfl⟩
    · have pre33 : ∀ t, Steps p.tables e below (s₁.setTop (mkF m 12 #[.val (.ref a1), .val (.ref a2), .val (.int (1 : Int32)), .val (.int (1 : Int32))] [(.int (1 : Int32)), (.ref a1)])) t → Steps p.tables e below (s₁.setTop (entryFrame m #[(.ref a1), (.ref a2)] 4)) t := fun t kt => by
        refine pre15 _ ?_
        show Steps p.tables e below (s₁.setTop (mkF m 10 #[.val (.ref a1), .val (.ref a2), .val (.int (1 : Int32)), .val (.int (1 : Int32))] [])) _
        refine XS.aloadN X0.here hx rfl (hb hby d4_10) rfl rfl ?_
        show Steps p.tables e below (s₁.setTop (mkF m 11 #[.val (.ref a1), .val (.ref a2), .val (.int (1 : Int32)), .val (.int (1 : Int32))] [(.ref a1)])) _
        refine XS.iloadN X0.here hx rfl (hb hby d4_11) rfl ?_
        exact kt
      obtain ⟨cl34, Ar34, qk34, Sz34, Nn34, Hh34, Gg34⟩ := id V1
      have hin34 : ¬ ((1 : Int32) < 0 ∨ cl34.slots.size ≤ ((1 : Int32)).toNatClampNeg) := inb_of Sz34 ⟨by decide, by decide⟩
      have hat34 : cl34.slots[((1 : Int32)).toNatClampNeg]? = some (.double (FP.i2d x1)) := Hh34.at hin34 rfl
      have pre35 : ∀ t, Steps p.tables e below (s₁.setTop (mkF m 15 #[.val (.ref a1), .val (.ref a2), .val (.int (1 : Int32)), .val (.int (1 : Int32))] [(.int (1 : Int32)), (.ref a2), (.double (FP.i2d x1))])) t → Steps p.tables e below (s₁.setTop (entryFrame m #[(.ref a1), (.ref a2)] 4)) t := fun t kt => by
        refine pre33 _ ?_
        show Steps p.tables e below (s₁.setTop (mkF m 12 #[.val (.ref a1), .val (.ref a2), .val (.int (1 : Int32)), .val (.int (1 : Int32))] [(.int (1 : Int32)), (.ref a1)])) _
        refine X0.daload hx (j := (1 : Int32)) (v := (.double (FP.i2d x1))) (by rw [e0]; exact Ar34.1) (State.isArrayOf_alike hZ.alike Ar34.2.1) Ar34.2.2 hin34 hat34 (g := (mkF m 12 #[.val (.ref a1), .val (.ref a2), .val (.int (1 : Int32)), .val (.int (1 : Int32))] [(.int (1 : Int32)), (.ref a1)])) rfl rfl (hb hby d4_12) _ ?_
        show Steps p.tables e below (s₁.setTop (mkF m 13 #[.val (.ref a1), .val (.ref a2), .val (.int (1 : Int32)), .val (.int (1 : Int32))] [(.double (FP.i2d x1))])) _
        refine XS.aloadN X0.here hx rfl (hb hby d4_13) rfl rfl ?_
        show Steps p.tables e below (s₁.setTop (mkF m 14 #[.val (.ref a1), .val (.ref a2), .val (.int (1 : Int32)), .val (.int (1 : Int32))] [(.ref a2), (.double (FP.i2d x1))])) _
        refine XS.iloadN X0.here hx rfl (hb hby d4_14) rfl ?_
        exact kt
      obtain ⟨cl36, Ar36, qk36, Sz36, Nn36, Hh36, Gg36⟩ := id V2
      have hin36 : ¬ ((1 : Int32) < 0 ∨ cl36.slots.size ≤ ((1 : Int32)).toNatClampNeg) := inb_of Sz36 ⟨by decide, by decide⟩
      have hat36 : cl36.slots[((1 : Int32)).toNatClampNeg]? = some (.double (FP.i2d y1)) := Hh36.at hin36 rfl
      have pre37 : ∀ t, Steps p.tables e below (s₁.setTop (mkF m 25 #[.val (.ref a1), .val (.ref a2), .val (.int (1 : Int32)), .val (.int (1 : Int32))] [(.int (1 : Int32)), (.ref a1), (.int (1 : Int32))])) t → Steps p.tables e below (s₁.setTop (entryFrame m #[(.ref a1), (.ref a2)] 4)) t := fun t kt => by
        refine pre35 _ ?_
        show Steps p.tables e below (s₁.setTop (mkF m 15 #[.val (.ref a1), .val (.ref a2), .val (.int (1 : Int32)), .val (.int (1 : Int32))] [(.int (1 : Int32)), (.ref a2), (.double (FP.i2d x1))])) _
        refine X0.daload hx (j := (1 : Int32)) (v := (.double (FP.i2d y1))) (by rw [e0]; exact Ar36.1) (State.isArrayOf_alike hZ.alike Ar36.2.1) Ar36.2.2 hin36 hat36 (g := (mkF m 15 #[.val (.ref a1), .val (.ref a2), .val (.int (1 : Int32)), .val (.int (1 : Int32))] [(.int (1 : Int32)), (.ref a2), (.double (FP.i2d x1))])) rfl rfl (hb hby d4_15) _ ?_
        show Steps p.tables e below (s₁.setTop (mkF m 16 #[.val (.ref a1), .val (.ref a2), .val (.int (1 : Int32)), .val (.int (1 : Int32))] [(.double (FP.i2d y1)), (.double (FP.i2d x1))])) _
        refine XS.dcmpS X0.here hx rfl (hb hby d4_16) rfl (own_d0 h16d _) ?_
        show Steps p.tables e below (s₁.setTop (mkF m 17 #[.val (.ref a1), .val (.ref a2), .val (.int (1 : Int32)), .val (.int (1 : Int32))] [(.int (0 : Int32))])) _
        refine XS.ifYes X0.here hx rfl (pc0 := 17) (pc' := 22) rfl (hb hby d4_17) rfl ((if0 _ _).trans (flt (by decide : ¬ ((0 : Int32) < (0 : Int32)))).2.2.2) (by decide) (by decide) ?_
        show Steps p.tables e below (s₁.setTop (mkF m 22 #[.val (.ref a1), .val (.ref a2), .val (.int (1 : Int32)), .val (.int (1 : Int32))] [])) _
        refine XS.iloadN X0.here hx rfl (hb hby d4_22) rfl ?_
        show Steps p.tables e below (s₁.setTop (mkF m 23 #[.val (.ref a1), .val (.ref a2), .val (.int (1 : Int32)), .val (.int (1 : Int32))] [(.int (1 : Int32))])) _
        refine XS.aloadN X0.here hx rfl (hb hby d4_23) rfl rfl ?_
        show Steps p.tables e below (s₁.setTop (mkF m 24 #[.val (.ref a1), .val (.ref a2), .val (.int (1 : Int32)), .val (.int (1 : Int32))] [(.ref a1), (.int (1 : Int32))])) _
        refine XS.iloadN X0.here hx rfl (hb hby d4_24) rfl ?_
        exact kt
      obtain ⟨cl38, Ar38, qk38, Sz38, Nn38, Hh38, Gg38⟩ := id V1
      have hin38 : ¬ ((1 : Int32) < 0 ∨ cl38.slots.size ≤ ((1 : Int32)).toNatClampNeg) := inb_of Sz38 ⟨by decide, by decide⟩
      have hat38 : cl38.slots[((1 : Int32)).toNatClampNeg]? = some (.double (FP.i2d x1)) := Hh38.at hin38 rfl
      have pre39 : ∀ t, Steps p.tables e below (s₁.setTop (mkF m 28 #[.val (.ref a1), .val (.ref a2), .val (.int (1 : Int32)), .val (.int (1 : Int32))] [(.int (1 : Int32)), (.ref a2), (.double (FP.i2d x1)), (.int (1 : Int32))])) t → Steps p.tables e below (s₁.setTop (entryFrame m #[(.ref a1), (.ref a2)] 4)) t := fun t kt => by
        refine pre37 _ ?_
        show Steps p.tables e below (s₁.setTop (mkF m 25 #[.val (.ref a1), .val (.ref a2), .val (.int (1 : Int32)), .val (.int (1 : Int32))] [(.int (1 : Int32)), (.ref a1), (.int (1 : Int32))])) _
        refine X0.daload hx (j := (1 : Int32)) (v := (.double (FP.i2d x1))) (by rw [e0]; exact Ar38.1) (State.isArrayOf_alike hZ.alike Ar38.2.1) Ar38.2.2 hin38 hat38 (g := (mkF m 25 #[.val (.ref a1), .val (.ref a2), .val (.int (1 : Int32)), .val (.int (1 : Int32))] [(.int (1 : Int32)), (.ref a1), (.int (1 : Int32))])) rfl rfl (hb hby d4_25) _ ?_
        show Steps p.tables e below (s₁.setTop (mkF m 26 #[.val (.ref a1), .val (.ref a2), .val (.int (1 : Int32)), .val (.int (1 : Int32))] [(.double (FP.i2d x1)), (.int (1 : Int32))])) _
        refine XS.aloadN X0.here hx rfl (hb hby d4_26) rfl rfl ?_
        show Steps p.tables e below (s₁.setTop (mkF m 27 #[.val (.ref a1), .val (.ref a2), .val (.int (1 : Int32)), .val (.int (1 : Int32))] [(.ref a2), (.double (FP.i2d x1)), (.int (1 : Int32))])) _
        refine XS.iloadN X0.here hx rfl (hb hby d4_27) rfl ?_
        exact kt
      obtain ⟨cl40, Ar40, qk40, Sz40, Nn40, Hh40, Gg40⟩ := id V2
      have hin40 : ¬ ((1 : Int32) < 0 ∨ cl40.slots.size ≤ ((1 : Int32)).toNatClampNeg) := inb_of Sz40 ⟨by decide, by decide⟩
      have hat40 : cl40.slots[((1 : Int32)).toNatClampNeg]? = some (.double (FP.i2d y1)) := Hh40.at hin40 rfl
      have pre41 : ∀ t, Steps p.tables e below (s₁.setTop (mkF m 6 #[.val (.ref a1), .val (.ref a2), .val (.int (1 : Int32)), .val (.int (2 : Int32))] [(.ref a1), (.int (2 : Int32))])) t → Steps p.tables e below (s₁.setTop (entryFrame m #[(.ref a1), (.ref a2)] 4)) t := fun t kt => by
        refine pre39 _ ?_
        show Steps p.tables e below (s₁.setTop (mkF m 28 #[.val (.ref a1), .val (.ref a2), .val (.int (1 : Int32)), .val (.int (1 : Int32))] [(.int (1 : Int32)), (.ref a2), (.double (FP.i2d x1)), (.int (1 : Int32))])) _
        refine X0.daload hx (j := (1 : Int32)) (v := (.double (FP.i2d y1))) (by rw [e0]; exact Ar40.1) (State.isArrayOf_alike hZ.alike Ar40.2.1) Ar40.2.2 hin40 hat40 (g := (mkF m 28 #[.val (.ref a1), .val (.ref a2), .val (.int (1 : Int32)), .val (.int (1 : Int32))] [(.int (1 : Int32)), (.ref a2), (.double (FP.i2d x1)), (.int (1 : Int32))])) rfl rfl (hb hby d4_28) _ ?_
        show Steps p.tables e below (s₁.setTop (mkF m 29 #[.val (.ref a1), .val (.ref a2), .val (.int (1 : Int32)), .val (.int (1 : Int32))] [(.double (FP.i2d y1)), (.double (FP.i2d x1)), (.int (1 : Int32))])) _
        refine XS.dcmpS X0.here hx rfl (hb hby d4_29) rfl (own_d0 h16d _) ?_
        show Steps p.tables e below (s₁.setTop (mkF m 30 #[.val (.ref a1), .val (.ref a2), .val (.int (1 : Int32)), .val (.int (1 : Int32))] [(.int (0 : Int32)), (.int (1 : Int32))])) _
        refine XS.ifYes X0.here hx rfl (pc0 := 30) (pc' := 37) rfl (hb hby d4_30) rfl ((if0 _ _).trans (flt (by decide : ¬ ((0 : Int32) < (0 : Int32)))).2.1) (by decide) (by decide) ?_
        show Steps p.tables e below (s₁.setTop (mkF m 37 #[.val (.ref a1), .val (.ref a2), .val (.int (1 : Int32)), .val (.int (1 : Int32))] [(.int (1 : Int32))])) _
        refine XS.iconst X0.here hx rfl (hb hby d4_37) ?_
        show Steps p.tables e below (s₁.setTop (mkF m 38 #[.val (.ref a1), .val (.ref a2), .val (.int (1 : Int32)), .val (.int (1 : Int32))] [(.int (0 : Int32)), (.int (1 : Int32))])) _
        refine XS.ior X0.here hx rfl (hb hby d4_38) rfl ?_
        show Steps p.tables e below (s₁.setTop (mkF m 39 #[.val (.ref a1), .val (.ref a2), .val (.int (1 : Int32)), .val (.int (1 : Int32))] [(.int ((1 : Int32) ||| (0 : Int32)))])) _
        show Steps p.tables e below (s₁.setTop (mkF m 39 #[.val (.ref a1), .val (.ref a2), .val (.int (1 : Int32)), .val (.int (1 : Int32))] [(.int (1 : Int32))])) _
        refine XS.istoreN X0.here hx rfl (hb hby d4_39) rfl (l' := #[.val (.ref a1), .val (.ref a2), .val (.int (1 : Int32)), .val (.int (1 : Int32))]) rfl ?_
        show Steps p.tables e below (s₁.setTop (mkF m 40 #[.val (.ref a1), .val (.ref a2), .val (.int (1 : Int32)), .val (.int (1 : Int32))] [])) _
        refine XS.iinc X0.here hx rfl (hb hby d4_40) rfl (l' := #[.val (.ref a1), .val (.ref a2), .val (.int (1 : Int32)), .val (.int ((1 : Int32) + (1 : Int32)))]) rfl ?_
        show Steps p.tables e below (s₁.setTop (mkF m 43 #[.val (.ref a1), .val (.ref a2), .val (.int (1 : Int32)), .val (.int ((1 : Int32) + (1 : Int32)))] [])) _
        show Steps p.tables e below (s₁.setTop (mkF m 43 #[.val (.ref a1), .val (.ref a2), .val (.int (1 : Int32)), .val (.int (2 : Int32))] [])) _
        refine XS.goto X0.here hx rfl (pc0 := 43) (pc' := 4) rfl (hb hby d4_43) (by decide) (by decide) ?_
        show Steps p.tables e below (s₁.setTop (mkF m 4 #[.val (.ref a1), .val (.ref a2), .val (.int (1 : Int32)), .val (.int (2 : Int32))] [])) _
        refine XS.iloadN X0.here hx rfl (hb hby d4_4) rfl ?_
        show Steps p.tables e below (s₁.setTop (mkF m 5 #[.val (.ref a1), .val (.ref a2), .val (.int (1 : Int32)), .val (.int (2 : Int32))] [(.int (2 : Int32))])) _
        refine XS.aloadN X0.here hx rfl (hb hby d4_5) rfl rfl ?_
        exact kt
      obtain ⟨cl42, Ar42, qk42, Sz42, Nn42, Hh42, Gg42⟩ := id V1
      have pre43 : ∀ t, Steps p.tables e below (s₁.setTop (mkF m 47 #[.val (.ref a1), .val (.ref a2), .val (.int (1 : Int32)), .val (.int (2 : Int32))] [(.int (1 : Int32))])) t → Steps p.tables e below (s₁.setTop (entryFrame m #[(.ref a1), (.ref a2)] 4)) t := fun t kt => by
        refine pre41 _ ?_
        show Steps p.tables e below (s₁.setTop (mkF m 6 #[.val (.ref a1), .val (.ref a2), .val (.int (1 : Int32)), .val (.int (2 : Int32))] [(.ref a1), (.int (2 : Int32))])) _
        refine X0.arraylength hx (by rw [e0]; exact Ar42.1) (State.isArrayOf_alike hZ.alike Ar42.2.1) (g := (mkF m 6 #[.val (.ref a1), .val (.ref a2), .val (.int (1 : Int32)), .val (.int (2 : Int32))] [(.ref a1), (.int (2 : Int32))])) rfl rfl (hb hby d4_6) _ ?_
        rw [len_of Sz42 Nn42]
        show Steps p.tables e below (s₁.setTop (mkF m 7 #[.val (.ref a1), .val (.ref a2), .val (.int (1 : Int32)), .val (.int (2 : Int32))] [(.int (2 : Int32)), (.int (2 : Int32))])) _
        refine XS.icmpYes X0.here hx rfl (pc0 := 7) (pc' := 46) rfl (hb hby d4_7) rfl (flt (by decide : ¬ ((2 : Int32) < (2 : Int32)))).2.1 (by decide) (by decide) ?_
        show Steps p.tables e below (s₁.setTop (mkF m 46 #[.val (.ref a1), .val (.ref a2), .val (.int (1 : Int32)), .val (.int (2 : Int32))] [])) _
        refine XS.iloadN X0.here hx rfl (hb hby d4_46) rfl ?_
        exact kt
      have ev : own_dom [(x0, y0), (x1, y1)] (0 : Int32) = (1 : Int32) := by simp only [own_dom, h4a, h4b, h16e, h16f, if_true, if_false]; try decide
      obtain ⟨fs, hr, hrun, hended, hW, hsame⟩ := X0.leave (v := (some (.int (1 : Int32)))) (fun h => by rw [Bd.returns] at h; cases h)
      refine ⟨_, _, pre43 _ ?_, hrun, hended, _, _, rfl, ?_, ⟨_, rfl⟩, hW, hsame.mono (by decide) (by decide)⟩
      · show Steps p.tables e below (s₁.setTop (mkF m 47 #[.val (.ref a1), .val (.ref a2), .val (.int (1 : Int32)), .val (.int (2 : Int32))] [(.int (1 : Int32))])) _
        exact retN X0 hx (t := .boolean) Bd.returns (by simp) (hb hby d4_47) hr
      · show Q4m2 Z a1 a2 k1 k2 x0 x1 y0 y1 h0 n0 _ s₁.heap _
        rw [e0]
        exact ⟨by rw [ev], N0, rfl⟩
  · have pre44 : ∀ t, Steps p.tables e below (s₁.setTop (mkF m 12 #[.val (.ref a1), .val (.ref a2), .val (.int (0 : Int32)), .val (.int (0 : Int32))] [(.int (0 : Int32)), (.ref a1)])) t → Steps p.tables e below (s₁.setTop (entryFrame m #[(.ref a1), (.ref a2)] 4)) t := fun t kt => by
      refine pre3 _ ?_
      show Steps p.tables e below (s₁.setTop (mkF m 10 #[.val (.ref a1), .val (.ref a2), .val (.int (0 : Int32)), .val (.int (0 : Int32))] [])) _
      refine XS.aloadN X0.here hx rfl (hb hby d4_10) rfl rfl ?_
      show Steps p.tables e below (s₁.setTop (mkF m 11 #[.val (.ref a1), .val (.ref a2), .val (.int (0 : Int32)), .val (.int (0 : Int32))] [(.ref a1)])) _
      refine XS.iloadN X0.here hx rfl (hb hby d4_11) rfl ?_
      exact kt
    obtain ⟨cl45, Ar45, qk45, Sz45, Nn45, Hh45, Gg45⟩ := id V1
    have hin45 : ¬ ((0 : Int32) < 0 ∨ cl45.slots.size ≤ ((0 : Int32)).toNatClampNeg) := inb_of Sz45 ⟨by decide, by decide⟩
    have hat45 : cl45.slots[((0 : Int32)).toNatClampNeg]? = some (.double (FP.i2d x0)) := Hh45.at hin45 rfl
    have pre46 : ∀ t, Steps p.tables e below (s₁.setTop (mkF m 15 #[.val (.ref a1), .val (.ref a2), .val (.int (0 : Int32)), .val (.int (0 : Int32))] [(.int (0 : Int32)), (.ref a2), (.double (FP.i2d x0))])) t → Steps p.tables e below (s₁.setTop (entryFrame m #[(.ref a1), (.ref a2)] 4)) t := fun t kt => by
      refine pre44 _ ?_
      show Steps p.tables e below (s₁.setTop (mkF m 12 #[.val (.ref a1), .val (.ref a2), .val (.int (0 : Int32)), .val (.int (0 : Int32))] [(.int (0 : Int32)), (.ref a1)])) _
      refine X0.daload hx (j := (0 : Int32)) (v := (.double (FP.i2d x0))) (by rw [e0]; exact Ar45.1) (State.isArrayOf_alike hZ.alike Ar45.2.1) Ar45.2.2 hin45 hat45 (g := (mkF m 12 #[.val (.ref a1), .val (.ref a2), .val (.int (0 : Int32)), .val (.int (0 : Int32))] [(.int (0 : Int32)), (.ref a1)])) rfl rfl (hb hby d4_12) _ ?_
      show Steps p.tables e below (s₁.setTop (mkF m 13 #[.val (.ref a1), .val (.ref a2), .val (.int (0 : Int32)), .val (.int (0 : Int32))] [(.double (FP.i2d x0))])) _
      refine XS.aloadN X0.here hx rfl (hb hby d4_13) rfl rfl ?_
      show Steps p.tables e below (s₁.setTop (mkF m 14 #[.val (.ref a1), .val (.ref a2), .val (.int (0 : Int32)), .val (.int (0 : Int32))] [(.ref a2), (.double (FP.i2d x0))])) _
      refine XS.iloadN X0.here hx rfl (hb hby d4_14) rfl ?_
      exact kt
    obtain ⟨cl47, Ar47, qk47, Sz47, Nn47, Hh47, Gg47⟩ := id V2
    have hin47 : ¬ ((0 : Int32) < 0 ∨ cl47.slots.size ≤ ((0 : Int32)).toNatClampNeg) := inb_of Sz47 ⟨by decide, by decide⟩
    have hat47 : cl47.slots[((0 : Int32)).toNatClampNeg]? = some (.double (FP.i2d y0)) := Hh47.at hin47 rfl
    have pre48 : ∀ t, Steps p.tables e below (s₁.setTop (mkF m 21 #[.val (.ref a1), .val (.ref a2), .val (.int (0 : Int32)), .val (.int (0 : Int32))] [(.int (0 : Int32))])) t → Steps p.tables e below (s₁.setTop (entryFrame m #[(.ref a1), (.ref a2)] 4)) t := fun t kt => by
      refine pre46 _ ?_
      show Steps p.tables e below (s₁.setTop (mkF m 15 #[.val (.ref a1), .val (.ref a2), .val (.int (0 : Int32)), .val (.int (0 : Int32))] [(.int (0 : Int32)), (.ref a2), (.double (FP.i2d x0))])) _
      refine X0.daload hx (j := (0 : Int32)) (v := (.double (FP.i2d y0))) (by rw [e0]; exact Ar47.1) (State.isArrayOf_alike hZ.alike Ar47.2.1) Ar47.2.2 hin47 hat47 (g := (mkF m 15 #[.val (.ref a1), .val (.ref a2), .val (.int (0 : Int32)), .val (.int (0 : Int32))] [(.int (0 : Int32)), (.ref a2), (.double (FP.i2d x0))])) rfl rfl (hb hby d4_15) _ ?_
      show Steps p.tables e below (s₁.setTop (mkF m 16 #[.val (.ref a1), .val (.ref a2), .val (.int (0 : Int32)), .val (.int (0 : Int32))] [(.double (FP.i2d y0)), (.double (FP.i2d x0))])) _
      refine XS.dcmpS X0.here hx rfl (hb hby d4_16) rfl (own_d2 h4c _) ?_
      show Steps p.tables e below (s₁.setTop (mkF m 17 #[.val (.ref a1), .val (.ref a2), .val (.int (0 : Int32)), .val (.int (0 : Int32))] [(.int (1 : Int32))])) _
      refine XS.ifNo X0.here hx rfl (hb hby d4_17) rfl ((if0 _ _).trans (tlt (by decide : (0 : Int32) < (1 : Int32))).2.2.2) ?_
      show Steps p.tables e below (s₁.setTop (mkF m 20 #[.val (.ref a1), .val (.ref a2), .val (.int (0 : Int32)), .val (.int (0 : Int32))] [])) _
      refine XS.iconst X0.here hx rfl (hb hby d4_20) ?_
      exact kt
    have ev : own_dom [(x0, y0), (x1, y1)] (0 : Int32) = (0 : Int32) := by simp only [own_dom, h4c, if_true, if_false]; try decide
    obtain ⟨fs, hr, hrun, hended, hW, hsame⟩ := X0.leave (v := (some (.int (0 : Int32)))) (fun h => by rw [Bd.returns] at h; cases h)
    refine ⟨_, _, pre48 _ ?_, hrun, hended, _, _, rfl, ?_, ⟨_, rfl⟩, hW, hsame.mono (by decide) (by decide)⟩
    · show Steps p.tables e below (s₁.setTop (mkF m 21 #[.val (.ref a1), .val (.ref a2), .val (.int (0 : Int32)), .val (.int (0 : Int32))] [(.int (0 : Int32))])) _
      exact retN X0 hx (t := .boolean) Bd.returns (by simp) (hb hby d4_21) hr
    · show Q4m2 Z a1 a2 k1 k2 x0 x1 y0 y1 h0 n0 _ s₁.heap _
      rw [e0]
      exact ⟨by rw [ev], N0, rfl⟩
  · have pre49 : ∀ t, Steps p.tables e below (s₁.setTop (mkF m 12 #[.val (.ref a1), .val (.ref a2), .val (.int (0 : Int32)), .val (.int (0 : Int32))] [(.int (0 : Int32)), (.ref a1)])) t → Steps p.tables e below (s₁.setTop (entryFrame m #[(.ref a1), (.ref a2)] 4)) t := fun t kt => by
      refine pre3 _ ?_
      show Steps p.tables e below (s₁.setTop (mkF m 10 #[.val (.ref a1), .val (.ref a2), .val (.int (0 : Int32)), .val (.int (0 : Int32))] [])) _
      refine XS.aloadN X0.here hx rfl (hb hby d4_10) rfl rfl ?_
      show Steps p.tables e below (s₁.setTop (mkF m 11 #[.val (.ref a1), .val (.ref a2), .val (.int (0 : Int32)), .val (.int (0 : Int32))] [(.ref a1)])) _
      refine XS.iloadN X0.here hx rfl (hb hby d4_11) rfl ?_
      exact kt
    obtain ⟨cl50, Ar50, qk50, Sz50, Nn50, Hh50, Gg50⟩ := id V1
    have hin50 : ¬ ((0 : Int32) < 0 ∨ cl50.slots.size ≤ ((0 : Int32)).toNatClampNeg) := inb_of Sz50 ⟨by decide, by decide⟩
    have hat50 : cl50.slots[((0 : Int32)).toNatClampNeg]? = some (.double (FP.i2d x0)) := Hh50.at hin50 rfl
    have pre51 : ∀ t, Steps p.tables e below (s₁.setTop (mkF m 15 #[.val (.ref a1), .val (.ref a2), .val (.int (0 : Int32)), .val (.int (0 : Int32))] [(.int (0 : Int32)), (.ref a2), (.double (FP.i2d x0))])) t → Steps p.tables e below (s₁.setTop (entryFrame m #[(.ref a1), (.ref a2)] 4)) t := fun t kt => by
      refine pre49 _ ?_
      show Steps p.tables e below (s₁.setTop (mkF m 12 #[.val (.ref a1), .val (.ref a2), .val (.int (0 : Int32)), .val (.int (0 : Int32))] [(.int (0 : Int32)), (.ref a1)])) _
      refine X0.daload hx (j := (0 : Int32)) (v := (.double (FP.i2d x0))) (by rw [e0]; exact Ar50.1) (State.isArrayOf_alike hZ.alike Ar50.2.1) Ar50.2.2 hin50 hat50 (g := (mkF m 12 #[.val (.ref a1), .val (.ref a2), .val (.int (0 : Int32)), .val (.int (0 : Int32))] [(.int (0 : Int32)), (.ref a1)])) rfl rfl (hb hby d4_12) _ ?_
      show Steps p.tables e below (s₁.setTop (mkF m 13 #[.val (.ref a1), .val (.ref a2), .val (.int (0 : Int32)), .val (.int (0 : Int32))] [(.double (FP.i2d x0))])) _
      refine XS.aloadN X0.here hx rfl (hb hby d4_13) rfl rfl ?_
      show Steps p.tables e below (s₁.setTop (mkF m 14 #[.val (.ref a1), .val (.ref a2), .val (.int (0 : Int32)), .val (.int (0 : Int32))] [(.ref a2), (.double (FP.i2d x0))])) _
      refine XS.iloadN X0.here hx rfl (hb hby d4_14) rfl ?_
      exact kt
    obtain ⟨cl52, Ar52, qk52, Sz52, Nn52, Hh52, Gg52⟩ := id V2
    have hin52 : ¬ ((0 : Int32) < 0 ∨ cl52.slots.size ≤ ((0 : Int32)).toNatClampNeg) := inb_of Sz52 ⟨by decide, by decide⟩
    have hat52 : cl52.slots[((0 : Int32)).toNatClampNeg]? = some (.double (FP.i2d y0)) := Hh52.at hin52 rfl
    have pre53 : ∀ t, Steps p.tables e below (s₁.setTop (mkF m 25 #[.val (.ref a1), .val (.ref a2), .val (.int (0 : Int32)), .val (.int (0 : Int32))] [(.int (0 : Int32)), (.ref a1), (.int (0 : Int32))])) t → Steps p.tables e below (s₁.setTop (entryFrame m #[(.ref a1), (.ref a2)] 4)) t := fun t kt => by
      refine pre51 _ ?_
      show Steps p.tables e below (s₁.setTop (mkF m 15 #[.val (.ref a1), .val (.ref a2), .val (.int (0 : Int32)), .val (.int (0 : Int32))] [(.int (0 : Int32)), (.ref a2), (.double (FP.i2d x0))])) _
      refine X0.daload hx (j := (0 : Int32)) (v := (.double (FP.i2d y0))) (by rw [e0]; exact Ar52.1) (State.isArrayOf_alike hZ.alike Ar52.2.1) Ar52.2.2 hin52 hat52 (g := (mkF m 15 #[.val (.ref a1), .val (.ref a2), .val (.int (0 : Int32)), .val (.int (0 : Int32))] [(.int (0 : Int32)), (.ref a2), (.double (FP.i2d x0))])) rfl rfl (hb hby d4_15) _ ?_
      show Steps p.tables e below (s₁.setTop (mkF m 16 #[.val (.ref a1), .val (.ref a2), .val (.int (0 : Int32)), .val (.int (0 : Int32))] [(.double (FP.i2d y0)), (.double (FP.i2d x0))])) _
      refine XS.dcmpS X0.here hx rfl (hb hby d4_16) rfl (own_d0 h4d _) ?_
      show Steps p.tables e below (s₁.setTop (mkF m 17 #[.val (.ref a1), .val (.ref a2), .val (.int (0 : Int32)), .val (.int (0 : Int32))] [(.int (0 : Int32))])) _
      refine XS.ifYes X0.here hx rfl (pc0 := 17) (pc' := 22) rfl (hb hby d4_17) rfl ((if0 _ _).trans (flt (by decide : ¬ ((0 : Int32) < (0 : Int32)))).2.2.2) (by decide) (by decide) ?_
      show Steps p.tables e below (s₁.setTop (mkF m 22 #[.val (.ref a1), .val (.ref a2), .val (.int (0 : Int32)), .val (.int (0 : Int32))] [])) _
      refine XS.iloadN X0.here hx rfl (hb hby d4_22) rfl ?_
      show Steps p.tables e below (s₁.setTop (mkF m 23 #[.val (.ref a1), .val (.ref a2), .val (.int (0 : Int32)), .val (.int (0 : Int32))] [(.int (0 : Int32))])) _
      refine XS.aloadN X0.here hx rfl (hb hby d4_23) rfl rfl ?_
      show Steps p.tables e below (s₁.setTop (mkF m 24 #[.val (.ref a1), .val (.ref a2), .val (.int (0 : Int32)), .val (.int (0 : Int32))] [(.ref a1), (.int (0 : Int32))])) _
      refine XS.iloadN X0.here hx rfl (hb hby d4_24) rfl ?_
      exact kt
    obtain ⟨cl54, Ar54, qk54, Sz54, Nn54, Hh54, Gg54⟩ := id V1
    have hin54 : ¬ ((0 : Int32) < 0 ∨ cl54.slots.size ≤ ((0 : Int32)).toNatClampNeg) := inb_of Sz54 ⟨by decide, by decide⟩
    have hat54 : cl54.slots[((0 : Int32)).toNatClampNeg]? = some (.double (FP.i2d x0)) := Hh54.at hin54 rfl
    have pre55 : ∀ t, Steps p.tables e below (s₁.setTop (mkF m 28 #[.val (.ref a1), .val (.ref a2), .val (.int (0 : Int32)), .val (.int (0 : Int32))] [(.int (0 : Int32)), (.ref a2), (.double (FP.i2d x0)), (.int (0 : Int32))])) t → Steps p.tables e below (s₁.setTop (entryFrame m #[(.ref a1), (.ref a2)] 4)) t := fun t kt => by
      refine pre53 _ ?_
      show Steps p.tables e below (s₁.setTop (mkF m 25 #[.val (.ref a1), .val (.ref a2), .val (.int (0 : Int32)), .val (.int (0 : Int32))] [(.int (0 : Int32)), (.ref a1), (.int (0 : Int32))])) _
      refine X0.daload hx (j := (0 : Int32)) (v := (.double (FP.i2d x0))) (by rw [e0]; exact Ar54.1) (State.isArrayOf_alike hZ.alike Ar54.2.1) Ar54.2.2 hin54 hat54 (g := (mkF m 25 #[.val (.ref a1), .val (.ref a2), .val (.int (0 : Int32)), .val (.int (0 : Int32))] [(.int (0 : Int32)), (.ref a1), (.int (0 : Int32))])) rfl rfl (hb hby d4_25) _ ?_
      show Steps p.tables e below (s₁.setTop (mkF m 26 #[.val (.ref a1), .val (.ref a2), .val (.int (0 : Int32)), .val (.int (0 : Int32))] [(.double (FP.i2d x0)), (.int (0 : Int32))])) _
      refine XS.aloadN X0.here hx rfl (hb hby d4_26) rfl rfl ?_
      show Steps p.tables e below (s₁.setTop (mkF m 27 #[.val (.ref a1), .val (.ref a2), .val (.int (0 : Int32)), .val (.int (0 : Int32))] [(.ref a2), (.double (FP.i2d x0)), (.int (0 : Int32))])) _
      refine XS.iloadN X0.here hx rfl (hb hby d4_27) rfl ?_
      exact kt
    obtain ⟨cl56, Ar56, qk56, Sz56, Nn56, Hh56, Gg56⟩ := id V2
    have hin56 : ¬ ((0 : Int32) < 0 ∨ cl56.slots.size ≤ ((0 : Int32)).toNatClampNeg) := inb_of Sz56 ⟨by decide, by decide⟩
    have hat56 : cl56.slots[((0 : Int32)).toNatClampNeg]? = some (.double (FP.i2d y0)) := Hh56.at hin56 rfl
    have pre57 : ∀ t, Steps p.tables e below (s₁.setTop (mkF m 6 #[.val (.ref a1), .val (.ref a2), .val (.int (0 : Int32)), .val (.int (1 : Int32))] [(.ref a1), (.int (1 : Int32))])) t → Steps p.tables e below (s₁.setTop (entryFrame m #[(.ref a1), (.ref a2)] 4)) t := fun t kt => by
      refine pre55 _ ?_
      show Steps p.tables e below (s₁.setTop (mkF m 28 #[.val (.ref a1), .val (.ref a2), .val (.int (0 : Int32)), .val (.int (0 : Int32))] [(.int (0 : Int32)), (.ref a2), (.double (FP.i2d x0)), (.int (0 : Int32))])) _
      refine X0.daload hx (j := (0 : Int32)) (v := (.double (FP.i2d y0))) (by rw [e0]; exact Ar56.1) (State.isArrayOf_alike hZ.alike Ar56.2.1) Ar56.2.2 hin56 hat56 (g := (mkF m 28 #[.val (.ref a1), .val (.ref a2), .val (.int (0 : Int32)), .val (.int (0 : Int32))] [(.int (0 : Int32)), (.ref a2), (.double (FP.i2d x0)), (.int (0 : Int32))])) rfl rfl (hb hby d4_28) _ ?_
      show Steps p.tables e below (s₁.setTop (mkF m 29 #[.val (.ref a1), .val (.ref a2), .val (.int (0 : Int32)), .val (.int (0 : Int32))] [(.double (FP.i2d y0)), (.double (FP.i2d x0)), (.int (0 : Int32))])) _
      refine XS.dcmpS X0.here hx rfl (hb hby d4_29) rfl (own_d0 h4d _) ?_
      show Steps p.tables e below (s₁.setTop (mkF m 30 #[.val (.ref a1), .val (.ref a2), .val (.int (0 : Int32)), .val (.int (0 : Int32))] [(.int (0 : Int32)), (.int (0 : Int32))])) _
      refine XS.ifYes X0.here hx rfl (pc0 := 30) (pc' := 37) rfl (hb hby d4_30) rfl ((if0 _ _).trans (flt (by decide : ¬ ((0 : Int32) < (0 : Int32)))).2.1) (by decide) (by decide) ?_
      show Steps p.tables e below (s₁.setTop (mkF m 37 #[.val (.ref a1), .val (.ref a2), .val (.int (0 : Int32)), .val (.int (0 : Int32))] [(.int (0 : Int32))])) _
      refine XS.iconst X0.here hx rfl (hb hby d4_37) ?_
      show Steps p.tables e below (s₁.setTop (mkF m 38 #[.val (.ref a1), .val (.ref a2), .val (.int (0 : Int32)), .val (.int (0 : Int32))] [(.int (0 : Int32)), (.int (0 : Int32))])) _
      refine XS.ior X0.here hx rfl (hb hby d4_38) rfl ?_
      show Steps p.tables e below (s₁.setTop (mkF m 39 #[.val (.ref a1), .val (.ref a2), .val (.int (0 : Int32)), .val (.int (0 : Int32))] [(.int ((0 : Int32) ||| (0 : Int32)))])) _
      show Steps p.tables e below (s₁.setTop (mkF m 39 #[.val (.ref a1), .val (.ref a2), .val (.int (0 : Int32)), .val (.int (0 : Int32))] [(.int (0 : Int32))])) _
      refine XS.istoreN X0.here hx rfl (hb hby d4_39) rfl (l' := #[.val (.ref a1), .val (.ref a2), .val (.int (0 : Int32)), .val (.int (0 : Int32))]) rfl ?_
      show Steps p.tables e below (s₁.setTop (mkF m 40 #[.val (.ref a1), .val (.ref a2), .val (.int (0 : Int32)), .val (.int (0 : Int32))] [])) _
      refine XS.iinc X0.here hx rfl (hb hby d4_40) rfl (l' := #[.val (.ref a1), .val (.ref a2), .val (.int (0 : Int32)), .val (.int ((0 : Int32) + (1 : Int32)))]) rfl ?_
      show Steps p.tables e below (s₁.setTop (mkF m 43 #[.val (.ref a1), .val (.ref a2), .val (.int (0 : Int32)), .val (.int ((0 : Int32) + (1 : Int32)))] [])) _
      show Steps p.tables e below (s₁.setTop (mkF m 43 #[.val (.ref a1), .val (.ref a2), .val (.int (0 : Int32)), .val (.int (1 : Int32))] [])) _
      refine XS.goto X0.here hx rfl (pc0 := 43) (pc' := 4) rfl (hb hby d4_43) (by decide) (by decide) ?_
      show Steps p.tables e below (s₁.setTop (mkF m 4 #[.val (.ref a1), .val (.ref a2), .val (.int (0 : Int32)), .val (.int (1 : Int32))] [])) _
      refine XS.iloadN X0.here hx rfl (hb hby d4_4) rfl ?_
      show Steps p.tables e below (s₁.setTop (mkF m 5 #[.val (.ref a1), .val (.ref a2), .val (.int (0 : Int32)), .val (.int (1 : Int32))] [(.int (1 : Int32))])) _
      refine XS.aloadN X0.here hx rfl (hb hby d4_5) rfl rfl ?_
      exact kt
    obtain ⟨cl58, Ar58, qk58, Sz58, Nn58, Hh58, Gg58⟩ := id V1
    have pre59 : ∀ t, Steps p.tables e below (s₁.setTop (mkF m 10 #[.val (.ref a1), .val (.ref a2), .val (.int (0 : Int32)), .val (.int (1 : Int32))] [])) t → Steps p.tables e below (s₁.setTop (entryFrame m #[(.ref a1), (.ref a2)] 4)) t := fun t kt => by
      refine pre57 _ ?_
      show Steps p.tables e below (s₁.setTop (mkF m 6 #[.val (.ref a1), .val (.ref a2), .val (.int (0 : Int32)), .val (.int (1 : Int32))] [(.ref a1), (.int (1 : Int32))])) _
      refine X0.arraylength hx (by rw [e0]; exact Ar58.1) (State.isArrayOf_alike hZ.alike Ar58.2.1) (g := (mkF m 6 #[.val (.ref a1), .val (.ref a2), .val (.int (0 : Int32)), .val (.int (1 : Int32))] [(.ref a1), (.int (1 : Int32))])) rfl rfl (hb hby d4_6) _ ?_
      rw [len_of Sz58 Nn58]
      show Steps p.tables e below (s₁.setTop (mkF m 7 #[.val (.ref a1), .val (.ref a2), .val (.int (0 : Int32)), .val (.int (1 : Int32))] [(.int (2 : Int32)), (.int (1 : Int32))])) _
      refine XS.icmpNo X0.here hx rfl (hb hby d4_7) rfl (tlt (by decide : (1 : Int32) < (2 : Int32))).2.1 ?_
      exact kt
    rcases own_tri x1 y1 with ⟨h60a, h60b⟩ | h60c | ⟨h60d, h60e, h60f⟩
    · have pre61 : ∀ t, Steps p.tables e below (s₁.setTop (mkF m 12 #[.val (.ref a1), .val (.ref a2), .val (.int (0 : Int32)), .val (.int (1 : Int32))] [(.int (1 : Int32)), (.ref a1)])) t → Steps p.tables e below (s₁.setTop (entryFrame m #[(.ref a1), (.ref a2)] 4)) t := fun t kt => by
        refine pre59 _ ?_
        show Steps p.tables e below (s₁.setTop (mkF m 10 #[.val (.ref a1), .val (.ref a2), .val (.int (0 : Int32)), .val (.int (1 : Int32))] [])) _
        refine XS.aloadN X0.here hx rfl (hb hby d4_10) rfl rfl ?_
        show Steps p.tables e below (s₁.setTop (mkF m 11 #[.val (.ref a1), .val (.ref a2), .val (.int (0 : Int32)), .val (.int (1 : Int32))] [(.ref a1)])) _
        refine XS.iloadN X0.here hx rfl (hb hby d4_11) rfl ?_
        exact kt
      obtain ⟨cl62, Ar62, qk62, Sz62, Nn62, Hh62, Gg62⟩ := id V1
      have hin62 : ¬ ((1 : Int32) < 0 ∨ cl62.slots.size ≤ ((1 : Int32)).toNatClampNeg) := inb_of Sz62 ⟨by decide, by decide⟩
      have hat62 : cl62.slots[((1 : Int32)).toNatClampNeg]? = some (.double (FP.i2d x1)) := Hh62.at hin62 rfl
      have pre63 : ∀ t, Steps p.tables e below (s₁.setTop (mkF m 15 #[.val (.ref a1), .val (.ref a2), .val (.int (0 : Int32)), .val (.int (1 : Int32))] [(.int (1 : Int32)), (.ref a2), (.double (FP.i2d x1))])) t → Steps p.tables e below (s₁.setTop (entryFrame m #[(.ref a1), (.ref a2)] 4)) t := fun t kt => by
        refine pre61 _ ?_
        show Steps p.tables e below (s₁.setTop (mkF m 12 #[.val (.ref a1), .val (.ref a2), .val (.int (0 : Int32)), .val (.int (1 : Int32))] [(.int (1 : Int32)), (.ref a1)])) _
        refine X0.daload hx (j := (1 : Int32)) (v := (.double (FP.i2d x1))) (by rw [e0]; exact Ar62.1) (State.isArrayOf_alike hZ.alike Ar62.2.1) Ar62.2.2 hin62 hat62 (g := (mkF m 12 #[.val (.ref a1), .val (.ref a2), .val (.int (0 : Int32)), .val (.int (1 : Int32))] [(.int (1 : Int32)), (.ref a1)])) rfl rfl (hb hby d4_12) _ ?_
        show Steps p.tables e below (s₁.setTop (mkF m 13 #[.val (.ref a1), .val (.ref a2), .val (.int (0 : Int32)), .val (.int (1 : Int32))] [(.double (FP.i2d x1))])) _
        refine XS.aloadN X0.here hx rfl (hb hby d4_13) rfl rfl ?_
        show Steps p.tables e below (s₁.setTop (mkF m 14 #[.val (.ref a1), .val (.ref a2), .val (.int (0 : Int32)), .val (.int (1 : Int32))] [(.ref a2), (.double (FP.i2d x1))])) _
        refine XS.iloadN X0.here hx rfl (hb hby d4_14) rfl ?_
        exact kt
      obtain ⟨cl64, Ar64, qk64, Sz64, Nn64, Hh64, Gg64⟩ := id V2
      have hin64 : ¬ ((1 : Int32) < 0 ∨ cl64.slots.size ≤ ((1 : Int32)).toNatClampNeg) := inb_of Sz64 ⟨by decide, by decide⟩
      have hat64 : cl64.slots[((1 : Int32)).toNatClampNeg]? = some (.double (FP.i2d y1)) := Hh64.at hin64 rfl
      have pre65 : ∀ t, Steps p.tables e below (s₁.setTop (mkF m 25 #[.val (.ref a1), .val (.ref a2), .val (.int (0 : Int32)), .val (.int (1 : Int32))] [(.int (1 : Int32)), (.ref a1), (.int (0 : Int32))])) t → Steps p.tables e below (s₁.setTop (entryFrame m #[(.ref a1), (.ref a2)] 4)) t := fun t kt => by
        refine pre63 _ ?_
        show Steps p.tables e below (s₁.setTop (mkF m 15 #[.val (.ref a1), .val (.ref a2), .val (.int (0 : Int32)), .val (.int (1 : Int32))] [(.int (1 : Int32)), (.ref a2), (.double (FP.i2d x1))])) _
        refine X0.daload hx (j := (1 : Int32)) (v := (.double (FP.i2d y1))) (by rw [e0]; exact Ar64.1) (State.isArrayOf_alike hZ.alike Ar64.2.1) Ar64.2.2 hin64 hat64 (g := (mkF m 15 #[.val (.ref a1), .val (.ref a2), .val (.int (0 : Int32)), .val (.int (1 : Int32))] [(.int (1 : Int32)), (.ref a2), (.double (FP.i2d x1))])) rfl rfl (hb hby d4_15) _ ?_
        show Steps p.tables e below (s₁.setTop (mkF m 16 #[.val (.ref a1), .val (.ref a2), .val (.int (0 : Int32)), .val (.int (1 : Int32))] [(.double (FP.i2d y1)), (.double (FP.i2d x1))])) _
        refine XS.dcmpS X0.here hx rfl (hb hby d4_16) rfl (own_d1 h60a _) ?_
        show Steps p.tables e below (s₁.setTop (mkF m 17 #[.val (.ref a1), .val (.ref a2), .val (.int (0 : Int32)), .val (.int (1 : Int32))] [(.int (-1 : Int32))])) _
        refine XS.ifYes X0.here hx rfl (pc0 := 17) (pc' := 22) rfl (hb hby d4_17) rfl ((if0 _ _).trans (flt (by decide : ¬ ((0 : Int32) < (-1 : Int32)))).2.2.2) (by decide) (by decide) ?_
        show Steps p.tables e below (s₁.setTop (mkF m 22 #[.val (.ref a1), .val (.ref a2), .val (.int (0 : Int32)), .val (.int (1 : Int32))] [])) _
        refine XS.iloadN X0.here hx rfl (hb hby d4_22) rfl ?_
        show Steps p.tables e below (s₁.setTop (mkF m 23 #[.val (.ref a1), .val (.ref a2), .val (.int (0 : Int32)), .val (.int (1 : Int32))] [(.int (0 : Int32))])) _
        refine XS.aloadN X0.here hx rfl (hb hby d4_23) rfl rfl ?_
        show Steps p.tables e below (s₁.setTop (mkF m 24 #[.val (.ref a1), .val (.ref a2), .val (.int (0 : Int32)), .val (.int (1 : Int32))] [(.ref a1), (.int (0 : Int32))])) _
        refine XS.iloadN X0.here hx rfl (hb hby d4_24) rfl ?_
        exact kt
      obtain ⟨cl66, Ar66, qk66, Sz66, Nn66, Hh66, Gg66⟩ := id V1
      have hin66 : ¬ ((1 : Int32) < 0 ∨ cl66.slots.size ≤ ((1 : Int32)).toNatClampNeg) := inb_of Sz66 ⟨by decide, by decide⟩
      have hat66 : cl66.slots[((1 : Int32)).toNatClampNeg]? = some (.double (FP.i2d x1)) := Hh66.at hin66 rfl
      have pre67 : ∀ t, Steps p.tables e below (s₁.setTop (mkF m 28 #[.val (.ref a1), .val (.ref a2), .val (.int (0 : Int32)), .val (.int (1 : Int32))] [(.int (1 : Int32)), (.ref a2), (.double (FP.i2d x1)), (.int (0 : Int32))])) t → Steps p.tables e below (s₁.setTop (entryFrame m #[(.ref a1), (.ref a2)] 4)) t := fun t kt => by
        refine pre65 _ ?_
        show Steps p.tables e below (s₁.setTop (mkF m 25 #[.val (.ref a1), .val (.ref a2), .val (.int (0 : Int32)), .val (.int (1 : Int32))] [(.int (1 : Int32)), (.ref a1), (.int (0 : Int32))])) _
        refine X0.daload hx (j := (1 : Int32)) (v := (.double (FP.i2d x1))) (by rw [e0]; exact Ar66.1) (State.isArrayOf_alike hZ.alike Ar66.2.1) Ar66.2.2 hin66 hat66 (g := (mkF m 25 #[.val (.ref a1), .val (.ref a2), .val (.int (0 : Int32)), .val (.int (1 : Int32))] [(.int (1 : Int32)), (.ref a1), (.int (0 : Int32))])) rfl rfl (hb hby d4_25) _ ?_
        show Steps p.tables e below (s₁.setTop (mkF m 26 #[.val (.ref a1), .val (.ref a2), .val (.int (0 : Int32)), .val (.int (1 : Int32))] [(.double (FP.i2d x1)), (.int (0 : Int32))])) _
        refine XS.aloadN X0.here hx rfl (hb hby d4_26) rfl rfl ?_
        show Steps p.tables e below (s₁.setTop (mkF m 27 #[.val (.ref a1), .val (.ref a2), .val (.int (0 : Int32)), .val (.int (1 : Int32))] [(.ref a2), (.double (FP.i2d x1)), (.int (0 : Int32))])) _
        refine XS.iloadN X0.here hx rfl (hb hby d4_27) rfl ?_
        exact kt
      obtain ⟨cl68, Ar68, qk68, Sz68, Nn68, Hh68, Gg68⟩ := id V2
      have hin68 : ¬ ((1 : Int32) < 0 ∨ cl68.slots.size ≤ ((1 : Int32)).toNatClampNeg) := inb_of Sz68 ⟨by decide, by decide⟩
      have hat68 : cl68.slots[((1 : Int32)).toNatClampNeg]? = some (.double (FP.i2d y1)) := Hh68.at hin68 rfl
      have pre69 : ∀ t, Steps p.tables e below (s₁.setTop (mkF m 6 #[.val (.ref a1), .val (.ref a2), .val (.int (1 : Int32)), .val (.int (2 : Int32))] [(.ref a1), (.int (2 : Int32))])) t → Steps p.tables e below (s₁.setTop (entryFrame m #[(.ref a1), (.ref a2)] 4)) t := fun t kt => by
        refine pre67 _ ?_
        show Steps p.tables e below (s₁.setTop (mkF m 28 #[.val (.ref a1), .val (.ref a2), .val (.int (0 : Int32)), .val (.int (1 : Int32))] [(.int (1 : Int32)), (.ref a2), (.double (FP.i2d x1)), (.int (0 : Int32))])) _
        refine X0.daload hx (j := (1 : Int32)) (v := (.double (FP.i2d y1))) (by rw [e0]; exact Ar68.1) (State.isArrayOf_alike hZ.alike Ar68.2.1) Ar68.2.2 hin68 hat68 (g := (mkF m 28 #[.val (.ref a1), .val (.ref a2), .val (.int (0 : Int32)), .val (.int (1 : Int32))] [(.int (1 : Int32)), (.ref a2), (.double (FP.i2d x1)), (.int (0 : Int32))])) rfl rfl (hb hby d4_28) _ ?_
        show Steps p.tables e below (s₁.setTop (mkF m 29 #[.val (.ref a1), .val (.ref a2), .val (.int (0 : Int32)), .val (.int (1 : Int32))] [(.double (FP.i2d y1)), (.double (FP.i2d x1)), (.int (0 : Int32))])) _
        refine XS.dcmpS X0.here hx rfl (hb hby d4_29) rfl (own_d1 h60a _) ?_
        show Steps p.tables e below (s₁.setTop (mkF m 30 #[.val (.ref a1), .val (.ref a2), .val (.int (0 : Int32)), .val (.int (1 : Int32))] [(.int (-1 : Int32)), (.int (0 : Int32))])) _
        refine XS.ifNo X0.here hx rfl (hb hby d4_30) rfl ((if0 _ _).trans (tlt (by decide : (-1 : Int32) < (0 : Int32))).2.1) ?_
        show Steps p.tables e below (s₁.setTop (mkF m 33 #[.val (.ref a1), .val (.ref a2), .val (.int (0 : Int32)), .val (.int (1 : Int32))] [(.int (0 : Int32))])) _
        refine XS.iconst X0.here hx rfl (hb hby d4_33) ?_
        show Steps p.tables e below (s₁.setTop (mkF m 34 #[.val (.ref a1), .val (.ref a2), .val (.int (0 : Int32)), .val (.int (1 : Int32))] [(.int (1 : Int32)), (.int (0 : Int32))])) _
        refine XS.goto X0.here hx rfl (pc0 := 34) (pc' := 38) rfl (hb hby d4_34) (by decide) (by decide) ?_
        show Steps p.tables e below (s₁.setTop (mkF m 38 #[.val (.ref a1), .val (.ref a2), .val (.int (0 : Int32)), .val (.int (1 : Int32))] [(.int (1 : Int32)), (.int (0 : Int32))])) _
        refine XS.ior X0.here hx rfl (hb hby d4_38) rfl ?_
        show Steps p.tables e below (s₁.setTop (mkF m 39 #[.val (.ref a1), .val (.ref a2), .val (.int (0 : Int32)), .val (.int (1 : Int32))] [(.int ((0 : Int32) ||| (1 : Int32)))])) _
        show Steps p.tables e below (s₁.setTop (mkF m 39 #[.val (.ref a1), .val (.ref a2), .val (.int (0 : Int32)), .val (.int (1 : Int32))] [(.int (1 : Int32))])) _
        refine XS.istoreN X0.here hx rfl (hb hby d4_39) rfl (l' := #[.val (.ref a1), .val (.ref a2), .val (.int (1 : Int32)), .val (.int (1 : Int32))]) rfl ?_
        show Steps p.tables e below (s₁.setTop (mkF m 40 #[.val (.ref a1), .val (.ref a2), .val (.int (1 : Int32)), .val (.int (1 : Int32))] [])) _
        refine XS.iinc X0.here hx rfl (hb hby d4_40) rfl (l' := #[.val (.ref a1), .val (.ref a2), .val (.int (1 : Int32)), .val (.int ((1 : Int32) + (1 : Int32)))]) rfl ?_
        show Steps p.tables e below (s₁.setTop (mkF m 43 #[.val (.ref a1), .val (.ref a2), .val (.int (1 : Int32)), .val (.int ((1 : Int32) + (1 : Int32)))] [])) _
        show Steps p.tables e below (s₁.setTop (mkF m 43 #[.val (.ref a1), .val (.ref a2), .val (.int (1 : Int32)), .val (.int (2 : Int32))] [])) _
        refine XS.goto X0.here hx rfl (pc0 := 43) (pc' := 4) rfl (hb hby d4_43) (by decide) (by decide) ?_
        show Steps p.tables e below (s₁.setTop (mkF m 4 #[.val (.ref a1), .val (.ref a2), .val (.int (1 : Int32)), .val (.int (2 : Int32))] [])) _
        refine XS.iloadN X0.here hx rfl (hb hby d4_4) rfl ?_
        show Steps p.tables e below (s₁.setTop (mkF m 5 #[.val (.ref a1), .val (.ref a2), .val (.int (1 : Int32)), .val (.int (2 : Int32))] [(.int (2 : Int32))])) _
        refine XS.aloadN X0.here hx rfl (hb hby d4_5) rfl rfl ?_
        exact kt
      obtain ⟨cl70, Ar70, qk70, Sz70, Nn70, Hh70, Gg70⟩ := id V1
      have pre71 : ∀ t, Steps p.tables e below (s₁.setTop (mkF m 47 #[.val (.ref a1), .val (.ref a2), .val (.int (1 : Int32)), .val (.int (2 : Int32))] [(.int (1 : Int32))])) t → Steps p.tables e below (s₁.setTop (entryFrame m #[(.ref a1), (.ref a2)] 4)) t := fun t kt => by
        refine pre69 _ ?_
        show Steps p.tables e below (s₁.setTop (mkF m 6 #[.val (.ref a1), .val (.ref a2), .val (.int (1 : Int32)), .val (.int (2 : Int32))] [(.ref a1), (.int (2 : Int32))])) _
        refine X0.arraylength hx (by rw [e0]; exact Ar70.1) (State.isArrayOf_alike hZ.alike Ar70.2.1) (g := (mkF m 6 #[.val (.ref a1), .val (.ref a2), .val (.int (1 : Int32)), .val (.int (2 : Int32))] [(.ref a1), (.int (2 : Int32))])) rfl rfl (hb hby d4_6) _ ?_
        rw [len_of Sz70 Nn70]
        show Steps p.tables e below (s₁.setTop (mkF m 7 #[.val (.ref a1), .val (.ref a2), .val (.int (1 : Int32)), .val (.int (2 : Int32))] [(.int (2 : Int32)), (.int (2 : Int32))])) _
        refine XS.icmpYes X0.here hx rfl (pc0 := 7) (pc' := 46) rfl (hb hby d4_7) rfl (flt (by decide : ¬ ((2 : Int32) < (2 : Int32)))).2.1 (by decide) (by decide) ?_
        show Steps p.tables e below (s₁.setTop (mkF m 46 #[.val (.ref a1), .val (.ref a2), .val (.int (1 : Int32)), .val (.int (2 : Int32))] [])) _
        refine XS.iloadN X0.here hx rfl (hb hby d4_46) rfl ?_
        exact kt
      have ev : own_dom [(x0, y0), (x1, y1)] (0 : Int32) = (1 : Int32) := by simp only [own_dom, h4e, h4f, h60a, h60b, if_true, if_false]; try decide
      obtain ⟨fs, hr, hrun, hended, hW, hsame⟩ := X0.leave (v := (some (.int (1 : Int32)))) (fun h => by rw [Bd.returns] at h; cases h)
      refine ⟨_, _, pre71 _ ?_, hrun, hended, _, _, rfl, ?_, ⟨_, rfl⟩, hW, hsame.mono (by decide) (by decide)⟩
      · show Steps p.tables e below (s₁.setTop (mkF m 47 #[.val (.ref a1), .val (.ref a2), .val (.int (1 : Int32)), .val (.int (2 : Int32))] [(.int (1 : Int32))])) _
        exact retN X0 hx (t := .boolean) Bd.returns (by simp) (hb hby d4_47) hr
      · show Q4m2 Z a1 a2 k1 k2 x0 x1 y0 y1 h0 n0 _ s₁.heap _
        rw [e0]
        exact ⟨by rw [ev], N0, rfl⟩
    · have pre72 : ∀ t, Steps p.tables e below (s₁.setTop (mkF m 12 #[.val (.ref a1), .val (.ref a2), .val (.int (0 : Int32)), .val (.int (1 : Int32))] [(.int (1 : Int32)), (.ref a1)])) t → Steps p.tables e below (s₁.setTop (entryFrame m #[(.ref a1), (.ref a2)] 4)) t := fun t kt => by
        refine pre59 _ ?_
        show Steps p.tables e below (s₁.setTop (mkF m 10 #[.val (.ref a1), .val (.ref a2), .val (.int (0 : Int32)), .val (.int (1 : Int32))] [])) _
        refine XS.aloadN X0.here hx rfl (hb hby d4_10) rfl rfl ?_
        show Steps p.tables e below (s₁.setTop (mkF m 11 #[.val (.ref a1), .val (.ref a2), .val (.int (0 : Int32)), .val (.int (1 : Int32))] [(.ref a1)])) _
        refine XS.iloadN X0.here hx rfl (hb hby d4_11) rfl ?_
        exact kt
      obtain ⟨cl73, Ar73, qk73, Sz73, Nn73, Hh73, Gg73⟩ := id V1
      have hin73 : ¬ ((1 : Int32) < 0 ∨ cl73.slots.size ≤ ((1 : Int32)).toNatClampNeg) := inb_of Sz73 ⟨by decide, by decide⟩
      have hat73 : cl73.slots[((1 : Int32)).toNatClampNeg]? = some (.double (FP.i2d x1)) := Hh73.at hin73 rfl
      have pre74 : ∀ t, Steps p.tables e below (s₁.setTop (mkF m 15 #[.val (.ref a1), .val (.ref a2), .val (.int (0 : Int32)), .val (.int (1 : Int32))] [(.int (1 : Int32)), (.ref a2), (.double (FP.i2d x1))])) t → Steps p.tables e below (s₁.setTop (entryFrame m #[(.ref a1), (.ref a2)] 4)) t := fun t kt => by
        refine pre72 _ ?_
        show Steps p.tables e below (s₁.setTop (mkF m 12 #[.val (.ref a1), .val (.ref a2), .val (.int (0 : Int32)), .val (.int (1 : Int32))] [(.int (1 : Int32)), (.ref a1)])) _
        refine X0.daload hx (j := (1 : Int32)) (v := (.double (FP.i2d x1))) (by rw [e0]; exact Ar73.1) (State.isArrayOf_alike hZ.alike Ar73.2.1) Ar73.2.2 hin73 hat73 (g := (mkF m 12 #[.val (.ref a1), .val (.ref a2), .val (.int (0 : Int32)), .val (.int (1 : Int32))] [(.int (1 : Int32)), (.ref a1)])) rfl rfl (hb hby d4_12) _ ?_
        show Steps p.tables e below (s₁.setTop (mkF m 13 #[.val (.ref a1), .val (.ref a2), .val (.int (0 : Int32)), .val (.int (1 : Int32))] [(.double (FP.i2d x1))])) _
        refine XS.aloadN X0.here hx rfl (hb hby d4_13) rfl rfl ?_
        show Steps p.tables e below (s₁.setTop (mkF m 14 #[.val (.ref a1), .val (.ref a2), .val (.int (0 : Int32)), .val (.int (1 : Int32))] [(.ref a2), (.double (FP.i2d x1))])) _
        refine XS.iloadN X0.here hx rfl (hb hby d4_14) rfl ?_
        exact kt
      obtain ⟨cl75, Ar75, qk75, Sz75, Nn75, Hh75, Gg75⟩ := id V2
      have hin75 : ¬ ((1 : Int32) < 0 ∨ cl75.slots.size ≤ ((1 : Int32)).toNatClampNeg) := inb_of Sz75 ⟨by decide, by decide⟩
      have hat75 : cl75.slots[((1 : Int32)).toNatClampNeg]? = some (.double (FP.i2d y1)) := Hh75.at hin75 rfl
      have pre76 : ∀ t, Steps p.tables e below (s₁.setTop (mkF m 21 #[.val (.ref a1), .val (.ref a2), .val (.int (0 : Int32)), .val (.int (1 : Int32))] [(.int (0 : Int32))])) t → Steps p.tables e below (s₁.setTop (entryFrame m #[(.ref a1), (.ref a2)] 4)) t := fun t kt => by
        refine pre74 _ ?_
        show Steps p.tables e below (s₁.setTop (mkF m 15 #[.val (.ref a1), .val (.ref a2), .val (.int (0 : Int32)), .val (.int (1 : Int32))] [(.int (1 : Int32)), (.ref a2), (.double (FP.i2d x1))])) _
        refine X0.daload hx (j := (1 : Int32)) (v := (.double (FP.i2d y1))) (by rw [e0]; exact Ar75.1) (State.isArrayOf_alike hZ.alike Ar75.2.1) Ar75.2.2 hin75 hat75 (g := (mkF m 15 #[.val (.ref a1), .val (.ref a2), .val (.int (0 : Int32)), .val (.int (1 : Int32))] [(.int (1 : Int32)), (.ref a2), (.double (FP.i2d x1))])) rfl rfl (hb hby d4_15) _ ?_
        show Steps p.tables e below (s₁.setTop (mkF m 16 #[.val (.ref a1), .val (.ref a2), .val (.int (0 : Int32)), .val (.int (1 : Int32))] [(.double (FP.i2d y1)), (.double (FP.i2d x1))])) _
        refine XS.dcmpS X0.here hx rfl (hb hby d4_16) rfl (own_d2 h60c _) ?_
        show Steps p.tables e below (s₁.setTop (mkF m 17 #[.val (.ref a1), .val (.ref a2), .val (.int (0 : Int32)), .val (.int (1 : Int32))] [(.int (1 : Int32))])) _
        refine XS.ifNo X0.here hx rfl (hb hby d4_17) rfl ((if0 _ _).trans (tlt (by decide : (0 : Int32) < (1 : Int32))).2.2.2) ?_
        show Steps p.tables e below (s₁.setTop (mkF m 20 #[.val (.ref a1), .val (.ref a2), .val (.int (0 : Int32)), .val (.int (1 : Int32))] [])) _
        refine XS.iconst X0.here hx rfl (hb hby d4_20) ?_
        exact kt
      have ev : own_dom [(x0, y0), (x1, y1)] (0 : Int32) = (0 : Int32) := by simp only [own_dom, h4e, h4f, h60c, if_true, if_false]; try decide
      obtain ⟨fs, hr, hrun, hended, hW, hsame⟩ := X0.leave (v := (some (.int (0 : Int32)))) (fun h => by rw [Bd.returns] at h; cases h)
      refine ⟨_, _, pre76 _ ?_, hrun, hended, _, _, rfl, ?_, ⟨_, rfl⟩, hW, hsame.mono (by decide) (by decide)⟩
      · show Steps p.tables e below (s₁.setTop (mkF m 21 #[.val (.ref a1), .val (.ref a2), .val (.int (0 : Int32)), .val (.int (1 : Int32))] [(.int (0 : Int32))])) _
        exact retN X0 hx (t := .boolean) Bd.returns (by simp) (hb hby d4_21) hr
      · show Q4m2 Z a1 a2 k1 k2 x0 x1 y0 y1 h0 n0 _ s₁.heap _
        rw [e0]
        exact ⟨by rw [ev], N0, rfl⟩
    · have pre77 : ∀ t, Steps p.tables e below (s₁.setTop (mkF m 12 #[.val (.ref a1), .val (.ref a2), .val (.int (0 : Int32)), .val (.int (1 : Int32))] [(.int (1 : Int32)), (.ref a1)])) t → Steps p.tables e below (s₁.setTop (entryFrame m #[(.ref a1), (.ref a2)] 4)) t := fun t kt => by
        refine pre59 _ ?_
        show Steps p.tables e below (s₁.setTop (mkF m 10 #[.val (.ref a1), .val (.ref a2), .val (.int (0 : Int32)), .val (.int (1 : Int32))] [])) _
        refine XS.aloadN X0.here hx rfl (hb hby d4_10) rfl rfl ?_
        show Steps p.tables e below (s₁.setTop (mkF m 11 #[.val (.ref a1), .val (.ref a2), .val (.int (0 : Int32)), .val (.int (1 : Int32))] [(.ref a1)])) _
        refine XS.iloadN X0.here hx rfl (hb hby d4_11) rfl ?_
        exact kt
      obtain ⟨cl78, Ar78, qk78, Sz78, Nn78, Hh78, Gg78⟩ := id V1
      have hin78 : ¬ ((1 : Int32) < 0 ∨ cl78.slots.size ≤ ((1 : Int32)).toNatClampNeg) := inb_of Sz78 ⟨by decide, by decide⟩
      have hat78 : cl78.slots[((1 : Int32)).toNatClampNeg]? = some (.double (FP.i2d x1)) := Hh78.at hin78 rfl
      have pre79 : ∀ t, Steps p.tables e below (s₁.setTop (mkF m 15 #[.val (.ref a1), .val (.ref a2), .val (.int (0 : Int32)), .val (.int (1 : Int32))] [(.int (1 : Int32)), (.ref a2), (.double (FP.i2d x1))])) t → Steps p.tables e below (s₁.setTop (entryFrame m #[(.ref a1), (.ref a2)] 4)) t := fun t kt => by
        refine pre77 _ ?_
        show Steps p.tables e below (s₁.setTop (mkF m 12 #[.val (.ref a1), .val (.ref a2), .val (.int (0 : Int32)), .val (.int (1 : Int32))] [(.int (1 : Int32)), (.ref a1)])) _
        refine X0.daload hx (j := (1 : Int32)) (v := (.double (FP.i2d x1))) (by rw [e0]; exact Ar78.1) (State.isArrayOf_alike hZ.alike Ar78.2.1) Ar78.2.2 hin78 hat78 (g := (mkF m 12 #[.val (.ref a1), .val (.ref a2), .val (.int (0 : Int32)), .val (.int (1 : Int32))] [(.int (1 : Int32)), (.ref a1)])) rfl rfl (hb hby d4_12) _ ?_
        show Steps p.tables e below (s₁.setTop (mkF m 13 #[.val (.ref a1), .val (.ref a2), .val (.int (0 : Int32)), .val (.int (1 : Int32))] [(.double (FP.i2d x1))])) _
        refine XS.aloadN X0.here hx rfl (hb hby d4_13) rfl rfl ?_
        show Steps p.tables e below (s₁.setTop (mkF m 14 #[.val (.ref a1), .val (.ref a2), .val (.int (0 : Int32)), .val (.int (1 : Int32))] [(.ref a2), (.double (FP.i2d x1))])) _
        refine XS.iloadN X0.here hx rfl (hb hby d4_14) rfl ?_
        exact kt
      obtain ⟨cl80, Ar80, qk80, Sz80, Nn80, Hh80, Gg80⟩ := id V2
      have hin80 : ¬ ((1 : Int32) < 0 ∨ cl80.slots.size ≤ ((1 : Int32)).toNatClampNeg) := inb_of Sz80 ⟨by decide, by decide⟩
      have hat80 : cl80.slots[((1 : Int32)).toNatClampNeg]? = some (.double (FP.i2d y1)) := Hh80.at hin80 rfl
      have pre81 : ∀ t, Steps p.tables e below (s₁.setTop (mkF m 25 #[.val (.ref a1), .val (.ref a2), .val (.int (0 : Int32)), .val (.int (1 : Int32))] [(.int (1 : Int32)), (.ref a1), (.int (0 : Int32))])) t → Steps p.tables e below (s₁.setTop (entryFrame m #[(.ref a1), (.ref a2)] 4)) t := fun t kt => by
        refine pre79 _ ?_
        show Steps p.tables e below (s₁.setTop (mkF m 15 #[.val (.ref a1), .val (.ref a2), .val (.int (0 : Int32)), .val (.int (1 : Int32))] [(.int (1 : Int32)), (.ref a2), (.double (FP.i2d x1))])) _
        refine X0.daload hx (j := (1 : Int32)) (v := (.double (FP.i2d y1))) (by rw [e0]; exact Ar80.1) (State.isArrayOf_alike hZ.alike Ar80.2.1) Ar80.2.2 hin80 hat80 (g := (mkF m 15 #[.val (.ref a1), .val (.ref a2), .val (.int (0 : Int32)), .val (.int (1 : Int32))] [(.int (1 : Int32)), (.ref a2), (.double (FP.i2d x1))])) rfl rfl (hb hby d4_15) _ ?_
        show Steps p.tables e below (s₁.setTop (mkF m 16 #[.val (.ref a1), .val (.ref a2), .val (.int (0 : Int32)), .val (.int (1 : Int32))] [(.double (FP.i2d y1)), (.double (FP.i2d x1))])) _
        refine XS.dcmpS X0.here hx rfl (hb hby d4_16) rfl (own_d0 h60d _) ?_
        show Steps p.tables e below (s₁.setTop (mkF m 17 #[.val (.ref a1), .val (.ref a2), .val (.int (0 : Int32)), .val (.int (1 : Int32))] [(.int (0 : Int32))])) _
        refine XS.ifYes X0.here hx rfl (pc0 := 17) (pc' := 22) rfl (hb hby d4_17) rfl ((if0 _ _).trans (flt (by decide : ¬ ((0 : Int32) < (0 : Int32)))).2.2.2) (by decide) (by decide) ?_
        show Steps p.tables e below (s₁.setTop (mkF m 22 #[.val (.ref a1), .val (.ref a2), .val (.int (0 : Int32)), .val (.int (1 : Int32))] [])) _
        refine XS.iloadN X0.here hx rfl (hb hby d4_22) rfl ?_
        show Steps p.tables e below (s₁.setTop (mkF m 23 #[.val (.ref a1), .val (.ref a2), .val (.int (0 : Int32)), .val (.int (1 : Int32))] [(.int (0 : Int32))])) _
        refine XS.aloadN X0.here hx rfl (hb hby d4_23) rfl rfl ?_
        show Steps p.tables e below (s₁.setTop (mkF m 24 #[.val (.ref a1), .val (.ref a2), .val (.int (0 : Int32)), .val (.int (1 : Int32))] [(.ref a1), (.int (0 : Int32))])) _
        refine XS.iloadN X0.here hx rfl (hb hby d4_24) rfl ?_
        exact kt
      obtain ⟨cl82, Ar82, qk82, Sz82, Nn82, Hh82, Gg82⟩ := id V1
      have hin82 : ¬ ((1 : Int32) < 0 ∨ cl82.slots.size ≤ ((1 : Int32)).toNatClampNeg) := inb_of Sz82 ⟨by decide, by decide⟩
      have hat82 : cl82.slots[((1 : Int32)).toNatClampNeg]? = some (.double (FP.i2d x1)) := Hh82.at hin82 rfl
      have pre83 : ∀ t, Steps p.tables e below (s₁.setTop (mkF m 28 #[.val (.ref a1), .val (.ref a2), .val (.int (0 : Int32)), .val (.int (1 : Int32))] [(.int (1 : Int32)), (.ref a2), (.double (FP.i2d x1)), (.int (0 : Int32))])) t → Steps p.tables e below (s₁.setTop (entryFrame m #[(.ref a1), (.ref a2)] 4)) t := fun t kt => by
        refine pre81 _ ?_
        show Steps p.tables e below (s₁.setTop (mkF m 25 #[.val (.ref a1), .val (.ref a2), .val (.int (0 : Int32)), .val (.int (1 : Int32))] [(.int (1 : Int32)), (.ref a1), (.int (0 : Int32))])) _
        refine X0.daload hx (j := (1 : Int32)) (v := (.double (FP.i2d x1))) (by rw [e0]; exact Ar82.1) (State.isArrayOf_alike hZ.alike Ar82.2.1) Ar82.2.2 hin82 hat82 (g := (mkF m 25 #[.val (.ref a1), .val (.ref a2), .val (.int (0 : Int32)), .val (.int (1 : Int32))] [(.int (1 : Int32)), (.ref a1), (.int (0 : Int32))])) rfl rfl (hb hby d4_25) _ ?_
        show Steps p.tables e below (s₁.setTop (mkF m 26 #[.val (.ref a1), .val (.ref a2), .val (.int (0 : Int32)), .val (.int (1 : Int32))] [(.double (FP.i2d x1)), (.int (0 : Int32))])) _
        refine XS.aloadN X0.here hx rfl (hb hby d4_26) rfl rfl ?_
        show Steps p.tables e below (s₁.setTop (mkF m 27 #[.val (.ref a1), .val (.ref a2), .val (.int (0 : Int32)), .val (.int (1 : Int32))] [(.ref a2), (.double (FP.i2d x1)), (.int (0 : Int32))])) _
        refine XS.iloadN X0.here hx rfl (hb hby d4_27) rfl ?_
        exact kt
      obtain ⟨cl84, Ar84, qk84, Sz84, Nn84, Hh84, Gg84⟩ := id V2
      have hin84 : ¬ ((1 : Int32) < 0 ∨ cl84.slots.size ≤ ((1 : Int32)).toNatClampNeg) := inb_of Sz84 ⟨by decide, by decide⟩
      have hat84 : cl84.slots[((1 : Int32)).toNatClampNeg]? = some (.double (FP.i2d y1)) := Hh84.at hin84 rfl
      have pre85 : ∀ t, Steps p.tables e below (s₁.setTop (mkF m 6 #[.val (.ref a1), .val (.ref a2), .val (.int (0 : Int32)), .val (.int (2 : Int32))] [(.ref a1), (.int (2 : Int32))])) t → Steps p.tables e below (s₁.setTop (entryFrame m #[(.ref a1), (.ref a2)] 4)) t := fun t kt => by
        refine pre83 _ ?_
        show Steps p.tables e below (s₁.setTop (mkF m 28 #[.val (.ref a1), .val (.ref a2), .val (.int (0 : Int32)), .val (.int (1 : Int32))] [(.int (1 : Int32)), (.ref a2), (.double (FP.i2d x1)), (.int (0 : Int32))])) _
        refine X0.daload hx (j := (1 : Int32)) (v := (.double (FP.i2d y1))) (by rw [e0]; exact Ar84.1) (State.isArrayOf_alike hZ.alike Ar84.2.1) Ar84.2.2 hin84 hat84 (g := (mkF m 28 #[.val (.ref a1), .val (.ref a2), .val (.int (0 : Int32)), .val (.int (1 : Int32))] [(.int (1 : Int32)), (.ref a2), (.double (FP.i2d x1)), (.int (0 : Int32))])) rfl rfl (hb hby d4_28) _ ?_
        show Steps p.tables e below (s₁.setTop (mkF m 29 #[.val (.ref a1), .val (.ref a2), .val (.int (0 : Int32)), .val (.int (1 : Int32))] [(.double (FP.i2d y1)), (.double (FP.i2d x1)), (.int (0 : Int32))])) _
        refine XS.dcmpS X0.here hx rfl (hb hby d4_29) rfl (own_d0 h60d _) ?_
        show Steps p.tables e below (s₁.setTop (mkF m 30 #[.val (.ref a1), .val (.ref a2), .val (.int (0 : Int32)), .val (.int (1 : Int32))] [(.int (0 : Int32)), (.int (0 : Int32))])) _
        refine XS.ifYes X0.here hx rfl (pc0 := 30) (pc' := 37) rfl (hb hby d4_30) rfl ((if0 _ _).trans (flt (by decide : ¬ ((0 : Int32) < (0 : Int32)))).2.1) (by decide) (by decide) ?_
        show Steps p.tables e below (s₁.setTop (mkF m 37 #[.val (.ref a1), .val (.ref a2), .val (.int (0 : Int32)), .val (.int (1 : Int32))] [(.int (0 : Int32))])) _
        refine XS.iconst X0.here hx rfl (hb hby d4_37) ?_
        show Steps p.tables e below (s₁.setTop (mkF m 38 #[.val (.ref a1), .val (.ref a2), .val (.int (0 : Int32)), .val (.int (1 : Int32))] [(.int (0 : Int32)), (.int (0 : Int32))])) _
        refine XS.ior X0.here hx rfl (hb hby d4_38) rfl ?_
        show Steps p.tables e below (s₁.setTop (mkF m 39 #[.val (.ref a1), .val (.ref a2), .val (.int (0 : Int32)), .val (.int (1 : Int32))] [(.int ((0 : Int32) ||| (0 : Int32)))])) _
        show Steps p.tables e below (s₁.setTop (mkF m 39 #[.val (.ref a1), .val (.ref a2), .val (.int (0 : Int32)), .val (.int (1 : Int32))] [(.int (0 : Int32))])) _
        refine XS.istoreN X0.here hx rfl (hb hby d4_39) rfl (l' := #[.val (.ref a1), .val (.ref a2), .val (.int (0 : Int32)), .val (.int (1 : Int32))]) rfl ?_
        show Steps p.tables e below (s₁.setTop (mkF m 40 #[.val (.ref a1), .val (.ref a2), .val (.int (0 : Int32)), .val (.int (1 : Int32))] [])) _
        refine XS.iinc X0.here hx rfl (hb hby d4_40) rfl (l' := #[.val (.ref a1), .val (.ref a2), .val (.int (0 : Int32)), .val (.int ((1 : Int32) + (1 : Int32)))]) rfl ?_
        show Steps p.tables e below (s₁.setTop (mkF m 43 #[.val (.ref a1), .val (.ref a2), .val (.int (0 : Int32)), .val (.int ((1 : Int32) + (1 : Int32)))] [])) _
        show Steps p.tables e below (s₁.setTop (mkF m 43 #[.val (.ref a1), .val (.ref a2), .val (.int (0 : Int32)), .val (.int (2 : Int32))] [])) _
        refine XS.goto X0.here hx rfl (pc0 := 43) (pc' := 4) rfl (hb hby d4_43) (by decide) (by decide) ?_
        show Steps p.tables e below (s₁.setTop (mkF m 4 #[.val (.ref a1), .val (.ref a2), .val (.int (0 : Int32)), .val (.int (2 : Int32))] [])) _
        refine XS.iloadN X0.here hx rfl (hb hby d4_4) rfl ?_
        show Steps p.tables e below (s₁.setTop (mkF m 5 #[.val (.ref a1), .val (.ref a2), .val (.int (0 : Int32)), .val (.int (2 : Int32))] [(.int (2 : Int32))])) _
        refine XS.aloadN X0.here hx rfl (hb hby d4_5) rfl rfl ?_
        exact kt
      obtain ⟨cl86, Ar86, qk86, Sz86, Nn86, Hh86, Gg86⟩ := id V1
      have pre87 : ∀ t, Steps p.tables e below (s₁.setTop (mkF m 47 #[.val (.ref a1), .val (.ref a2), .val (.int (0 : Int32)), .val (.int (2 : Int32))] [(.int (0 : Int32))])) t → Steps p.tables e below (s₁.setTop (entryFrame m #[(.ref a1), (.ref a2)] 4)) t := fun t kt => by
        refine pre85 _ ?_
        show Steps p.tables e below (s₁.setTop (mkF m 6 #[.val (.ref a1), .val (.ref a2), .val (.int (0 : Int32)), .val (.int (2 : Int32))] [(.ref a1), (.int (2 : Int32))])) _
        refine X0.arraylength hx (by rw [e0]; exact Ar86.1) (State.isArrayOf_alike hZ.alike Ar86.2.1) (g := (mkF m 6 #[.val (.ref a1), .val (.ref a2), .val (.int (0 : Int32)), .val (.int (2 : Int32))] [(.ref a1), (.int (2 : Int32))])) rfl rfl (hb hby d4_6) _ ?_
        rw [len_of Sz86 Nn86]
        show Steps p.tables e below (s₁.setTop (mkF m 7 #[.val (.ref a1), .val (.ref a2), .val (.int (0 : Int32)), .val (.int (2 : Int32))] [(.int (2 : Int32)), (.int (2 : Int32))])) _
        refine XS.icmpYes X0.here hx rfl (pc0 := 7) (pc' := 46) rfl (hb hby d4_7) rfl (flt (by decide : ¬ ((2 : Int32) < (2 : Int32)))).2.1 (by decide) (by decide) ?_
        show Steps p.tables e below (s₁.setTop (mkF m 46 #[.val (.ref a1), .val (.ref a2), .val (.int (0 : Int32)), .val (.int (2 : Int32))] [])) _
        refine XS.iloadN X0.here hx rfl (hb hby d4_46) rfl ?_
        exact kt
      have ev : own_dom [(x0, y0), (x1, y1)] (0 : Int32) = (0 : Int32) := by simp only [own_dom, h4e, h4f, h60e, h60f, if_true, if_false]; try decide
      obtain ⟨fs, hr, hrun, hended, hW, hsame⟩ := X0.leave (v := (some (.int (0 : Int32)))) (fun h => by rw [Bd.returns] at h; cases h)
      refine ⟨_, _, pre87 _ ?_, hrun, hended, _, _, rfl, ?_, ⟨_, rfl⟩, hW, hsame.mono (by decide) (by decide)⟩
      · show Steps p.tables e below (s₁.setTop (mkF m 47 #[.val (.ref a1), .val (.ref a2), .val (.int (0 : Int32)), .val (.int (2 : Int32))] [(.int (0 : Int32))])) _
        exact retN X0 hx (t := .boolean) Bd.returns (by simp) (hb hby d4_47) hr
      · show Q4m2 Z a1 a2 k1 k2 x0 x1 y0 y1 h0 n0 _ s₁.heap _
        rw [e0]
        exact ⟨by rw [ev], N0, rfl⟩
theorem ef_4m3 (m : MethodId) (a1 : Addr) (a2 : Addr) : entryFrame m #[(.ref a1), (.ref a2)] 4 = (mkF m 0 #[.val (.ref a1), .val (.ref a2), .unset, .unset] []) := by first | (simp [entryFrame, mkF, argsToLocals, Value.category]; done) | rfl
def Q4m3 (Z : State) (a1 : Addr) (a2 : Addr) (k1 : ClassId) (k2 : ClassId) (x0 : Int32) (x1 : Int32) (x2 : Int32) (y0 : Int32) (y1 : Int32) (y2 : Int32) (h0 : Heap) (n0 : Nat) (v : Option Value) (h : Heap) (L : List Loc) : Prop := v = some (.int (own_dom [(x0, y0), (x1, y1), (x2, y2)] (0 : Int32))) ∧ Fr n0 L ∧ h = h0
set_option maxRecDepth 65536 in
set_option maxHeartbeats 40000000 in
theorem rm4m3 (l : Launch) (Z : State) (a0 : Array Value) (hw : ∀ d ∈ tables_1, d.before a0 Z = true) (ws : List Jvm.Cond) (a1 : Addr) (a2 : Addr) (k1 : ClassId) (k2 : ClassId) (x0 : Int32) (x1 : Int32) (x2 : Int32) (y0 : Int32) (y1 : Int32) (y2 : Int32) (h0 : Heap) (n0 : Nat) (Z0 : n0 ≤ h0.size) (V1 : Arv Z h0 a1 k1 .double (3 : Int32) [(.double (FP.i2d x0)), (.double (FP.i2d x1)), (.double (FP.i2d x2))] (.double 0)) (V2 : Arv Z h0 a2 k2 .double (3 : Int32) [(.double (FP.i2d y0)), (.double (FP.i2d y1)), (.double (FP.i2d y2))] (.double 0)) :
    MetFree l (⟨"com/example/tesserae/tesserae/core/Vectors", "dominates", "([D[D)Z"⟩ : MethodName) (head1 (Jvm.Cond.code (⟨"com/example/tesserae/tesserae/core/Vectors", "dominates", "([D[D)Z"⟩ : MethodName) prog_51_method_6_code 4 (some .boolean) :: ws) ({ frames := 0, cells := 0, slots := 0, locals := 0 } : Room)) (fun a U => a = #[(.ref a1), (.ref a2)] ∧ Z.Warmed39 U.vm ∧ U.heap = h0) (fun _ _ _ _ _ => True) (fun _ U o U' => ∃ v L, o = .returned v ∧ Q4m3 Z a1 a2 k1 k2 x0 x1 x2 y0 y1 y2 h0 n0 v U'.heap L ∧ FrameEnd U o U' L ({ frames := 0, cells := 0, slots := 0, locals := 0 } : Room).cells ({ frames := 0, cells := 0, slots := 0, locals := 0 } : Room).slots) := by
  refine MetFree.of_bodySF (plainFor_of_name pn_1) hisR ?_
  intro p e s m args below meth c s₁ Bd hml0 hP hK
  obtain ⟨rfl, hZ, hh⟩ := hP
  have hx := Bd.exec
  have hby := Bd.bytes
  have hml : c.maxLocals = 4 := hml0
  have hown : s.vm.findClass "com/example/tesserae/tesserae/core/Vectors" = some m.cls := findClass_of_methodNamed Bd.named
  have hnm := (name_of_methodNamed Bd.named Bd.method).1
  have X0 : Stand p l e ({ frames := 0, cells := 0, slots := 0, locals := 0 } : Room) s m #[(.ref a1), (.ref a2)] below meth c s₁ [] 0 0 := Stand.of_body Bd
  have e0 : s₁.heap = h0 := by rw [← hh, Bd.state]; rfl
  have N0 := Fr.nil n0
  have pre0 : ∀ t, Steps p.tables e below (s₁.setTop (mkF m 0 #[.val (.ref a1), .val (.ref a2), .unset, .unset] [])) t → Steps p.tables e below (s₁.setTop (entryFrame m #[(.ref a1), (.ref a2)] 4)) t := fun t k => castTop (ef_4m3 m a1 a2) k
  have pre1 : ∀ t, Steps p.tables e below (s₁.setTop (mkF m 6 #[.val (.ref a1), .val (.ref a2), .val (.int (0 : Int32)), .val (.int (0 : Int32))] [(.ref a1), (.int (0 : Int32))])) t → Steps p.tables e below (s₁.setTop (entryFrame m #[(.ref a1), (.ref a2)] 4)) t := fun t kt => by
    refine pre0 _ ?_
    show Steps p.tables e below (s₁.setTop (mkF m 0 #[.val (.ref a1), .val (.ref a2), .unset, .unset] [])) _
    refine XS.iconst X0.here hx rfl (hb hby d4_0) ?_
    show Steps p.tables e below (s₁.setTop (mkF m 1 #[.val (.ref a1), .val (.ref a2), .unset, .unset] [(.int (0 : Int32))])) _
    refine XS.istoreN X0.here hx rfl (hb hby d4_1) rfl (l' := #[.val (.ref a1), .val (.ref a2), .val (.int (0 : Int32)), .unset]) rfl ?_
    show Steps p.tables e below (s₁.setTop (mkF m 2 #[.val (.ref a1), .val (.ref a2), .val (.int (0 : Int32)), .unset] [])) _
    refine XS.iconst X0.here hx rfl (hb hby d4_2) ?_
    show Steps p.tables e below (s₁.setTop (mkF m 3 #[.val (.ref a1), .val (.ref a2), .val (.int (0 : Int32)), .unset] [(.int (0 : Int32))])) _
    refine XS.istoreN X0.here hx rfl (hb hby d4_3) rfl (l' := #[.val (.ref a1), .val (.ref a2), .val (.int (0 : Int32)), .val (.int (0 : Int32))]) rfl ?_
    show Steps p.tables e below (s₁.setTop (mkF m 4 #[.val (.ref a1), .val (.ref a2), .val (.int (0 : Int32)), .val (.int (0 : Int32))] [])) _
    refine XS.iloadN X0.here hx rfl (hb hby d4_4) rfl ?_
    show Steps p.tables e below (s₁.setTop (mkF m 5 #[.val (.ref a1), .val (.ref a2), .val (.int (0 : Int32)), .val (.int (0 : Int32))] [(.int (0 : Int32))])) _
    refine XS.aloadN X0.here hx rfl (hb hby d4_5) rfl rfl ?_
    exact kt
  obtain ⟨cl2, Ar2, qk2, Sz2, Nn2, Hh2, Gg2⟩ := id V1
  have pre3 : ∀ t, Steps p.tables e below (s₁.setTop (mkF m 10 #[.val (.ref a1), .val (.ref a2), .val (.int (0 : Int32)), .val (.int (0 : Int32))] [])) t → Steps p.tables e below (s₁.setTop (entryFrame m #[(.ref a1), (.ref a2)] 4)) t := fun t kt => by
    refine pre1 _ ?_
    show Steps p.tables e below (s₁.setTop (mkF m 6 #[.val (.ref a1), .val (.ref a2), .val (.int (0 : Int32)), .val (.int (0 : Int32))] [(.ref a1), (.int (0 : Int32))])) _
    refine X0.arraylength hx (by rw [e0]; exact Ar2.1) (State.isArrayOf_alike hZ.alike Ar2.2.1) (g := (mkF m 6 #[.val (.ref a1), .val (.ref a2), .val (.int (0 : Int32)), .val (.int (0 : Int32))] [(.ref a1), (.int (0 : Int32))])) rfl rfl (hb hby d4_6) _ ?_
    rw [len_of Sz2 Nn2]
    show Steps p.tables e below (s₁.setTop (mkF m 7 #[.val (.ref a1), .val (.ref a2), .val (.int (0 : Int32)), .val (.int (0 : Int32))] [(.int (3 : Int32)), (.int (0 : Int32))])) _
    refine XS.icmpNo X0.here hx rfl (hb hby d4_7) rfl (tlt (by decide : (0 : Int32) < (3 : Int32))).2.1 ?_
    exact kt
  rcases own_tri x0 y0 with ⟨h4a, h4b⟩ | h4c | ⟨h4d, h4e, h4f⟩
  · have pre5 : ∀ t, Steps p.tables e below (s₁.setTop (mkF m 12 #[.val (.ref a1), .val (.ref a2), .val (.int (0 : Int32)), .val (.int (0 : Int32))] [(.int (0 : Int32)), (.ref a1)])) t → Steps p.tables e below (s₁.setTop (entryFrame m #[(.ref a1), (.ref a2)] 4)) t := fun t kt => by
      refine pre3 _ ?_
      show Steps p.tables e below (s₁.setTop (mkF m 10 #[.val (.ref a1), .val (.ref a2), .val (.int (0 : Int32)), .val (.int (0 : Int32))] [])) _
      refine XS.aloadN X0.here hx rfl (hb hby d4_10) rfl rfl ?_
      show Steps p.tables e below (s₁.setTop (mkF m 11 #[.val (.ref a1), .val (.ref a2), .val (.int (0 : Int32)), .val (.int (0 : Int32))] [(.ref a1)])) _
      refine XS.iloadN X0.here hx rfl (hb hby d4_11) rfl ?_
      exact kt
    obtain ⟨cl6, Ar6, qk6, Sz6, Nn6, Hh6, Gg6⟩ := id V1
    have hin6 : ¬ ((0 : Int32) < 0 ∨ cl6.slots.size ≤ ((0 : Int32)).toNatClampNeg) := inb_of Sz6 ⟨by decide, by decide⟩
    have hat6 : cl6.slots[((0 : Int32)).toNatClampNeg]? = some (.double (FP.i2d x0)) := Hh6.at hin6 rfl
    have pre7 : ∀ t, Steps p.tables e below (s₁.setTop (mkF m 15 #[.val (.ref a1), .val (.ref a2), .val (.int (0 : Int32)), .val (.int (0 : Int32))] [(.int (0 : Int32)), (.ref a2), (.double (FP.i2d x0))])) t → Steps p.tables e below (s₁.setTop (entryFrame m #[(.ref a1), (.ref a2)] 4)) t := fun t kt => by
      refine pre5 _ ?_
      show Steps p.tables e below (s₁.setTop (mkF m 12 #[.val (.ref a1), .val (.ref a2), .val (.int (0 : Int32)), .val (.int (0 : Int32))] [(.int (0 : Int32)), (.ref a1)])) _
      refine X0.daload hx (j := (0 : Int32)) (v := (.double (FP.i2d x0))) (by rw [e0]; exact Ar6.1) (State.isArrayOf_alike hZ.alike Ar6.2.1) Ar6.2.2 hin6 hat6 (g := (mkF m 12 #[.val (.ref a1), .val (.ref a2), .val (.int (0 : Int32)), .val (.int (0 : Int32))] [(.int (0 : Int32)), (.ref a1)])) rfl rfl (hb hby d4_12) _ ?_
      show Steps p.tables e below (s₁.setTop (mkF m 13 #[.val (.ref a1), .val (.ref a2), .val (.int (0 : Int32)), .val (.int (0 : Int32))] [(.double (FP.i2d x0))])) _
      refine XS.aloadN X0.here hx rfl (hb hby d4_13) rfl rfl ?_
      show Steps p.tables e below (s₁.setTop (mkF m 14 #[.val (.ref a1), .val (.ref a2), .val (.int (0 : Int32)), .val (.int (0 : Int32))] [(.ref a2), (.double (FP.i2d x0))])) _
      refine XS.iloadN X0.here hx rfl (hb hby d4_14) rfl ?_
      exact kt
    obtain ⟨cl8, Ar8, qk8, Sz8, Nn8, Hh8, Gg8⟩ := id V2
    have hin8 : ¬ ((0 : Int32) < 0 ∨ cl8.slots.size ≤ ((0 : Int32)).toNatClampNeg) := inb_of Sz8 ⟨by decide, by decide⟩
    have hat8 : cl8.slots[((0 : Int32)).toNatClampNeg]? = some (.double (FP.i2d y0)) := Hh8.at hin8 rfl
    have pre9 : ∀ t, Steps p.tables e below (s₁.setTop (mkF m 25 #[.val (.ref a1), .val (.ref a2), .val (.int (0 : Int32)), .val (.int (0 : Int32))] [(.int (0 : Int32)), (.ref a1), (.int (0 : Int32))])) t → Steps p.tables e below (s₁.setTop (entryFrame m #[(.ref a1), (.ref a2)] 4)) t := fun t kt => by
      refine pre7 _ ?_
      show Steps p.tables e below (s₁.setTop (mkF m 15 #[.val (.ref a1), .val (.ref a2), .val (.int (0 : Int32)), .val (.int (0 : Int32))] [(.int (0 : Int32)), (.ref a2), (.double (FP.i2d x0))])) _
      refine X0.daload hx (j := (0 : Int32)) (v := (.double (FP.i2d y0))) (by rw [e0]; exact Ar8.1) (State.isArrayOf_alike hZ.alike Ar8.2.1) Ar8.2.2 hin8 hat8 (g := (mkF m 15 #[.val (.ref a1), .val (.ref a2), .val (.int (0 : Int32)), .val (.int (0 : Int32))] [(.int (0 : Int32)), (.ref a2), (.double (FP.i2d x0))])) rfl rfl (hb hby d4_15) _ ?_
      show Steps p.tables e below (s₁.setTop (mkF m 16 #[.val (.ref a1), .val (.ref a2), .val (.int (0 : Int32)), .val (.int (0 : Int32))] [(.double (FP.i2d y0)), (.double (FP.i2d x0))])) _
      refine XS.dcmpS X0.here hx rfl (hb hby d4_16) rfl (own_d1 h4a _) ?_
      show Steps p.tables e below (s₁.setTop (mkF m 17 #[.val (.ref a1), .val (.ref a2), .val (.int (0 : Int32)), .val (.int (0 : Int32))] [(.int (-1 : Int32))])) _
      refine XS.ifYes X0.here hx rfl (pc0 := 17) (pc' := 22) rfl (hb hby d4_17) rfl ((if0 _ _).trans (flt (by decide : ¬ ((0 : Int32) < (-1 : Int32)))).2.2.2) (by decide) (by decide) ?_
      show Steps p.tables e below (s₁.setTop (mkF m 22 #[.val (.ref a1), .val (.ref a2), .val (.int (0 : Int32)), .val (.int (0 : Int32))] [])) _
      refine XS.iloadN X0.here hx rfl (hb hby d4_22) rfl ?_
      show Steps p.tables e below (s₁.setTop (mkF m 23 #[.val (.ref a1), .val (.ref a2), .val (.int (0 : Int32)), .val (.int (0 : Int32))] [(.int (0 : Int32))])) _
      refine XS.aloadN X0.here hx rfl (hb hby d4_23) rfl rfl ?_
      show Steps p.tables e below (s₁.setTop (mkF m 24 #[.val (.ref a1), .val (.ref a2), .val (.int (0 : Int32)), .val (.int (0 : Int32))] [(.ref a1), (.int (0 : Int32))])) _
      refine XS.iloadN X0.here hx rfl (hb hby d4_24) rfl ?_
      exact kt
    obtain ⟨cl10, Ar10, qk10, Sz10, Nn10, Hh10, Gg10⟩ := id V1
    have hin10 : ¬ ((0 : Int32) < 0 ∨ cl10.slots.size ≤ ((0 : Int32)).toNatClampNeg) := inb_of Sz10 ⟨by decide, by decide⟩
    have hat10 : cl10.slots[((0 : Int32)).toNatClampNeg]? = some (.double (FP.i2d x0)) := Hh10.at hin10 rfl
    have pre11 : ∀ t, Steps p.tables e below (s₁.setTop (mkF m 28 #[.val (.ref a1), .val (.ref a2), .val (.int (0 : Int32)), .val (.int (0 : Int32))] [(.int (0 : Int32)), (.ref a2), (.double (FP.i2d x0)), (.int (0 : Int32))])) t → Steps p.tables e below (s₁.setTop (entryFrame m #[(.ref a1), (.ref a2)] 4)) t := fun t kt => by
      refine pre9 _ ?_
      show Steps p.tables e below (s₁.setTop (mkF m 25 #[.val (.ref a1), .val (.ref a2), .val (.int (0 : Int32)), .val (.int (0 : Int32))] [(.int (0 : Int32)), (.ref a1), (.int (0 : Int32))])) _
      refine X0.daload hx (j := (0 : Int32)) (v := (.double (FP.i2d x0))) (by rw [e0]; exact Ar10.1) (State.isArrayOf_alike hZ.alike Ar10.2.1) Ar10.2.2 hin10 hat10 (g := (mkF m 25 #[.val (.ref a1), .val (.ref a2), .val (.int (0 : Int32)), .val (.int (0 : Int32))] [(.int (0 : Int32)), (.ref a1), (.int (0 : Int32))])) rfl rfl (hb hby d4_25) _ ?_
      show Steps p.tables e below (s₁.setTop (mkF m 26 #[.val (.ref a1), .val (.ref a2), .val (.int (0 : Int32)), .val (.int (0 : Int32))] [(.double (FP.i2d x0)), (.int (0 : Int32))])) _
      refine XS.aloadN X0.here hx rfl (hb hby d4_26) rfl rfl ?_
      show Steps p.tables e below (s₁.setTop (mkF m 27 #[.val (.ref a1), .val (.ref a2), .val (.int (0 : Int32)), .val (.int (0 : Int32))] [(.ref a2), (.double (FP.i2d x0)), (.int (0 : Int32))])) _
      refine XS.iloadN X0.here hx rfl (hb hby d4_27) rfl ?_
      exact kt
    obtain ⟨cl12, Ar12, qk12, Sz12, Nn12, Hh12, Gg12⟩ := id V2
    have hin12 : ¬ ((0 : Int32) < 0 ∨ cl12.slots.size ≤ ((0 : Int32)).toNatClampNeg) := inb_of Sz12 ⟨by decide, by decide⟩
    have hat12 : cl12.slots[((0 : Int32)).toNatClampNeg]? = some (.double (FP.i2d y0)) := Hh12.at hin12 rfl
    have pre13 : ∀ t, Steps p.tables e below (s₁.setTop (mkF m 6 #[.val (.ref a1), .val (.ref a2), .val (.int (1 : Int32)), .val (.int (1 : Int32))] [(.ref a1), (.int (1 : Int32))])) t → Steps p.tables e below (s₁.setTop (entryFrame m #[(.ref a1), (.ref a2)] 4)) t := fun t kt => by
      refine pre11 _ ?_
      show Steps p.tables e below (s₁.setTop (mkF m 28 #[.val (.ref a1), .val (.ref a2), .val (.int (0 : Int32)), .val (.int (0 : Int32))] [(.int (0 : Int32)), (.ref a2), (.double (FP.i2d x0)), (.int (0 : Int32))])) _
      refine X0.daload hx (j := (0 : Int32)) (v := (.double (FP.i2d y0))) (by rw [e0]; exact Ar12.1) (State.isArrayOf_alike hZ.alike Ar12.2.1) Ar12.2.2 hin12 hat12 (g := (mkF m 28 #[.val (.ref a1), .val (.ref a2), .val (.int (0 : Int32)), .val (.int (0 : Int32))] [(.int (0 : Int32)), (.ref a2), (.double (FP.i2d x0)), (.int (0 : Int32))])) rfl rfl (hb hby d4_28) _ ?_
      show Steps p.tables e below (s₁.setTop (mkF m 29 #[.val (.ref a1), .val (.ref a2), .val (.int (0 : Int32)), .val (.int (0 : Int32))] [(.double (FP.i2d y0)), (.double (FP.i2d x0)), (.int (0 : Int32))])) _
      refine XS.dcmpS X0.here hx rfl (hb hby d4_29) rfl (own_d1 h4a _) ?_
      show Steps p.tables e below (s₁.setTop (mkF m 30 #[.val (.ref a1), .val (.ref a2), .val (.int (0 : Int32)), .val (.int (0 : Int32))] [(.int (-1 : Int32)), (.int (0 : Int32))])) _
      refine XS.ifNo X0.here hx rfl (hb hby d4_30) rfl ((if0 _ _).trans (tlt (by decide : (-1 : Int32) < (0 : Int32))).2.1) ?_
      show Steps p.tables e below (s₁.setTop (mkF m 33 #[.val (.ref a1), .val (.ref a2), .val (.int (0 : Int32)), .val (.int (0 : Int32))] [(.int (0 : Int32))])) _
      refine XS.iconst X0.here hx rfl (hb hby d4_33) ?_
      show Steps p.tables e below (s₁.setTop (mkF m 34 #[.val (.ref a1), .val (.ref a2), .val (.int (0 : Int32)), .val (.int (0 : Int32))] [(.int (1 : Int32)), (.int (0 : Int32))])) _
      refine XS.goto X0.here hx rfl (pc0 := 34) (pc' := 38) rfl (hb hby d4_34) (by decide) (by decide) ?_
      show Steps p.tables e below (s₁.setTop (mkF m 38 #[.val (.ref a1), .val (.ref a2), .val (.int (0 : Int32)), .val (.int (0 : Int32))] [(.int (1 : Int32)), (.int (0 : Int32))])) _
      refine XS.ior X0.here hx rfl (hb hby d4_38) rfl ?_
      show Steps p.tables e below (s₁.setTop (mkF m 39 #[.val (.ref a1), .val (.ref a2), .val (.int (0 : Int32)), .val (.int (0 : Int32))] [(.int ((0 : Int32) ||| (1 : Int32)))])) _
      show Steps p.tables e below (s₁.setTop (mkF m 39 #[.val (.ref a1), .val (.ref a2), .val (.int (0 : Int32)), .val (.int (0 : Int32))] [(.int (1 : Int32))])) _
      refine XS.istoreN X0.here hx rfl (hb hby d4_39) rfl (l' := #[.val (.ref a1), .val (.ref a2), .val (.int (1 : Int32)), .val (.int (0 : Int32))]) rfl ?_
      show Steps p.tables e below (s₁.setTop (mkF m 40 #[.val (.ref a1), .val (.ref a2), .val (.int (1 : Int32)), .val (.int (0 : Int32))] [])) _
      refine XS.iinc X0.here hx rfl (hb hby d4_40) rfl (l' := #[.val (.ref a1), .val (.ref a2), .val (.int (1 : Int32)), .val (.int ((0 : Int32) + (1 : Int32)))]) rfl ?_
      show Steps p.tables e below (s₁.setTop (mkF m 43 #[.val (.ref a1), .val (.ref a2), .val (.int (1 : Int32)), .val (.int ((0 : Int32) + (1 : Int32)))] [])) _
      show Steps p.tables e below (s₁.setTop (mkF m 43 #[.val (.ref a1), .val (.ref a2), .val (.int (1 : Int32)), .val (.int (1 : Int32))] [])) _
      refine XS.goto X0.here hx rfl (pc0 := 43) (pc' := 4) rfl (hb hby d4_43) (by decide) (by decide) ?_
      show Steps p.tables e below (s₁.setTop (mkF m 4 #[.val (.ref a1), .val (.ref a2), .val (.int (1 : Int32)), .val (.int (1 : Int32))] [])) _
      refine XS.iloadN X0.here hx rfl (hb hby d4_4) rfl ?_
      show Steps p.tables e below (s₁.setTop (mkF m 5 #[.val (.ref a1), .val (.ref a2), .val (.int (1 : Int32)), .val (.int (1 : Int32))] [(.int (1 : Int32))])) _
      refine XS.aloadN X0.here hx rfl (hb hby d4_5) rfl rfl ?_
      exact kt
    obtain ⟨cl14, Ar14, qk14, Sz14, Nn14, Hh14, Gg14⟩ := id V1
    have pre15 : ∀ t, Steps p.tables e below (s₁.setTop (mkF m 10 #[.val (.ref a1), .val (.ref a2), .val (.int (1 : Int32)), .val (.int (1 : Int32))] [])) t → Steps p.tables e below (s₁.setTop (entryFrame m #[(.ref a1), (.ref a2)] 4)) t := fun t kt => by
      refine pre13 _ ?_
      show Steps p.tables e below (s₁.setTop (mkF m 6 #[.val (.ref a1), .val (.ref a2), .val (.int (1 : Int32)), .val (.int (1 : Int32))] [(.ref a1), (.int (1 : Int32))])) _
      refine X0.arraylength hx (by rw [e0]; exact Ar14.1) (State.isArrayOf_alike hZ.alike Ar14.2.1) (g := (mkF m 6 #[.val (.ref a1), .val (.ref a2), .val (.int (1 : Int32)), .val (.int (1 : Int32))] [(.ref a1), (.int (1 : Int32))])) rfl rfl (hb hby d4_6) _ ?_
      rw [len_of Sz14 Nn14]
      show Steps p.tables e below (s₁.setTop (mkF m 7 #[.val (.ref a1), .val (.ref a2), .val (.int (1 : Int32)), .val (.int (1 : Int32))] [(.int (3 : Int32)), (.int (1 : Int32))])) _
      refine XS.icmpNo X0.here hx rfl (hb hby d4_7) rfl (tlt (by decide : (1 : Int32) < (3 : Int32))).2.1 ?_
      exact kt
    rcases own_tri x1 y1 with ⟨h16a, h16b⟩ | h16c | ⟨h16d, h16e, h16f⟩
    · have pre17 : ∀ t, Steps p.tables e below (s₁.setTop (mkF m 12 #[.val (.ref a1), .val (.ref a2), .val (.int (1 : Int32)), .val (.int (1 : Int32))] [(.int (1 : Int32)), (.ref a1)])) t → Steps p.tables e below (s₁.setTop (entryFrame m #[(.ref a1), (.ref a2)] 4)) t := fun t kt => by
        refine pre15 _ ?_
        show Steps p.tables e below (s₁.setTop (mkF m 10 #[.val (.ref a1), .val (.ref a2), .val (.int (1 : Int32)), .val (.int (1 : Int32))] [])) _
        refine XS.aloadN X0.here hx rfl (hb hby d4_10) rfl rfl ?_
        show Steps p.tables e below (s₁.setTop (mkF m 11 #[.val (.ref a1), .val (.ref a2), .val (.int (1 : Int32)), .val (.int (1 : Int32))] [(.ref a1)])) _
        refine XS.iloadN X0.here hx rfl (hb hby d4_11) rfl ?_
        exact kt
      obtain ⟨cl18, Ar18, qk18, Sz18, Nn18, Hh18, Gg18⟩ := id V1
      have hin18 : ¬ ((1 : Int32) < 0 ∨ cl18.slots.size ≤ ((1 : Int32)).toNatClampNeg) := inb_of Sz18 ⟨by decide, by decide⟩
      have hat18 : cl18.slots[((1 : Int32)).toNatClampNeg]? = some (.double (FP.i2d x1)) := Hh18.at hin18 rfl
      have pre19 : ∀ t, Steps p.tables e below (s₁.setTop (mkF m 15 #[.val (.ref a1), .val (.ref a2), .val (.int (1 : Int32)), .val (.int (1 : Int32))] [(.int (1 : Int32)), (.ref a2), (.double (FP.i2d x1))])) t → Steps p.tables e below (s₁.setTop (entryFrame m #[(.ref a1), (.ref a2)] 4)) t := fun t kt => by
        refine pre17 _ ?_
        show Steps p.tables e below (s₁.setTop (mkF m 12 #[.val (.ref a1), .val (.ref a2), .val (.int (1 : Int32)), .val (.int (1 : Int32))] [(.int (1 : Int32)), (.ref a1)])) _
        refine X0.daload hx (j := (1 : Int32)) (v := (.double (FP.i2d x1))) (by rw [e0]; exact Ar18.1) (State.isArrayOf_alike hZ.alike Ar18.2.1) Ar18.2.2 hin18 hat18 (g := (mkF m 12 #[.val (.ref a1), .val (.ref a2), .val (.int (1 : Int32)), .val (.int (1 : Int32))] [(.int (1 : Int32)), (.ref a1)])) rfl rfl (hb hby d4_12) _ ?_
        show Steps p.tables e below (s₁.setTop (mkF m 13 #[.val (.ref a1), .val (.ref a2), .val (.int (1 : Int32)), .val (.int (1 : Int32))] [(.double (FP.i2d x1))])) _
        refine XS.aloadN X0.here hx rfl (hb hby d4_13) rfl rfl ?_
        show Steps p.tables e below (s₁.setTop (mkF m 14 #[.val (.ref a1), .val (.ref a2), .val (.int (1 : Int32)), .val (.int (1 : Int32))] [(.ref a2), (.double (FP.i2d x1))])) _
        refine XS.iloadN X0.here hx rfl (hb hby d4_14) rfl ?_
        exact kt
      obtain ⟨cl20, Ar20, qk20, Sz20, Nn20, Hh20, Gg20⟩ := id V2
      have hin20 : ¬ ((1 : Int32) < 0 ∨ cl20.slots.size ≤ ((1 : Int32)).toNatClampNeg) := inb_of Sz20 ⟨by decide, by decide⟩
      have hat20 : cl20.slots[((1 : Int32)).toNatClampNeg]? = some (.double (FP.i2d y1)) := Hh20.at hin20 rfl
      have pre21 : ∀ t, Steps p.tables e below (s₁.setTop (mkF m 25 #[.val (.ref a1), .val (.ref a2), .val (.int (1 : Int32)), .val (.int (1 : Int32))] [(.int (1 : Int32)), (.ref a1), (.int (1 : Int32))])) t → Steps p.tables e below (s₁.setTop (entryFrame m #[(.ref a1), (.ref a2)] 4)) t := fun t kt => by
        refine pre19 _ ?_
        show Steps p.tables e below (s₁.setTop (mkF m 15 #[.val (.ref a1), .val (.ref a2), .val (.int (1 : Int32)), .val (.int (1 : Int32))] [(.int (1 : Int32)), (.ref a2), (.double (FP.i2d x1))])) _
        refine X0.daload hx (j := (1 : Int32)) (v := (.double (FP.i2d y1))) (by rw [e0]; exact Ar20.1) (State.isArrayOf_alike hZ.alike Ar20.2.1) Ar20.2.2 hin20 hat20 (g := (mkF m 15 #[.val (.ref a1), .val (.ref a2), .val (.int (1 : Int32)), .val (.int (1 : Int32))] [(.int (1 : Int32)), (.ref a2), (.double (FP.i2d x1))])) rfl rfl (hb hby d4_15) _ ?_
        show Steps p.tables e below (s₁.setTop (mkF m 16 #[.val (.ref a1), .val (.ref a2), .val (.int (1 : Int32)), .val (.int (1 : Int32))] [(.double (FP.i2d y1)), (.double (FP.i2d x1))])) _
        refine XS.dcmpS X0.here hx rfl (hb hby d4_16) rfl (own_d1 h16a _) ?_
        show Steps p.tables e below (s₁.setTop (mkF m 17 #[.val (.ref a1), .val (.ref a2), .val (.int (1 : Int32)), .val (.int (1 : Int32))] [(.int (-1 : Int32))])) _
        refine XS.ifYes X0.here hx rfl (pc0 := 17) (pc' := 22) rfl (hb hby d4_17) rfl ((if0 _ _).trans (flt (by decide : ¬ ((0 : Int32) < (-1 : Int32)))).2.2.2) (by decide) (by decide) ?_
        show Steps p.tables e below (s₁.setTop (mkF m 22 #[.val (.ref a1), .val (.ref a2), .val (.int (1 : Int32)), .val (.int (1 : Int32))] [])) _
        refine XS.iloadN X0.here hx rfl (hb hby d4_22) rfl ?_
        show Steps p.tables e below (s₁.setTop (mkF m 23 #[.val (.ref a1), .val (.ref a2), .val (.int (1 : Int32)), .val (.int (1 : Int32))] [(.int (1 : Int32))])) _
        refine XS.aloadN X0.here hx rfl (hb hby d4_23) rfl rfl ?_
        show Steps p.tables e below (s₁.setTop (mkF m 24 #[.val (.ref a1), .val (.ref a2), .val (.int (1 : Int32)), .val (.int (1 : Int32))] [(.ref a1), (.int (1 : Int32))])) _
        refine XS.iloadN X0.here hx rfl (hb hby d4_24) rfl ?_
        exact kt
      obtain ⟨cl22, Ar22, qk22, Sz22, Nn22, Hh22, Gg22⟩ := id V1
      have hin22 : ¬ ((1 : Int32) < 0 ∨ cl22.slots.size ≤ ((1 : Int32)).toNatClampNeg) := inb_of Sz22 ⟨by decide, by decide⟩
      have hat22 : cl22.slots[((1 : Int32)).toNatClampNeg]? = some (.double (FP.i2d x1)) := Hh22.at hin22 rfl
      have pre23 : ∀ t, Steps p.tables e below (s₁.setTop (mkF m 28 #[.val (.ref a1), .val (.ref a2), .val (.int (1 : Int32)), .val (.int (1 : Int32))] [(.int (1 : Int32)), (.ref a2), (.double (FP.i2d x1)), (.int (1 : Int32))])) t → Steps p.tables e below (s₁.setTop (entryFrame m #[(.ref a1), (.ref a2)] 4)) t := fun t kt => by
        refine pre21 _ ?_
        show Steps p.tables e below (s₁.setTop (mkF m 25 #[.val (.ref a1), .val (.ref a2), .val (.int (1 : Int32)), .val (.int (1 : Int32))] [(.int (1 : Int32)), (.ref a1), (.int (1 : Int32))])) _
        refine X0.daload hx (j := (1 : Int32)) (v := (.double (FP.i2d x1))) (by rw [e0]; exact Ar22.1) (State.isArrayOf_alike hZ.alike Ar22.2.1) Ar22.2.2 hin22 hat22 (g := (mkF m 25 #[.val (.ref a1), .val (.ref a2), .val (.int (1 : Int32)), .val (.int (1 : Int32))] [(.int (1 : Int32)), (.ref a1), (.int (1 : Int32))])) rfl rfl (hb hby d4_25) _ ?_
        show Steps p.tables e below (s₁.setTop (mkF m 26 #[.val (.ref a1), .val (.ref a2), .val (.int (1 : Int32)), .val (.int (1 : Int32))] [(.double (FP.i2d x1)), (.int (1 : Int32))])) _
        refine XS.aloadN X0.here hx rfl (hb hby d4_26) rfl rfl ?_
        show Steps p.tables e below (s₁.setTop (mkF m 27 #[.val (.ref a1), .val (.ref a2), .val (.int (1 : Int32)), .val (.int (1 : Int32))] [(.ref a2), (.double (FP.i2d x1)), (.int (1 : Int32))])) _
        refine XS.iloadN X0.here hx rfl (hb hby d4_27) rfl ?_
        exact kt
      obtain ⟨cl24, Ar24, qk24, Sz24, Nn24, Hh24, Gg24⟩ := id V2
      have hin24 : ¬ ((1 : Int32) < 0 ∨ cl24.slots.size ≤ ((1 : Int32)).toNatClampNeg) := inb_of Sz24 ⟨by decide, by decide⟩
      have hat24 : cl24.slots[((1 : Int32)).toNatClampNeg]? = some (.double (FP.i2d y1)) := Hh24.at hin24 rfl
      have pre25 : ∀ t, Steps p.tables e below (s₁.setTop (mkF m 6 #[.val (.ref a1), .val (.ref a2), .val (.int (1 : Int32)), .val (.int (2 : Int32))] [(.ref a1), (.int (2 : Int32))])) t → Steps p.tables e below (s₁.setTop (entryFrame m #[(.ref a1), (.ref a2)] 4)) t := fun t kt => by
        refine pre23 _ ?_
        show Steps p.tables e below (s₁.setTop (mkF m 28 #[.val (.ref a1), .val (.ref a2), .val (.int (1 : Int32)), .val (.int (1 : Int32))] [(.int (1 : Int32)), (.ref a2), (.double (FP.i2d x1)), (.int (1 : Int32))])) _
        refine X0.daload hx (j := (1 : Int32)) (v := (.double (FP.i2d y1))) (by rw [e0]; exact Ar24.1) (State.isArrayOf_alike hZ.alike Ar24.2.1) Ar24.2.2 hin24 hat24 (g := (mkF m 28 #[.val (.ref a1), .val (.ref a2), .val (.int (1 : Int32)), .val (.int (1 : Int32))] [(.int (1 : Int32)), (.ref a2), (.double (FP.i2d x1)), (.int (1 : Int32))])) rfl rfl (hb hby d4_28) _ ?_
        show Steps p.tables e below (s₁.setTop (mkF m 29 #[.val (.ref a1), .val (.ref a2), .val (.int (1 : Int32)), .val (.int (1 : Int32))] [(.double (FP.i2d y1)), (.double (FP.i2d x1)), (.int (1 : Int32))])) _
        refine XS.dcmpS X0.here hx rfl (hb hby d4_29) rfl (own_d1 h16a _) ?_
        show Steps p.tables e below (s₁.setTop (mkF m 30 #[.val (.ref a1), .val (.ref a2), .val (.int (1 : Int32)), .val (.int (1 : Int32))] [(.int (-1 : Int32)), (.int (1 : Int32))])) _
        refine XS.ifNo X0.here hx rfl (hb hby d4_30) rfl ((if0 _ _).trans (tlt (by decide : (-1 : Int32) < (0 : Int32))).2.1) ?_
        show Steps p.tables e below (s₁.setTop (mkF m 33 #[.val (.ref a1), .val (.ref a2), .val (.int (1 : Int32)), .val (.int (1 : Int32))] [(.int (1 : Int32))])) _
        refine XS.iconst X0.here hx rfl (hb hby d4_33) ?_
        show Steps p.tables e below (s₁.setTop (mkF m 34 #[.val (.ref a1), .val (.ref a2), .val (.int (1 : Int32)), .val (.int (1 : Int32))] [(.int (1 : Int32)), (.int (1 : Int32))])) _
        refine XS.goto X0.here hx rfl (pc0 := 34) (pc' := 38) rfl (hb hby d4_34) (by decide) (by decide) ?_
        show Steps p.tables e below (s₁.setTop (mkF m 38 #[.val (.ref a1), .val (.ref a2), .val (.int (1 : Int32)), .val (.int (1 : Int32))] [(.int (1 : Int32)), (.int (1 : Int32))])) _
        refine XS.ior X0.here hx rfl (hb hby d4_38) rfl ?_
        show Steps p.tables e below (s₁.setTop (mkF m 39 #[.val (.ref a1), .val (.ref a2), .val (.int (1 : Int32)), .val (.int (1 : Int32))] [(.int ((1 : Int32) ||| (1 : Int32)))])) _
        show Steps p.tables e below (s₁.setTop (mkF m 39 #[.val (.ref a1), .val (.ref a2), .val (.int (1 : Int32)), .val (.int (1 : Int32))] [(.int (1 : Int32))])) _
        refine XS.istoreN X0.here hx rfl (hb hby d4_39) rfl (l' := #[.val (.ref a1), .val (.ref a2), .val (.int (1 : Int32)), .val (.int (1 : Int32))]) rfl ?_
        show Steps p.tables e below (s₁.setTop (mkF m 40 #[.val (.ref a1), .val (.ref a2), .val (.int (1 : Int32)), .val (.int (1 : Int32))] [])) _
        refine XS.iinc X0.here hx rfl (hb hby d4_40) rfl (l' := #[.val (.ref a1), .val (.ref a2), .val (.int (1 : Int32)), .val (.int ((1 : Int32) + (1 : Int32)))]) rfl ?_
        show Steps p.tables e below (s₁.setTop (mkF m 43 #[.val (.ref a1), .val (.ref a2), .val (.int (1 : Int32)), .val (.int ((1 : Int32) + (1 : Int32)))] [])) _
        show Steps p.tables e below (s₁.setTop (mkF m 43 #[.val (.ref a1), .val (.ref a2), .val (.int (1 : Int32)), .val (.int (2 : Int32))] [])) _
        refine XS.goto X0.here hx rfl (pc0 := 43) (pc' := 4) rfl (hb hby d4_43) (by decide) (by decide) ?_
        show Steps p.tables e below (s₁.setTop (mkF m 4 #[.val (.ref a1), .val (.ref a2), .val (.int (1 : Int32)), .val (.int (2 : Int32))] [])) _
        refine XS.iloadN X0.here hx rfl (hb hby d4_4) rfl ?_
        show Steps p.tables e below (s₁.setTop (mkF m 5 #[.val (.ref a1), .val (.ref a2), .val (.int (1 : Int32)), .val (.int (2 : Int32))] [(.int (2 : Int32))])) _
        refine XS.aloadN X0.here hx rfl (hb hby d4_5) rfl rfl ?_
        exact kt
      obtain ⟨cl26, Ar26, qk26, Sz26, Nn26, Hh26, Gg26⟩ := id V1
      have pre27 : ∀ t, Steps p.tables e below (s₁.setTop (mkF m 10 #[.val (.ref a1), .val (.ref a2), .val (.int (1 : Int32)), .val (.int (2 : Int32))] [])) t → Steps p.tables e below (s₁.setTop (entryFrame m #[(.ref a1), (.ref a2)] 4)) t := fun t kt => by
        refine pre25 _ ?_
        show Steps p.tables e below (s₁.setTop (mkF m 6 #[.val (.ref a1), .val (.ref a2), .val (.int (1 : Int32)), .val (.int (2 : Int32))] [(.ref a1), (.int (2 : Int32))])) _
        refine X0.arraylength hx (by rw [e0]; exact Ar26.1) (State.isArrayOf_alike hZ.alike Ar26.2.1) (g := (mkF m 6 #[.val (.ref a1), .val (.ref a2), .val (.int (1 : Int32)), .val (.int (2 : Int32))] [(.ref a1), (.int (2 : Int32))])) rfl rfl (hb hby d4_6) _ ?_
        rw [len_of Sz26 Nn26]
        show Steps p.tables e below (s₁.setTop (mkF m 7 #[.val (.ref a1), .val (.ref a2), .val (.int (1 : Int32)), .val (.int (2 : Int32))] [(.int (3 : Int32)), (.int (2 : Int32))])) _
        refine XS.icmpNo X0.here hx rfl (hb hby d4_7) rfl (tlt (by decide : (2 : Int32) < (3 : Int32))).2.1 ?_
        exact kt
      rcases own_tri x2 y2 with ⟨h28a, h28b⟩ | h28c | ⟨h28d, h28e, h28f⟩
      · have pre29 : ∀ t, Steps p.tables e below (s₁.setTop (mkF m 12 #[.val (.ref a1), .val (.ref a2), .val (.int (1 : Int32)), .val (.int (2 : Int32))] [(.int (2 : Int32)), (.ref a1)])) t → Steps p.tables e below (s₁.setTop (entryFrame m #[(.ref a1), (.ref a2)] 4)) t := fun t kt => by
          refine pre27 _ ?_
          show Steps p.tables e below (s₁.setTop (mkF m 10 #[.val (.ref a1), .val (.ref a2), .val (.int (1 : Int32)), .val (.int (2 : Int32))] [])) _
          refine XS.aloadN X0.here hx rfl (hb hby d4_10) rfl rfl ?_
          show Steps p.tables e below (s₁.setTop (mkF m 11 #[.val (.ref a1), .val (.ref a2), .val (.int (1 : Int32)), .val (.int (2 : Int32))] [(.ref a1)])) _
          refine XS.iloadN X0.here hx rfl (hb hby d4_11) rfl ?_
          exact kt
        obtain ⟨cl30, Ar30, qk30, Sz30, Nn30, Hh30, Gg30⟩ := id V1
        have hin30 : ¬ ((2 : Int32) < 0 ∨ cl30.slots.size ≤ ((2 : Int32)).toNatClampNeg) := inb_of Sz30 ⟨by decide, by decide⟩
        have hat30 : cl30.slots[((2 : Int32)).toNatClampNeg]? = some (.double (FP.i2d x2)) := Hh30.at hin30 rfl
        have pre31 : ∀ t, Steps p.tables e below (s₁.setTop (mkF m 15 #[.val (.ref a1), .val (.ref a2), .val (.int (1 : Int32)), .val (.int (2 : Int32))] [(.int (2 : Int32)), (.ref a2), (.double (FP.i2d x2))])) t → Steps p.tables e below (s₁.setTop (entryFrame m #[(.ref a1), (.ref a2)] 4)) t := fun t kt => by
          refine pre29 _ ?_
          show Steps p.tables e below (s₁.setTop (mkF m 12 #[.val (.ref a1), .val (.ref a2), .val (.int (1 : Int32)), .val (.int (2 : Int32))] [(.int (2 : Int32)), (.ref a1)])) _
          refine X0.daload hx (j := (2 : Int32)) (v := (.double (FP.i2d x2))) (by rw [e0]; exact Ar30.1) (State.isArrayOf_alike hZ.alike Ar30.2.1) Ar30.2.2 hin30 hat30 (g := (mkF m 12 #[.val (.ref a1), .val (.ref a2), .val (.int (1 : Int32)), .val (.int (2 : Int32))] [(.int (2 : Int32)), (.ref a1)])) rfl rfl (hb hby d4_12) _ ?_
          show Steps p.tables e below (s₁.setTop (mkF m 13 #[.val (.ref a1), .val (.ref a2), .val (.int (1 : Int32)), .val (.int (2 : Int32))] [(.double (FP.i2d x2))])) _
          refine XS.aloadN X0.here hx rfl (hb hby d4_13) rfl rfl ?_
          show Steps p.tables e below (s₁.setTop (mkF m 14 #[.val (.ref a1), .val (.ref a2), .val (.int (1 : Int32)), .val (.int (2 : Int32))] [(.ref a2), (.double (FP.i2d x2))])) _
          refine XS.iloadN X0.here hx rfl (hb hby d4_14) rfl ?_
          exact kt
        obtain ⟨cl32, Ar32, qk32, Sz32, Nn32, Hh32, Gg32⟩ := id V2
        have hin32 : ¬ ((2 : Int32) < 0 ∨ cl32.slots.size ≤ ((2 : Int32)).toNatClampNeg) := inb_of Sz32 ⟨by decide, by decide⟩
        have hat32 : cl32.slots[((2 : Int32)).toNatClampNeg]? = some (.double (FP.i2d y2)) := Hh32.at hin32 rfl
        have pre33 : ∀ t, Steps p.tables e below (s₁.setTop (mkF m 25 #[.val (.ref a1), .val (.ref a2), .val (.int (1 : Int32)), .val (.int (2 : Int32))] [(.int (2 : Int32)), (.ref a1), (.int (1 : Int32))])) t → Steps p.tables e below (s₁.setTop (entryFrame m #[(.ref a1), (.ref a2)] 4)) t := fun t kt => by
          refine pre31 _ ?_
          show Steps p.tables e below (s₁.setTop (mkF m 15 #[.val (.ref a1), .val (.ref a2), .val (.int (1 : Int32)), .val (.int (2 : Int32))] [(.int (2 : Int32)), (.ref a2), (.double (FP.i2d x2))])) _
          refine X0.daload hx (j := (2 : Int32)) (v := (.double (FP.i2d y2))) (by rw [e0]; exact Ar32.1) (State.isArrayOf_alike hZ.alike Ar32.2.1) Ar32.2.2 hin32 hat32 (g := (mkF m 15 #[.val (.ref a1), .val (.ref a2), .val (.int (1 : Int32)), .val (.int (2 : Int32))] [(.int (2 : Int32)), (.ref a2), (.double (FP.i2d x2))])) rfl rfl (hb hby d4_15) _ ?_
          show Steps p.tables e below (s₁.setTop (mkF m 16 #[.val (.ref a1), .val (.ref a2), .val (.int (1 : Int32)), .val (.int (2 : Int32))] [(.double (FP.i2d y2)), (.double (FP.i2d x2))])) _
          refine XS.dcmpS X0.here hx rfl (hb hby d4_16) rfl (own_d1 h28a _) ?_
          show Steps p.tables e below (s₁.setTop (mkF m 17 #[.val (.ref a1), .val (.ref a2), .val (.int (1 : Int32)), .val (.int (2 : Int32))] [(.int (-1 : Int32))])) _
          refine XS.ifYes X0.here hx rfl (pc0 := 17) (pc' := 22) rfl (hb hby d4_17) rfl ((if0 _ _).trans (flt (by decide : ¬ ((0 : Int32) < (-1 : Int32)))).2.2.2) (by decide) (by decide) ?_
          show Steps p.tables e below (s₁.setTop (mkF m 22 #[.val (.ref a1), .val (.ref a2), .val (.int (1 : Int32)), .val (.int (2 : Int32))] [])) _
          refine XS.iloadN X0.here hx rfl (hb hby d4_22) rfl ?_
          show Steps p.tables e below (s₁.setTop (mkF m 23 #[.val (.ref a1), .val (.ref a2), .val (.int (1 : Int32)), .val (.int (2 : Int32))] [(.int (1 : Int32))])) _
          refine XS.aloadN X0.here hx rfl (hb hby d4_23) rfl rfl ?_
          show Steps p.tables e below (s₁.setTop (mkF m 24 #[.val (.ref a1), .val (.ref a2), .val (.int (1 : Int32)), .val (.int (2 : Int32))] [(.ref a1), (.int (1 : Int32))])) _
          refine XS.iloadN X0.here hx rfl (hb hby d4_24) rfl ?_
          exact kt
        obtain ⟨cl34, Ar34, qk34, Sz34, Nn34, Hh34, Gg34⟩ := id V1
        have hin34 : ¬ ((2 : Int32) < 0 ∨ cl34.slots.size ≤ ((2 : Int32)).toNatClampNeg) := inb_of Sz34 ⟨by decide, by decide⟩
        have hat34 : cl34.slots[((2 : Int32)).toNatClampNeg]? = some (.double (FP.i2d x2)) := Hh34.at hin34 rfl
        have pre35 : ∀ t, Steps p.tables e below (s₁.setTop (mkF m 28 #[.val (.ref a1), .val (.ref a2), .val (.int (1 : Int32)), .val (.int (2 : Int32))] [(.int (2 : Int32)), (.ref a2), (.double (FP.i2d x2)), (.int (1 : Int32))])) t → Steps p.tables e below (s₁.setTop (entryFrame m #[(.ref a1), (.ref a2)] 4)) t := fun t kt => by
          refine pre33 _ ?_
          show Steps p.tables e below (s₁.setTop (mkF m 25 #[.val (.ref a1), .val (.ref a2), .val (.int (1 : Int32)), .val (.int (2 : Int32))] [(.int (2 : Int32)), (.ref a1), (.int (1 : Int32))])) _
          refine X0.daload hx (j := (2 : Int32)) (v := (.double (FP.i2d x2))) (by rw [e0]; exact Ar34.1) (State.isArrayOf_alike hZ.alike Ar34.2.1) Ar34.2.2 hin34 hat34 (g := (mkF m 25 #[.val (.ref a1), .val (.ref a2), .val (.int (1 : Int32)), .val (.int (2 : Int32))] [(.int (2 : Int32)), (.ref a1), (.int (1 : Int32))])) rfl rfl (hb hby d4_25) _ ?_
          show Steps p.tables e below (s₁.setTop (mkF m 26 #[.val (.ref a1), .val (.ref a2), .val (.int (1 : Int32)), .val (.int (2 : Int32))] [(.double (FP.i2d x2)), (.int (1 : Int32))])) _
          refine XS.aloadN X0.here hx rfl (hb hby d4_26) rfl rfl ?_
          show Steps p.tables e below (s₁.setTop (mkF m 27 #[.val (.ref a1), .val (.ref a2), .val (.int (1 : Int32)), .val (.int (2 : Int32))] [(.ref a2), (.double (FP.i2d x2)), (.int (1 : Int32))])) _
          refine XS.iloadN X0.here hx rfl (hb hby d4_27) rfl ?_
          exact kt
        obtain ⟨cl36, Ar36, qk36, Sz36, Nn36, Hh36, Gg36⟩ := id V2
        have hin36 : ¬ ((2 : Int32) < 0 ∨ cl36.slots.size ≤ ((2 : Int32)).toNatClampNeg) := inb_of Sz36 ⟨by decide, by decide⟩
        have hat36 : cl36.slots[((2 : Int32)).toNatClampNeg]? = some (.double (FP.i2d y2)) := Hh36.at hin36 rfl
        have pre37 : ∀ t, Steps p.tables e below (s₁.setTop (mkF m 6 #[.val (.ref a1), .val (.ref a2), .val (.int (1 : Int32)), .val (.int (3 : Int32))] [(.ref a1), (.int (3 : Int32))])) t → Steps p.tables e below (s₁.setTop (entryFrame m #[(.ref a1), (.ref a2)] 4)) t := fun t kt => by
          refine pre35 _ ?_
          show Steps p.tables e below (s₁.setTop (mkF m 28 #[.val (.ref a1), .val (.ref a2), .val (.int (1 : Int32)), .val (.int (2 : Int32))] [(.int (2 : Int32)), (.ref a2), (.double (FP.i2d x2)), (.int (1 : Int32))])) _
          refine X0.daload hx (j := (2 : Int32)) (v := (.double (FP.i2d y2))) (by rw [e0]; exact Ar36.1) (State.isArrayOf_alike hZ.alike Ar36.2.1) Ar36.2.2 hin36 hat36 (g := (mkF m 28 #[.val (.ref a1), .val (.ref a2), .val (.int (1 : Int32)), .val (.int (2 : Int32))] [(.int (2 : Int32)), (.ref a2), (.double (FP.i2d x2)), (.int (1 : Int32))])) rfl rfl (hb hby d4_28) _ ?_
          show Steps p.tables e below (s₁.setTop (mkF m 29 #[.val (.ref a1), .val (.ref a2), .val (.int (1 : Int32)), .val (.int (2 : Int32))] [(.double (FP.i2d y2)), (.double (FP.i2d x2)), (.int (1 : Int32))])) _
          refine XS.dcmpS X0.here hx rfl (hb hby d4_29) rfl (own_d1 h28a _) ?_
          show Steps p.tables e below (s₁.setTop (mkF m 30 #[.val (.ref a1), .val (.ref a2), .val (.int (1 : Int32)), .val (.int (2 : Int32))] [(.int (-1 : Int32)), (.int (1 : Int32))])) _
          refine XS.ifNo X0.here hx rfl (hb hby d4_30) rfl ((if0 _ _).trans (tlt (by decide : (-1 : Int32) < (0 : Int32))).2.1) ?_
          show Steps p.tables e below (s₁.setTop (mkF m 33 #[.val (.ref a1), .val (.ref a2), .val (.int (1 : Int32)), .val (.int (2 : Int32))] [(.int (1 : Int32))])) _
          refine XS.iconst X0.here hx rfl (hb hby d4_33) ?_
          show Steps p.tables e below (s₁.setTop (mkF m 34 #[.val (.ref a1), .val (.ref a2), .val (.int (1 : Int32)), .val (.int (2 : Int32))] [(.int (1 : Int32)), (.int (1 : Int32))])) _
          refine XS.goto X0.here hx rfl (pc0 := 34) (pc' := 38) rfl (hb hby d4_34) (by decide) (by decide) ?_
          show Steps p.tables e below (s₁.setTop (mkF m 38 #[.val (.ref a1), .val (.ref a2), .val (.int (1 : Int32)), .val (.int (2 : Int32))] [(.int (1 : Int32)), (.int (1 : Int32))])) _
          refine XS.ior X0.here hx rfl (hb hby d4_38) rfl ?_
          show Steps p.tables e below (s₁.setTop (mkF m 39 #[.val (.ref a1), .val (.ref a2), .val (.int (1 : Int32)), .val (.int (2 : Int32))] [(.int ((1 : Int32) ||| (1 : Int32)))])) _
          show Steps p.tables e below (s₁.setTop (mkF m 39 #[.val (.ref a1), .val (.ref a2), .val (.int (1 : Int32)), .val (.int (2 : Int32))] [(.int (1 : Int32))])) _
          refine XS.istoreN X0.here hx rfl (hb hby d4_39) rfl (l' := #[.val (.ref a1), .val (.ref a2), .val (.int (1 : Int32)), .val (.int (2 : Int32))]) rfl ?_
          show Steps p.tables e below (s₁.setTop (mkF m 40 #[.val (.ref a1), .val (.ref a2), .val (.int (1 : Int32)), .val (.int (2 : Int32))] [])) _
          refine XS.iinc X0.here hx rfl (hb hby d4_40) rfl (l' := #[.val (.ref a1), .val (.ref a2), .val (.int (1 : Int32)), .val (.int ((2 : Int32) + (1 : Int32)))]) rfl ?_
          show Steps p.tables e below (s₁.setTop (mkF m 43 #[.val (.ref a1), .val (.ref a2), .val (.int (1 : Int32)), .val (.int ((2 : Int32) + (1 : Int32)))] [])) _
          show Steps p.tables e below (s₁.setTop (mkF m 43 #[.val (.ref a1), .val (.ref a2), .val (.int (1 : Int32)), .val (.int (3 : Int32))] [])) _
          refine XS.goto X0.here hx rfl (pc0 := 43) (pc' := 4) rfl (hb hby d4_43) (by decide) (by decide) ?_
          show Steps p.tables e below (s₁.setTop (mkF m 4 #[.val (.ref a1), .val (.ref a2), .val (.int (1 : Int32)), .val (.int (3 : Int32))] [])) _
          refine XS.iloadN X0.here hx rfl (hb hby d4_4) rfl ?_
          show Steps p.tables e below (s₁.setTop (mkF m 5 #[.val (.ref a1), .val (.ref a2), .val (.int (1 : Int32)), .val (.int (3 : Int32))] [(.int (3 : Int32))])) _
          refine XS.aloadN X0.here hx rfl (hb hby d4_5) rfl rfl ?_
          exact kt
        obtain ⟨cl38, Ar38, qk38, Sz38, Nn38, Hh38, Gg38⟩ := id V1
        have pre39 : ∀ t, Steps p.tables e below (s₁.setTop (mkF m 47 #[.val (.ref a1), .val (.ref a2), .val (.int (1 : Int32)), .val (.int (3 : Int32))] [(.int (1 : Int32))])) t → Steps p.tables e below (s₁.setTop (entryFrame m #[(.ref a1), (.ref a2)] 4)) t := fun t kt => by
          refine pre37 _ ?_
          show Steps p.tables e below (s₁.setTop (mkF m 6 #[.val (.ref a1), .val (.ref a2), .val (.int (1 : Int32)), .val (.int (3 : Int32))] [(.ref a1), (.int (3 : Int32))])) _
          refine X0.arraylength hx (by rw [e0]; exact Ar38.1) (State.isArrayOf_alike hZ.alike Ar38.2.1) (g := (mkF m 6 #[.val (.ref a1), .val (.ref a2), .val (.int (1 : Int32)), .val (.int (3 : Int32))] [(.ref a1), (.int (3 : Int32))])) rfl rfl (hb hby d4_6) _ ?_
          rw [len_of Sz38 Nn38]
          show Steps p.tables e below (s₁.setTop (mkF m 7 #[.val (.ref a1), .val (.ref a2), .val (.int (1 : Int32)), .val (.int (3 : Int32))] [(.int (3 : Int32)), (.int (3 : Int32))])) _
          refine XS.icmpYes X0.here hx rfl (pc0 := 7) (pc' := 46) rfl (hb hby d4_7) rfl (flt (by decide : ¬ ((3 : Int32) < (3 : Int32)))).2.1 (by decide) (by decide) ?_
          show Steps p.tables e below (s₁.setTop (mkF m 46 #[.val (.ref a1), .val (.ref a2), .val (.int (1 : Int32)), .val (.int (3 : Int32))] [])) _
          refine XS.iloadN X0.here hx rfl (hb hby d4_46) rfl ?_
          exact kt
        have ev : own_dom [(x0, y0), (x1, y1), (x2, y2)] (0 : Int32) = (1 : Int32) := by simp only [own_dom, h4a, h4b, h16a, h16b, h28a, h28b, if_true, if_false]; try decide
        obtain ⟨fs, hr, hrun, hended, hW, hsame⟩ := X0.leave (v := (some (.int (1 : Int32)))) (fun h => by rw [Bd.returns] at h; cases h)
        refine ⟨_, _, pre39 _ ?_, hrun, hended, _, _, rfl, ?_, ⟨_, rfl⟩, hW, hsame.mono (by decide) (by decide)⟩
        · show Steps p.tables e below (s₁.setTop (mkF m 47 #[.val (.ref a1), .val (.ref a2), .val (.int (1 : Int32)), .val (.int (3 : Int32))] [(.int (1 : Int32))])) _
          exact retN X0 hx (t := .boolean) Bd.returns (by simp) (hb hby d4_47) hr
        · show Q4m3 Z a1 a2 k1 k2 x0 x1 x2 y0 y1 y2 h0 n0 _ s₁.heap _
          rw [e0]
          exact ⟨by rw [ev], N0, rfl⟩
      · have pre40 : ∀ t, Steps p.tables e below (s₁.setTop (mkF m 12 #[.val (.ref a1), .val (.ref a2), .val (.int (1 : Int32)), .val (.int (2 : Int32))] [(.int (2 : Int32)), (.ref a1)])) t → Steps p.tables e below (s₁.setTop (entryFrame m #[(.ref a1), (.ref a2)] 4)) t := fun t kt => by
          refine pre27 _ ?_
          show Steps p.tables e below (s₁.setTop (mkF m 10 #[.val (.ref a1), .val (.ref a2), .val (.int (1 : Int32)), .val (.int (2 : Int32))] [])) _
          refine XS.aloadN X0.here hx rfl (hb hby d4_10) rfl rfl ?_
          show Steps p.tables e below (s₁.setTop (mkF m 11 #[.val (.ref a1), .val (.ref a2), .val (.int (1 : Int32)), .val (.int (2 : Int32))] [(.ref a1)])) _
          refine XS.iloadN X0.here hx rfl (hb hby d4_11) rfl ?_
          exact kt
        obtain ⟨cl41, Ar41, qk41, Sz41, Nn41, Hh41, Gg41⟩ := id V1
        have hin41 : ¬ ((2 : Int32) < 0 ∨ cl41.slots.size ≤ ((2 : Int32)).toNatClampNeg) := inb_of Sz41 ⟨by decide, by decide⟩
        have hat41 : cl41.slots[((2 : Int32)).toNatClampNeg]? = some (.double (FP.i2d x2)) := Hh41.at hin41 rfl
        have pre42 : ∀ t, Steps p.tables e below (s₁.setTop (mkF m 15 #[.val (.ref a1), .val (.ref a2), .val (.int (1 : Int32)), .val (.int (2 : Int32))] [(.int (2 : Int32)), (.ref a2), (.double (FP.i2d x2))])) t → Steps p.tables e below (s₁.setTop (entryFrame m #[(.ref a1), (.ref a2)] 4)) t := fun t kt => by
          refine pre40 _ ?_
          show Steps p.tables e below (s₁.setTop (mkF m 12 #[.val (.ref a1), .val (.ref a2), .val (.int (1 : Int32)), .val (.int (2 : Int32))] [(.int (2 : Int32)), (.ref a1)])) _
          refine X0.daload hx (j := (2 : Int32)) (v := (.double (FP.i2d x2))) (by rw [e0]; exact Ar41.1) (State.isArrayOf_alike hZ.alike Ar41.2.1) Ar41.2.2 hin41 hat41 (g := (mkF m 12 #[.val (.ref a1), .val (.ref a2), .val (.int (1 : Int32)), .val (.int (2 : Int32))] [(.int (2 : Int32)), (.ref a1)])) rfl rfl (hb hby d4_12) _ ?_
          show Steps p.tables e below (s₁.setTop (mkF m 13 #[.val (.ref a1), .val (.ref a2), .val (.int (1 : Int32)), .val (.int (2 : Int32))] [(.double (FP.i2d x2))])) _
          refine XS.aloadN X0.here hx rfl (hb hby d4_13) rfl rfl ?_
          show Steps p.tables e below (s₁.setTop (mkF m 14 #[.val (.ref a1), .val (.ref a2), .val (.int (1 : Int32)), .val (.int (2 : Int32))] [(.ref a2), (.double (FP.i2d x2))])) _
          refine XS.iloadN X0.here hx rfl (hb hby d4_14) rfl ?_
          exact kt
        obtain ⟨cl43, Ar43, qk43, Sz43, Nn43, Hh43, Gg43⟩ := id V2
        have hin43 : ¬ ((2 : Int32) < 0 ∨ cl43.slots.size ≤ ((2 : Int32)).toNatClampNeg) := inb_of Sz43 ⟨by decide, by decide⟩
        have hat43 : cl43.slots[((2 : Int32)).toNatClampNeg]? = some (.double (FP.i2d y2)) := Hh43.at hin43 rfl
        have pre44 : ∀ t, Steps p.tables e below (s₁.setTop (mkF m 21 #[.val (.ref a1), .val (.ref a2), .val (.int (1 : Int32)), .val (.int (2 : Int32))] [(.int (0 : Int32))])) t → Steps p.tables e below (s₁.setTop (entryFrame m #[(.ref a1), (.ref a2)] 4)) t := fun t kt => by
          refine pre42 _ ?_
          show Steps p.tables e below (s₁.setTop (mkF m 15 #[.val (.ref a1), .val (.ref a2), .val (.int (1 : Int32)), .val (.int (2 : Int32))] [(.int (2 : Int32)), (.ref a2), (.double (FP.i2d x2))])) _
          refine X0.daload hx (j := (2 : Int32)) (v := (.double (FP.i2d y2))) (by rw [e0]; exact Ar43.1) (State.isArrayOf_alike hZ.alike Ar43.2.1) Ar43.2.2 hin43 hat43 (g := (mkF m 15 #[.val (.ref a1), .val (.ref a2), .val (.int (1 : Int32)), .val (.int (2 : Int32))] [(.int (2 : Int32)), (.ref a2), (.double (FP.i2d x2))])) rfl rfl (hb hby d4_15) _ ?_
          show Steps p.tables e below (s₁.setTop (mkF m 16 #[.val (.ref a1), .val (.ref a2), .val (.int (1 : Int32)), .val (.int (2 : Int32))] [(.double (FP.i2d y2)), (.double (FP.i2d x2))])) _
          refine XS.dcmpS X0.here hx rfl (hb hby d4_16) rfl (own_d2 h28c _) ?_
          show Steps p.tables e below (s₁.setTop (mkF m 17 #[.val (.ref a1), .val (.ref a2), .val (.int (1 : Int32)), .val (.int (2 : Int32))] [(.int (1 : Int32))])) _
          refine XS.ifNo X0.here hx rfl (hb hby d4_17) rfl ((if0 _ _).trans (tlt (by decide : (0 : Int32) < (1 : Int32))).2.2.2) ?_
          show Steps p.tables e below (s₁.setTop (mkF m 20 #[.val (.ref a1), .val (.ref a2), .val (.int (1 : Int32)), .val (.int (2 : Int32))] [])) _
          refine XS.iconst X0.here hx rfl (hb hby d4_20) ?_
          exact kt
        have ev : own_dom [(x0, y0), (x1, y1), (x2, y2)] (0 : Int32) = (0 : Int32) := by simp only [own_dom, h4a, h4b, h16a, h16b, h28c, if_true, if_false]; try decide
        obtain ⟨fs, hr, hrun, hended, hW, hsame⟩ := X0.leave (v := (some (.int (0 : Int32)))) (fun h => by rw [Bd.returns] at h; cases h)
        refine ⟨_, _, pre44 _ ?_, hrun, hended, _, _, rfl, ?_, ⟨_, rfl⟩, hW, hsame.mono (by decide) (by decide)⟩
        · show Steps p.tables e below (s₁.setTop (mkF m 21 #[.val (.ref a1), .val (.ref a2), .val (.int (1 : Int32)), .val (.int (2 : Int32))] [(.int (0 : Int32))])) _
          exact retN X0 hx (t := .boolean) Bd.returns (by simp) (hb hby d4_21) hr
        · show Q4m3 Z a1 a2 k1 k2 x0 x1 x2 y0 y1 y2 h0 n0 _ s₁.heap _
          rw [e0]
          exact ⟨by rw [ev], N0, rfl⟩
      · have pre45 : ∀ t, Steps p.tables e below (s₁.setTop (mkF m 12 #[.val (.ref a1), .val (.ref a2), .val (.int (1 : Int32)), .val (.int (2 : Int32))] [(.int (2 : Int32)), (.ref a1)])) t → Steps p.tables e below (s₁.setTop (entryFrame m #[(.ref a1), (.ref a2)] 4)) t := fun t kt => by
          refine pre27 _ ?_
          show Steps p.tables e below (s₁.setTop (mkF m 10 #[.val (.ref a1), .val (.ref a2), .val (.int (1 : Int32)), .val (.int (2 : Int32))] [])) _
          refine XS.aloadN X0.here hx rfl (hb hby d4_10) rfl rfl ?_
          show Steps p.tables e below (s₁.setTop (mkF m 11 #[.val (.ref a1), .val (.ref a2), .val (.int (1 : Int32)), .val (.int (2 : Int32))] [(.ref a1)])) _
          refine XS.iloadN X0.here hx rfl (hb hby d4_11) rfl ?_
          exact kt
        obtain ⟨cl46, Ar46, qk46, Sz46, Nn46, Hh46, Gg46⟩ := id V1
        have hin46 : ¬ ((2 : Int32) < 0 ∨ cl46.slots.size ≤ ((2 : Int32)).toNatClampNeg) := inb_of Sz46 ⟨by decide, by decide⟩
        have hat46 : cl46.slots[((2 : Int32)).toNatClampNeg]? = some (.double (FP.i2d x2)) := Hh46.at hin46 rfl
        have pre47 : ∀ t, Steps p.tables e below (s₁.setTop (mkF m 15 #[.val (.ref a1), .val (.ref a2), .val (.int (1 : Int32)), .val (.int (2 : Int32))] [(.int (2 : Int32)), (.ref a2), (.double (FP.i2d x2))])) t → Steps p.tables e below (s₁.setTop (entryFrame m #[(.ref a1), (.ref a2)] 4)) t := fun t kt => by
          refine pre45 _ ?_
          show Steps p.tables e below (s₁.setTop (mkF m 12 #[.val (.ref a1), .val (.ref a2), .val (.int (1 : Int32)), .val (.int (2 : Int32))] [(.int (2 : Int32)), (.ref a1)])) _
          refine X0.daload hx (j := (2 : Int32)) (v := (.double (FP.i2d x2))) (by rw [e0]; exact Ar46.1) (State.isArrayOf_alike hZ.alike Ar46.2.1) Ar46.2.2 hin46 hat46 (g := (mkF m 12 #[.val (.ref a1), .val (.ref a2), .val (.int (1 : Int32)), .val (.int (2 : Int32))] [(.int (2 : Int32)), (.ref a1)])) rfl rfl (hb hby d4_12) _ ?_
          show Steps p.tables e below (s₁.setTop (mkF m 13 #[.val (.ref a1), .val (.ref a2), .val (.int (1 : Int32)), .val (.int (2 : Int32))] [(.double (FP.i2d x2))])) _
          refine XS.aloadN X0.here hx rfl (hb hby d4_13) rfl rfl ?_
          show Steps p.tables e below (s₁.setTop (mkF m 14 #[.val (.ref a1), .val (.ref a2), .val (.int (1 : Int32)), .val (.int (2 : Int32))] [(.ref a2), (.double (FP.i2d x2))])) _
          refine XS.iloadN X0.here hx rfl (hb hby d4_14) rfl ?_
          exact kt
        obtain ⟨cl48, Ar48, qk48, Sz48, Nn48, Hh48, Gg48⟩ := id V2
        have hin48 : ¬ ((2 : Int32) < 0 ∨ cl48.slots.size ≤ ((2 : Int32)).toNatClampNeg) := inb_of Sz48 ⟨by decide, by decide⟩
        have hat48 : cl48.slots[((2 : Int32)).toNatClampNeg]? = some (.double (FP.i2d y2)) := Hh48.at hin48 rfl
        have pre49 : ∀ t, Steps p.tables e below (s₁.setTop (mkF m 25 #[.val (.ref a1), .val (.ref a2), .val (.int (1 : Int32)), .val (.int (2 : Int32))] [(.int (2 : Int32)), (.ref a1), (.int (1 : Int32))])) t → Steps p.tables e below (s₁.setTop (entryFrame m #[(.ref a1), (.ref a2)] 4)) t := fun t kt => by
          refine pre47 _ ?_
          show Steps p.tables e below (s₁.setTop (mkF m 15 #[.val (.ref a1), .val (.ref a2), .val (.int (1 : Int32)), .val (.int (2 : Int32))] [(.int (2 : Int32)), (.ref a2), (.double (FP.i2d x2))])) _
          refine X0.daload hx (j := (2 : Int32)) (v := (.double (FP.i2d y2))) (by rw [e0]; exact Ar48.1) (State.isArrayOf_alike hZ.alike Ar48.2.1) Ar48.2.2 hin48 hat48 (g := (mkF m 15 #[.val (.ref a1), .val (.ref a2), .val (.int (1 : Int32)), .val (.int (2 : Int32))] [(.int (2 : Int32)), (.ref a2), (.double (FP.i2d x2))])) rfl rfl (hb hby d4_15) _ ?_
          show Steps p.tables e below (s₁.setTop (mkF m 16 #[.val (.ref a1), .val (.ref a2), .val (.int (1 : Int32)), .val (.int (2 : Int32))] [(.double (FP.i2d y2)), (.double (FP.i2d x2))])) _
          refine XS.dcmpS X0.here hx rfl (hb hby d4_16) rfl (own_d0 h28d _) ?_
          show Steps p.tables e below (s₁.setTop (mkF m 17 #[.val (.ref a1), .val (.ref a2), .val (.int (1 : Int32)), .val (.int (2 : Int32))] [(.int (0 : Int32))])) _
          refine XS.ifYes X0.here hx rfl (pc0 := 17) (pc' := 22) rfl (hb hby d4_17) rfl ((if0 _ _).trans (flt (by decide : ¬ ((0 : Int32) < (0 : Int32)))).2.2.2) (by decide) (by decide) ?_
          show Steps p.tables e below (s₁.setTop (mkF m 22 #[.val (.ref a1), .val (.ref a2), .val (.int (1 : Int32)), .val (.int (2 : Int32))] [])) _
          refine XS.iloadN X0.here hx rfl (hb hby d4_22) rfl ?_
          show Steps p.tables e below (s₁.setTop (mkF m 23 #[.val (.ref a1), .val (.ref a2), .val (.int (1 : Int32)), .val (.int (2 : Int32))] [(.int (1 : Int32))])) _
          refine XS.aloadN X0.here hx rfl (hb hby d4_23) rfl rfl ?_
          show Steps p.tables e below (s₁.setTop (mkF m 24 #[.val (.ref a1), .val (.ref a2), .val (.int (1 : Int32)), .val (.int (2 : Int32))] [(.ref a1), (.int (1 : Int32))])) _
          refine XS.iloadN X0.here hx rfl (hb hby d4_24) rfl ?_
          exact kt
        obtain ⟨cl50, Ar50, qk50, Sz50, Nn50, Hh50, Gg50⟩ := id V1
        have hin50 : ¬ ((2 : Int32) < 0 ∨ cl50.slots.size ≤ ((2 : Int32)).toNatClampNeg) := inb_of Sz50 ⟨by decide, by decide⟩
        have hat50 : cl50.slots[((2 : Int32)).toNatClampNeg]? = some (.double (FP.i2d x2)) := Hh50.at hin50 rfl
        have pre51 : ∀ t, Steps p.tables e below (s₁.setTop (mkF m 28 #[.val (.ref a1), .val (.ref a2), .val (.int (1 : Int32)), .val (.int (2 : Int32))] [(.int (2 : Int32)), (.ref a2), (.double (FP.i2d x2)), (.int (1 : Int32))])) t → Steps p.tables e below (s₁.setTop (entryFrame m #[(.ref a1), (.ref a2)] 4)) t := fun t kt => by
          refine pre49 _ ?_
          show Steps p.tables e below (s₁.setTop (mkF m 25 #[.val (.ref a1), .val (.ref a2), .val (.int (1 : Int32)), .val (.int (2 : Int32))] [(.int (2 : Int32)), (.ref a1), (.int (1 : Int32))])) _
          refine X0.daload hx (j := (2 : Int32)) (v := (.double (FP.i2d x2))) (by rw [e0]; exact Ar50.1) (State.isArrayOf_alike hZ.alike Ar50.2.1) Ar50.2.2 hin50 hat50 (g := (mkF m 25 #[.val (.ref a1), .val (.ref a2), .val (.int (1 : Int32)), .val (.int (2 : Int32))] [(.int (2 : Int32)), (.ref a1), (.int (1 : Int32))])) rfl rfl (hb hby d4_25) _ ?_
          show Steps p.tables e below (s₁.setTop (mkF m 26 #[.val (.ref a1), .val (.ref a2), .val (.int (1 : Int32)), .val (.int (2 : Int32))] [(.double (FP.i2d x2)), (.int (1 : Int32))])) _
          refine XS.aloadN X0.here hx rfl (hb hby d4_26) rfl rfl ?_
          show Steps p.tables e below (s₁.setTop (mkF m 27 #[.val (.ref a1), .val (.ref a2), .val (.int (1 : Int32)), .val (.int (2 : Int32))] [(.ref a2), (.double (FP.i2d x2)), (.int (1 : Int32))])) _
          refine XS.iloadN X0.here hx rfl (hb hby d4_27) rfl ?_
          exact kt
        obtain ⟨cl52, Ar52, qk52, Sz52, Nn52, Hh52, Gg52⟩ := id V2
        have hin52 : ¬ ((2 : Int32) < 0 ∨ cl52.slots.size ≤ ((2 : Int32)).toNatClampNeg) := inb_of Sz52 ⟨by decide, by decide⟩
        have hat52 : cl52.slots[((2 : Int32)).toNatClampNeg]? = some (.double (FP.i2d y2)) := Hh52.at hin52 rfl
        have pre53 : ∀ t, Steps p.tables e below (s₁.setTop (mkF m 6 #[.val (.ref a1), .val (.ref a2), .val (.int (1 : Int32)), .val (.int (3 : Int32))] [(.ref a1), (.int (3 : Int32))])) t → Steps p.tables e below (s₁.setTop (entryFrame m #[(.ref a1), (.ref a2)] 4)) t := fun t kt => by
          refine pre51 _ ?_
          show Steps p.tables e below (s₁.setTop (mkF m 28 #[.val (.ref a1), .val (.ref a2), .val (.int (1 : Int32)), .val (.int (2 : Int32))] [(.int (2 : Int32)), (.ref a2), (.double (FP.i2d x2)), (.int (1 : Int32))])) _
          refine X0.daload hx (j := (2 : Int32)) (v := (.double (FP.i2d y2))) (by rw [e0]; exact Ar52.1) (State.isArrayOf_alike hZ.alike Ar52.2.1) Ar52.2.2 hin52 hat52 (g := (mkF m 28 #[.val (.ref a1), .val (.ref a2), .val (.int (1 : Int32)), .val (.int (2 : Int32))] [(.int (2 : Int32)), (.ref a2), (.double (FP.i2d x2)), (.int (1 : Int32))])) rfl rfl (hb hby d4_28) _ ?_
          show Steps p.tables e below (s₁.setTop (mkF m 29 #[.val (.ref a1), .val (.ref a2), .val (.int (1 : Int32)), .val (.int (2 : Int32))] [(.double (FP.i2d y2)), (.double (FP.i2d x2)), (.int (1 : Int32))])) _
          refine XS.dcmpS X0.here hx rfl (hb hby d4_29) rfl (own_d0 h28d _) ?_
          show Steps p.tables e below (s₁.setTop (mkF m 30 #[.val (.ref a1), .val (.ref a2), .val (.int (1 : Int32)), .val (.int (2 : Int32))] [(.int (0 : Int32)), (.int (1 : Int32))])) _
          refine XS.ifYes X0.here hx rfl (pc0 := 30) (pc' := 37) rfl (hb hby d4_30) rfl ((if0 _ _).trans (flt (by decide : ¬ ((0 : Int32) < (0 : Int32)))).2.1) (by decide) (by decide) ?_
          show Steps p.tables e below (s₁.setTop (mkF m 37 #[.val (.ref a1), .val (.ref a2), .val (.int (1 : Int32)), .val (.int (2 : Int32))] [(.int (1 : Int32))])) _
          refine XS.iconst X0.here hx rfl (hb hby d4_37) ?_
          show Steps p.tables e below (s₁.setTop (mkF m 38 #[.val (.ref a1), .val (.ref a2), .val (.int (1 : Int32)), .val (.int (2 : Int32))] [(.int (0 : Int32)), (.int (1 : Int32))])) _
          refine XS.ior X0.here hx rfl (hb hby d4_38) rfl ?_
          show Steps p.tables e below (s₁.setTop (mkF m 39 #[.val (.ref a1), .val (.ref a2), .val (.int (1 : Int32)), .val (.int (2 : Int32))] [(.int ((1 : Int32) ||| (0 : Int32)))])) _
          show Steps p.tables e below (s₁.setTop (mkF m 39 #[.val (.ref a1), .val (.ref a2), .val (.int (1 : Int32)), .val (.int (2 : Int32))] [(.int (1 : Int32))])) _
          refine XS.istoreN X0.here hx rfl (hb hby d4_39) rfl (l' := #[.val (.ref a1), .val (.ref a2), .val (.int (1 : Int32)), .val (.int (2 : Int32))]) rfl ?_
          show Steps p.tables e below (s₁.setTop (mkF m 40 #[.val (.ref a1), .val (.ref a2), .val (.int (1 : Int32)), .val (.int (2 : Int32))] [])) _
          refine XS.iinc X0.here hx rfl (hb hby d4_40) rfl (l' := #[.val (.ref a1), .val (.ref a2), .val (.int (1 : Int32)), .val (.int ((2 : Int32) + (1 : Int32)))]) rfl ?_
          show Steps p.tables e below (s₁.setTop (mkF m 43 #[.val (.ref a1), .val (.ref a2), .val (.int (1 : Int32)), .val (.int ((2 : Int32) + (1 : Int32)))] [])) _
          show Steps p.tables e below (s₁.setTop (mkF m 43 #[.val (.ref a1), .val (.ref a2), .val (.int (1 : Int32)), .val (.int (3 : Int32))] [])) _
          refine XS.goto X0.here hx rfl (pc0 := 43) (pc' := 4) rfl (hb hby d4_43) (by decide) (by decide) ?_
          show Steps p.tables e below (s₁.setTop (mkF m 4 #[.val (.ref a1), .val (.ref a2), .val (.int (1 : Int32)), .val (.int (3 : Int32))] [])) _
          refine XS.iloadN X0.here hx rfl (hb hby d4_4) rfl ?_
          show Steps p.tables e below (s₁.setTop (mkF m 5 #[.val (.ref a1), .val (.ref a2), .val (.int (1 : Int32)), .val (.int (3 : Int32))] [(.int (3 : Int32))])) _
          refine XS.aloadN X0.here hx rfl (hb hby d4_5) rfl rfl ?_
          exact kt
        obtain ⟨cl54, Ar54, qk54, Sz54, Nn54, Hh54, Gg54⟩ := id V1
        have pre55 : ∀ t, Steps p.tables e below (s₁.setTop (mkF m 47 #[.val (.ref a1), .val (.ref a2), .val (.int (1 : Int32)), .val (.int (3 : Int32))] [(.int (1 : Int32))])) t → Steps p.tables e below (s₁.setTop (entryFrame m #[(.ref a1), (.ref a2)] 4)) t := fun t kt => by
          refine pre53 _ ?_
          show Steps p.tables e below (s₁.setTop (mkF m 6 #[.val (.ref a1), .val (.ref a2), .val (.int (1 : Int32)), .val (.int (3 : Int32))] [(.ref a1), (.int (3 : Int32))])) _
          refine X0.arraylength hx (by rw [e0]; exact Ar54.1) (State.isArrayOf_alike hZ.alike Ar54.2.1) (g := (mkF m 6 #[.val (.ref a1), .val (.ref a2), .val (.int (1 : Int32)), .val (.int (3 : Int32))] [(.ref a1), (.int (3 : Int32))])) rfl rfl (hb hby d4_6) _ ?_
          rw [len_of Sz54 Nn54]
          show Steps p.tables e below (s₁.setTop (mkF m 7 #[.val (.ref a1), .val (.ref a2), .val (.int (1 : Int32)), .val (.int (3 : Int32))] [(.int (3 : Int32)), (.int (3 : Int32))])) _
          refine XS.icmpYes X0.here hx rfl (pc0 := 7) (pc' := 46) rfl (hb hby d4_7) rfl (flt (by decide : ¬ ((3 : Int32) < (3 : Int32)))).2.1 (by decide) (by decide) ?_
          show Steps p.tables e below (s₁.setTop (mkF m 46 #[.val (.ref a1), .val (.ref a2), .val (.int (1 : Int32)), .val (.int (3 : Int32))] [])) _
          refine XS.iloadN X0.here hx rfl (hb hby d4_46) rfl ?_
          exact kt
        have ev : own_dom [(x0, y0), (x1, y1), (x2, y2)] (0 : Int32) = (1 : Int32) := by simp only [own_dom, h4a, h4b, h16a, h16b, h28e, h28f, if_true, if_false]; try decide
        obtain ⟨fs, hr, hrun, hended, hW, hsame⟩ := X0.leave (v := (some (.int (1 : Int32)))) (fun h => by rw [Bd.returns] at h; cases h)
        refine ⟨_, _, pre55 _ ?_, hrun, hended, _, _, rfl, ?_, ⟨_, rfl⟩, hW, hsame.mono (by decide) (by decide)⟩
        · show Steps p.tables e below (s₁.setTop (mkF m 47 #[.val (.ref a1), .val (.ref a2), .val (.int (1 : Int32)), .val (.int (3 : Int32))] [(.int (1 : Int32))])) _
          exact retN X0 hx (t := .boolean) Bd.returns (by simp) (hb hby d4_47) hr
        · show Q4m3 Z a1 a2 k1 k2 x0 x1 x2 y0 y1 y2 h0 n0 _ s₁.heap _
          rw [e0]
          exact ⟨by rw [ev], N0, rfl⟩
    · have pre56 : ∀ t, Steps p.tables e below (s₁.setTop (mkF m 12 #[.val (.ref a1), .val (.ref a2), .val (.int (1 : Int32)), .val (.int (1 : Int32))] [(.int (1 : Int32)), (.ref a1)])) t → Steps p.tables e below (s₁.setTop (entryFrame m #[(.ref a1), (.ref a2)] 4)) t := fun t kt => by
        refine pre15 _ ?_
        show Steps p.tables e below (s₁.setTop (mkF m 10 #[.val (.ref a1), .val (.ref a2), .val (.int (1 : Int32)), .val (.int (1 : Int32))] [])) _
        refine XS.aloadN X0.here hx rfl (hb hby d4_10) rfl rfl ?_
        show Steps p.tables e below (s₁.setTop (mkF m 11 #[.val (.ref a1), .val (.ref a2), .val (.int (1 : Int32)), .val (.int (1 : Int32))] [(.ref a1)])) _
        refine XS.iloadN X0.here hx rfl (hb hby d4_11) rfl ?_
        exact kt
      obtain ⟨cl57, Ar57, qk57, Sz57, Nn57, Hh57, Gg57⟩ := id V1
      have hin57 : ¬ ((1 : Int32) < 0 ∨ cl57.slots.size ≤ ((1 : Int32)).toNatClampNeg) := inb_of Sz57 ⟨by decide, by decide⟩
      have hat57 : cl57.slots[((1 : Int32)).toNatClampNeg]? = some (.double (FP.i2d x1)) := Hh57.at hin57 rfl
      have pre58 : ∀ t, Steps p.tables e below (s₁.setTop (mkF m 15 #[.val (.ref a1), .val (.ref a2), .val (.int (1 : Int32)), .val (.int (1 : Int32))] [(.int (1 : Int32)), (.ref a2), (.double (FP.i2d x1))])) t → Steps p.tables e below (s₁.setTop (entryFrame m #[(.ref a1), (.ref a2)] 4)) t := fun t kt => by
        refine pre56 _ ?_
        show Steps p.tables e below (s₁.setTop (mkF m 12 #[.val (.ref a1), .val (.ref a2), .val (.int (1 : Int32)), .val (.int (1 : Int32))] [(.int (1 : Int32)), (.ref a1)])) _
        refine X0.daload hx (j := (1 : Int32)) (v := (.double (FP.i2d x1))) (by rw [e0]; exact Ar57.1) (State.isArrayOf_alike hZ.alike Ar57.2.1) Ar57.2.2 hin57 hat57 (g := (mkF m 12 #[.val (.ref a1), .val (.ref a2), .val (.int (1 : Int32)), .val (.int (1 : Int32))] [(.int (1 : Int32)), (.ref a1)])) rfl rfl (hb hby d4_12) _ ?_
        show Steps p.tables e below (s₁.setTop (mkF m 13 #[.val (.ref a1), .val (.ref a2), .val (.int (1 : Int32)), .val (.int (1 : Int32))] [(.double (FP.i2d x1))])) _
        refine XS.aloadN X0.here hx rfl (hb hby d4_13) rfl rfl ?_
        show Steps p.tables e below (s₁.setTop (mkF m 14 #[.val (.ref a1), .val (.ref a2), .val (.int (1 : Int32)), .val (.int (1 : Int32))] [(.ref a2), (.double (FP.i2d x1))])) _
        refine XS.iloadN X0.here hx rfl (hb hby d4_14) rfl ?_
        exact kt
      obtain ⟨cl59, Ar59, qk59, Sz59, Nn59, Hh59, Gg59⟩ := id V2
      have hin59 : ¬ ((1 : Int32) < 0 ∨ cl59.slots.size ≤ ((1 : Int32)).toNatClampNeg) := inb_of Sz59 ⟨by decide, by decide⟩
      have hat59 : cl59.slots[((1 : Int32)).toNatClampNeg]? = some (.double (FP.i2d y1)) := Hh59.at hin59 rfl
      have pre60 : ∀ t, Steps p.tables e below (s₁.setTop (mkF m 21 #[.val (.ref a1), .val (.ref a2), .val (.int (1 : Int32)), .val (.int (1 : Int32))] [(.int (0 : Int32))])) t → Steps p.tables e below (s₁.setTop (entryFrame m #[(.ref a1), (.ref a2)] 4)) t := fun t kt => by
        refine pre58 _ ?_
        show Steps p.tables e below (s₁.setTop (mkF m 15 #[.val (.ref a1), .val (.ref a2), .val (.int (1 : Int32)), .val (.int (1 : Int32))] [(.int (1 : Int32)), (.ref a2), (.double (FP.i2d x1))])) _
        refine X0.daload hx (j := (1 : Int32)) (v := (.double (FP.i2d y1))) (by rw [e0]; exact Ar59.1) (State.isArrayOf_alike hZ.alike Ar59.2.1) Ar59.2.2 hin59 hat59 (g := (mkF m 15 #[.val (.ref a1), .val (.ref a2), .val (.int (1 : Int32)), .val (.int (1 : Int32))] [(.int (1 : Int32)), (.ref a2), (.double (FP.i2d x1))])) rfl rfl (hb hby d4_15) _ ?_
        show Steps p.tables e below (s₁.setTop (mkF m 16 #[.val (.ref a1), .val (.ref a2), .val (.int (1 : Int32)), .val (.int (1 : Int32))] [(.double (FP.i2d y1)), (.double (FP.i2d x1))])) _
        refine XS.dcmpS X0.here hx rfl (hb hby d4_16) rfl (own_d2 h16c _) ?_
        show Steps p.tables e below (s₁.setTop (mkF m 17 #[.val (.ref a1), .val (.ref a2), .val (.int (1 : Int32)), .val (.int (1 : Int32))] [(.int (1 : Int32))])) _
        refine XS.ifNo X0.here hx rfl (hb hby d4_17) rfl ((if0 _ _).trans (tlt (by decide : (0 : Int32) < (1 : Int32))).2.2.2) ?_
        show Steps p.tables e below (s₁.setTop (mkF m 20 #[.val (.ref a1), .val (.ref a2), .val (.int (1 : Int32)), .val (.int (1 : Int32))] [])) _
        refine XS.iconst X0.here hx rfl (hb hby d4_20) ?_
        exact kt
      have ev : own_dom [(x0, y0), (x1, y1), (x2, y2)] (0 : Int32) = (0 : Int32) := by simp only [own_dom, h4a, h4b, h16c, if_true, if_false]; try decide
      obtain ⟨fs, hr, hrun, hended, hW, hsame⟩ := X0.leave (v := (some (.int (0 : Int32)))) (fun h => by rw [Bd.returns] at h; cases h)
      refine ⟨_, _, pre60 _ ?_, hrun, hended, _, _, rfl, ?_, ⟨_, rfl⟩, hW, hsame.mono (by decide) (by decide)⟩
      · show Steps p.tables e below (s₁.setTop (mkF m 21 #[.val (.ref a1), .val (.ref a2), .val (.int (1 : Int32)), .val (.int (1 : Int32))] [(.int (0 : Int32))])) _
        exact retN X0 hx (t := .boolean) Bd.returns (by simp) (hb hby d4_21) hr
      · show Q4m3 Z a1 a2 k1 k2 x0 x1 x2 y0 y1 y2 h0 n0 _ s₁.heap _
        rw [e0]
        exact ⟨by rw [ev], N0, rfl⟩
    · have pre61 : ∀ t, Steps p.tables e below (s₁.setTop (mkF m 12 #[.val (.ref a1), .val (.ref a2), .val (.int (1 : Int32)), .val (.int (1 : Int32))] [(.int (1 : Int32)), (.ref a1)])) t → Steps p.tables e below (s₁.setTop (entryFrame m #[(.ref a1), (.ref a2)] 4)) t := fun t kt => by
        refine pre15 _ ?_
        show Steps p.tables e below (s₁.setTop (mkF m 10 #[.val (.ref a1), .val (.ref a2), .val (.int (1 : Int32)), .val (.int (1 : Int32))] [])) _
        refine XS.aloadN X0.here hx rfl (hb hby d4_10) rfl rfl ?_
        show Steps p.tables e below (s₁.setTop (mkF m 11 #[.val (.ref a1), .val (.ref a2), .val (.int (1 : Int32)), .val (.int (1 : Int32))] [(.ref a1)])) _
        refine XS.iloadN X0.here hx rfl (hb hby d4_11) rfl ?_
        exact kt
      obtain ⟨cl62, Ar62, qk62, Sz62, Nn62, Hh62, Gg62⟩ := id V1
      have hin62 : ¬ ((1 : Int32) < 0 ∨ cl62.slots.size ≤ ((1 : Int32)).toNatClampNeg) := inb_of Sz62 ⟨by decide, by decide⟩
      have hat62 : cl62.slots[((1 : Int32)).toNatClampNeg]? = some (.double (FP.i2d x1)) := Hh62.at hin62 rfl
      have pre63 : ∀ t, Steps p.tables e below (s₁.setTop (mkF m 15 #[.val (.ref a1), .val (.ref a2), .val (.int (1 : Int32)), .val (.int (1 : Int32))] [(.int (1 : Int32)), (.ref a2), (.double (FP.i2d x1))])) t → Steps p.tables e below (s₁.setTop (entryFrame m #[(.ref a1), (.ref a2)] 4)) t := fun t kt => by
        refine pre61 _ ?_
        show Steps p.tables e below (s₁.setTop (mkF m 12 #[.val (.ref a1), .val (.ref a2), .val (.int (1 : Int32)), .val (.int (1 : Int32))] [(.int (1 : Int32)), (.ref a1)])) _
        refine X0.daload hx (j := (1 : Int32)) (v := (.double (FP.i2d x1))) (by rw [e0]; exact Ar62.1) (State.isArrayOf_alike hZ.alike Ar62.2.1) Ar62.2.2 hin62 hat62 (g := (mkF m 12 #[.val (.ref a1), .val (.ref a2), .val (.int (1 : Int32)), .val (.int (1 : Int32))] [(.int (1 : Int32)), (.ref a1)])) rfl rfl (hb hby d4_12) _ ?_
        show Steps p.tables e below (s₁.setTop (mkF m 13 #[.val (.ref a1), .val (.ref a2), .val (.int (1 : Int32)), .val (.int (1 : Int32))] [(.double (FP.i2d x1))])) _
        refine XS.aloadN X0.here hx rfl (hb hby d4_13) rfl rfl ?_
        show Steps p.tables e below (s₁.setTop (mkF m 14 #[.val (.ref a1), .val (.ref a2), .val (.int (1 : Int32)), .val (.int (1 : Int32))] [(.ref a2), (.double (FP.i2d x1))])) _
        refine XS.iloadN X0.here hx rfl (hb hby d4_14) rfl ?_
        exact kt
      obtain ⟨cl64, Ar64, qk64, Sz64, Nn64, Hh64, Gg64⟩ := id V2
      have hin64 : ¬ ((1 : Int32) < 0 ∨ cl64.slots.size ≤ ((1 : Int32)).toNatClampNeg) := inb_of Sz64 ⟨by decide, by decide⟩
      have hat64 : cl64.slots[((1 : Int32)).toNatClampNeg]? = some (.double (FP.i2d y1)) := Hh64.at hin64 rfl
      have pre65 : ∀ t, Steps p.tables e below (s₁.setTop (mkF m 25 #[.val (.ref a1), .val (.ref a2), .val (.int (1 : Int32)), .val (.int (1 : Int32))] [(.int (1 : Int32)), (.ref a1), (.int (1 : Int32))])) t → Steps p.tables e below (s₁.setTop (entryFrame m #[(.ref a1), (.ref a2)] 4)) t := fun t kt => by
        refine pre63 _ ?_
        show Steps p.tables e below (s₁.setTop (mkF m 15 #[.val (.ref a1), .val (.ref a2), .val (.int (1 : Int32)), .val (.int (1 : Int32))] [(.int (1 : Int32)), (.ref a2), (.double (FP.i2d x1))])) _
        refine X0.daload hx (j := (1 : Int32)) (v := (.double (FP.i2d y1))) (by rw [e0]; exact Ar64.1) (State.isArrayOf_alike hZ.alike Ar64.2.1) Ar64.2.2 hin64 hat64 (g := (mkF m 15 #[.val (.ref a1), .val (.ref a2), .val (.int (1 : Int32)), .val (.int (1 : Int32))] [(.int (1 : Int32)), (.ref a2), (.double (FP.i2d x1))])) rfl rfl (hb hby d4_15) _ ?_
        show Steps p.tables e below (s₁.setTop (mkF m 16 #[.val (.ref a1), .val (.ref a2), .val (.int (1 : Int32)), .val (.int (1 : Int32))] [(.double (FP.i2d y1)), (.double (FP.i2d x1))])) _
        refine XS.dcmpS X0.here hx rfl (hb hby d4_16) rfl (own_d0 h16d _) ?_
        show Steps p.tables e below (s₁.setTop (mkF m 17 #[.val (.ref a1), .val (.ref a2), .val (.int (1 : Int32)), .val (.int (1 : Int32))] [(.int (0 : Int32))])) _
        refine XS.ifYes X0.here hx rfl (pc0 := 17) (pc' := 22) rfl (hb hby d4_17) rfl ((if0 _ _).trans (flt (by decide : ¬ ((0 : Int32) < (0 : Int32)))).2.2.2) (by decide) (by decide) ?_
        show Steps p.tables e below (s₁.setTop (mkF m 22 #[.val (.ref a1), .val (.ref a2), .val (.int (1 : Int32)), .val (.int (1 : Int32))] [])) _
        refine XS.iloadN X0.here hx rfl (hb hby d4_22) rfl ?_
        show Steps p.tables e below (s₁.setTop (mkF m 23 #[.val (.ref a1), .val (.ref a2), .val (.int (1 : Int32)), .val (.int (1 : Int32))] [(.int (1 : Int32))])) _
        refine XS.aloadN X0.here hx rfl (hb hby d4_23) rfl rfl ?_
        show Steps p.tables e below (s₁.setTop (mkF m 24 #[.val (.ref a1), .val (.ref a2), .val (.int (1 : Int32)), .val (.int (1 : Int32))] [(.ref a1), (.int (1 : Int32))])) _
        refine XS.iloadN X0.here hx rfl (hb hby d4_24) rfl ?_
        exact kt
      obtain ⟨cl66, Ar66, qk66, Sz66, Nn66, Hh66, Gg66⟩ := id V1
      have hin66 : ¬ ((1 : Int32) < 0 ∨ cl66.slots.size ≤ ((1 : Int32)).toNatClampNeg) := inb_of Sz66 ⟨by decide, by decide⟩
      have hat66 : cl66.slots[((1 : Int32)).toNatClampNeg]? = some (.double (FP.i2d x1)) := Hh66.at hin66 rfl
      have pre67 : ∀ t, Steps p.tables e below (s₁.setTop (mkF m 28 #[.val (.ref a1), .val (.ref a2), .val (.int (1 : Int32)), .val (.int (1 : Int32))] [(.int (1 : Int32)), (.ref a2), (.double (FP.i2d x1)), (.int (1 : Int32))])) t → Steps p.tables e below (s₁.setTop (entryFrame m #[(.ref a1), (.ref a2)] 4)) t := fun t kt => by
        refine pre65 _ ?_
        show Steps p.tables e below (s₁.setTop (mkF m 25 #[.val (.ref a1), .val (.ref a2), .val (.int (1 : Int32)), .val (.int (1 : Int32))] [(.int (1 : Int32)), (.ref a1), (.int (1 : Int32))])) _
        refine X0.daload hx (j := (1 : Int32)) (v := (.double (FP.i2d x1))) (by rw [e0]; exact Ar66.1) (State.isArrayOf_alike hZ.alike Ar66.2.1) Ar66.2.2 hin66 hat66 (g := (mkF m 25 #[.val (.ref a1), .val (.ref a2), .val (.int (1 : Int32)), .val (.int (1 : Int32))] [(.int (1 : Int32)), (.ref a1), (.int (1 : Int32))])) rfl rfl (hb hby d4_25) _ ?_
        show Steps p.tables e below (s₁.setTop (mkF m 26 #[.val (.ref a1), .val (.ref a2), .val (.int (1 : Int32)), .val (.int (1 : Int32))] [(.double (FP.i2d x1)), (.int (1 : Int32))])) _
        refine XS.aloadN X0.here hx rfl (hb hby d4_26) rfl rfl ?_
        show Steps p.tables e below (s₁.setTop (mkF m 27 #[.val (.ref a1), .val (.ref a2), .val (.int (1 : Int32)), .val (.int (1 : Int32))] [(.ref a2), (.double (FP.i2d x1)), (.int (1 : Int32))])) _
        refine XS.iloadN X0.here hx rfl (hb hby d4_27) rfl ?_
        exact kt
      obtain ⟨cl68, Ar68, qk68, Sz68, Nn68, Hh68, Gg68⟩ := id V2
      have hin68 : ¬ ((1 : Int32) < 0 ∨ cl68.slots.size ≤ ((1 : Int32)).toNatClampNeg) := inb_of Sz68 ⟨by decide, by decide⟩
      have hat68 : cl68.slots[((1 : Int32)).toNatClampNeg]? = some (.double (FP.i2d y1)) := Hh68.at hin68 rfl
      have pre69 : ∀ t, Steps p.tables e below (s₁.setTop (mkF m 6 #[.val (.ref a1), .val (.ref a2), .val (.int (1 : Int32)), .val (.int (2 : Int32))] [(.ref a1), (.int (2 : Int32))])) t → Steps p.tables e below (s₁.setTop (entryFrame m #[(.ref a1), (.ref a2)] 4)) t := fun t kt => by
        refine pre67 _ ?_
        show Steps p.tables e below (s₁.setTop (mkF m 28 #[.val (.ref a1), .val (.ref a2), .val (.int (1 : Int32)), .val (.int (1 : Int32))] [(.int (1 : Int32)), (.ref a2), (.double (FP.i2d x1)), (.int (1 : Int32))])) _
        refine X0.daload hx (j := (1 : Int32)) (v := (.double (FP.i2d y1))) (by rw [e0]; exact Ar68.1) (State.isArrayOf_alike hZ.alike Ar68.2.1) Ar68.2.2 hin68 hat68 (g := (mkF m 28 #[.val (.ref a1), .val (.ref a2), .val (.int (1 : Int32)), .val (.int (1 : Int32))] [(.int (1 : Int32)), (.ref a2), (.double (FP.i2d x1)), (.int (1 : Int32))])) rfl rfl (hb hby d4_28) _ ?_
        show Steps p.tables e below (s₁.setTop (mkF m 29 #[.val (.ref a1), .val (.ref a2), .val (.int (1 : Int32)), .val (.int (1 : Int32))] [(.double (FP.i2d y1)), (.double (FP.i2d x1)), (.int (1 : Int32))])) _
        refine XS.dcmpS X0.here hx rfl (hb hby d4_29) rfl (own_d0 h16d _) ?_
        show Steps p.tables e below (s₁.setTop (mkF m 30 #[.val (.ref a1), .val (.ref a2), .val (.int (1 : Int32)), .val (.int (1 : Int32))] [(.int (0 : Int32)), (.int (1 : Int32))])) _
        refine XS.ifYes X0.here hx rfl (pc0 := 30) (pc' := 37) rfl (hb hby d4_30) rfl ((if0 _ _).trans (flt (by decide : ¬ ((0 : Int32) < (0 : Int32)))).2.1) (by decide) (by decide) ?_
        show Steps p.tables e below (s₁.setTop (mkF m 37 #[.val (.ref a1), .val (.ref a2), .val (.int (1 : Int32)), .val (.int (1 : Int32))] [(.int (1 : Int32))])) _
        refine XS.iconst X0.here hx rfl (hb hby d4_37) ?_
        show Steps p.tables e below (s₁.setTop (mkF m 38 #[.val (.ref a1), .val (.ref a2), .val (.int (1 : Int32)), .val (.int (1 : Int32))] [(.int (0 : Int32)), (.int (1 : Int32))])) _
        refine XS.ior X0.here hx rfl (hb hby d4_38) rfl ?_
        show Steps p.tables e below (s₁.setTop (mkF m 39 #[.val (.ref a1), .val (.ref a2), .val (.int (1 : Int32)), .val (.int (1 : Int32))] [(.int ((1 : Int32) ||| (0 : Int32)))])) _
        show Steps p.tables e below (s₁.setTop (mkF m 39 #[.val (.ref a1), .val (.ref a2), .val (.int (1 : Int32)), .val (.int (1 : Int32))] [(.int (1 : Int32))])) _
        refine XS.istoreN X0.here hx rfl (hb hby d4_39) rfl (l' := #[.val (.ref a1), .val (.ref a2), .val (.int (1 : Int32)), .val (.int (1 : Int32))]) rfl ?_
        show Steps p.tables e below (s₁.setTop (mkF m 40 #[.val (.ref a1), .val (.ref a2), .val (.int (1 : Int32)), .val (.int (1 : Int32))] [])) _
        refine XS.iinc X0.here hx rfl (hb hby d4_40) rfl (l' := #[.val (.ref a1), .val (.ref a2), .val (.int (1 : Int32)), .val (.int ((1 : Int32) + (1 : Int32)))]) rfl ?_
        show Steps p.tables e below (s₁.setTop (mkF m 43 #[.val (.ref a1), .val (.ref a2), .val (.int (1 : Int32)), .val (.int ((1 : Int32) + (1 : Int32)))] [])) _
        show Steps p.tables e below (s₁.setTop (mkF m 43 #[.val (.ref a1), .val (.ref a2), .val (.int (1 : Int32)), .val (.int (2 : Int32))] [])) _
        refine XS.goto X0.here hx rfl (pc0 := 43) (pc' := 4) rfl (hb hby d4_43) (by decide) (by decide) ?_
        show Steps p.tables e below (s₁.setTop (mkF m 4 #[.val (.ref a1), .val (.ref a2), .val (.int (1 : Int32)), .val (.int (2 : Int32))] [])) _
        refine XS.iloadN X0.here hx rfl (hb hby d4_4) rfl ?_
        show Steps p.tables e below (s₁.setTop (mkF m 5 #[.val (.ref a1), .val (.ref a2), .val (.int (1 : Int32)), .val (.int (2 : Int32))] [(.int (2 : Int32))])) _
        refine XS.aloadN X0.here hx rfl (hb hby d4_5) rfl rfl ?_
        exact kt
      obtain ⟨cl70, Ar70, qk70, Sz70, Nn70, Hh70, Gg70⟩ := id V1
      have pre71 : ∀ t, Steps p.tables e below (s₁.setTop (mkF m 10 #[.val (.ref a1), .val (.ref a2), .val (.int (1 : Int32)), .val (.int (2 : Int32))] [])) t → Steps p.tables e below (s₁.setTop (entryFrame m #[(.ref a1), (.ref a2)] 4)) t := fun t kt => by
        refine pre69 _ ?_
        show Steps p.tables e below (s₁.setTop (mkF m 6 #[.val (.ref a1), .val (.ref a2), .val (.int (1 : Int32)), .val (.int (2 : Int32))] [(.ref a1), (.int (2 : Int32))])) _
        refine X0.arraylength hx (by rw [e0]; exact Ar70.1) (State.isArrayOf_alike hZ.alike Ar70.2.1) (g := (mkF m 6 #[.val (.ref a1), .val (.ref a2), .val (.int (1 : Int32)), .val (.int (2 : Int32))] [(.ref a1), (.int (2 : Int32))])) rfl rfl (hb hby d4_6) _ ?_
        rw [len_of Sz70 Nn70]
        show Steps p.tables e below (s₁.setTop (mkF m 7 #[.val (.ref a1), .val (.ref a2), .val (.int (1 : Int32)), .val (.int (2 : Int32))] [(.int (3 : Int32)), (.int (2 : Int32))])) _
        refine XS.icmpNo X0.here hx rfl (hb hby d4_7) rfl (tlt (by decide : (2 : Int32) < (3 : Int32))).2.1 ?_
        exact kt
      rcases own_tri x2 y2 with ⟨h72a, h72b⟩ | h72c | ⟨h72d, h72e, h72f⟩
      · have pre73 : ∀ t, Steps p.tables e below (s₁.setTop (mkF m 12 #[.val (.ref a1), .val (.ref a2), .val (.int (1 : Int32)), .val (.int (2 : Int32))] [(.int (2 : Int32)), (.ref a1)])) t → Steps p.tables e below (s₁.setTop (entryFrame m #[(.ref a1), (.ref a2)] 4)) t := fun t kt => by
          refine pre71 _ ?_
          show Steps p.tables e below (s₁.setTop (mkF m 10 #[.val (.ref a1), .val (.ref a2), .val (.int (1 : Int32)), .val (.int (2 : Int32))] [])) _
          refine XS.aloadN X0.here hx rfl (hb hby d4_10) rfl rfl ?_
          show Steps p.tables e below (s₁.setTop (mkF m 11 #[.val (.ref a1), .val (.ref a2), .val (.int (1 : Int32)), .val (.int (2 : Int32))] [(.ref a1)])) _
          refine XS.iloadN X0.here hx rfl (hb hby d4_11) rfl ?_
          exact kt
        obtain ⟨cl74, Ar74, qk74, Sz74, Nn74, Hh74, Gg74⟩ := id V1
        have hin74 : ¬ ((2 : Int32) < 0 ∨ cl74.slots.size ≤ ((2 : Int32)).toNatClampNeg) := inb_of Sz74 ⟨by decide, by decide⟩
        have hat74 : cl74.slots[((2 : Int32)).toNatClampNeg]? = some (.double (FP.i2d x2)) := Hh74.at hin74 rfl
        have pre75 : ∀ t, Steps p.tables e below (s₁.setTop (mkF m 15 #[.val (.ref a1), .val (.ref a2), .val (.int (1 : Int32)), .val (.int (2 : Int32))] [(.int (2 : Int32)), (.ref a2), (.double (FP.i2d x2))])) t → Steps p.tables e below (s₁.setTop (entryFrame m #[(.ref a1), (.ref a2)] 4)) t := fun t kt => by
          refine pre73 _ ?_
          show Steps p.tables e below (s₁.setTop (mkF m 12 #[.val (.ref a1), .val (.ref a2), .val (.int (1 : Int32)), .val (.int (2 : Int32))] [(.int (2 : Int32)), (.ref a1)])) _
          refine X0.daload hx (j := (2 : Int32)) (v := (.double (FP.i2d x2))) (by rw [e0]; exact Ar74.1) (State.isArrayOf_alike hZ.alike Ar74.2.1) Ar74.2.2 hin74 hat74 (g := (mkF m 12 #[.val (.ref a1), .val (.ref a2), .val (.int (1 : Int32)), .val (.int (2 : Int32))] [(.int (2 : Int32)), (.ref a1)])) rfl rfl (hb hby d4_12) _ ?_
          show Steps p.tables e below (s₁.setTop (mkF m 13 #[.val (.ref a1), .val (.ref a2), .val (.int (1 : Int32)), .val (.int (2 : Int32))] [(.double (FP.i2d x2))])) _
          refine XS.aloadN X0.here hx rfl (hb hby d4_13) rfl rfl ?_
          show Steps p.tables e below (s₁.setTop (mkF m 14 #[.val (.ref a1), .val (.ref a2), .val (.int (1 : Int32)), .val (.int (2 : Int32))] [(.ref a2), (.double (FP.i2d x2))])) _
          refine XS.iloadN X0.here hx rfl (hb hby d4_14) rfl ?_
          exact kt
        obtain ⟨cl76, Ar76, qk76, Sz76, Nn76, Hh76, Gg76⟩ := id V2
        have hin76 : ¬ ((2 : Int32) < 0 ∨ cl76.slots.size ≤ ((2 : Int32)).toNatClampNeg) := inb_of Sz76 ⟨by decide, by decide⟩
        have hat76 : cl76.slots[((2 : Int32)).toNatClampNeg]? = some (.double (FP.i2d y2)) := Hh76.at hin76 rfl
        have pre77 : ∀ t, Steps p.tables e below (s₁.setTop (mkF m 25 #[.val (.ref a1), .val (.ref a2), .val (.int (1 : Int32)), .val (.int (2 : Int32))] [(.int (2 : Int32)), (.ref a1), (.int (1 : Int32))])) t → Steps p.tables e below (s₁.setTop (entryFrame m #[(.ref a1), (.ref a2)] 4)) t := fun t kt => by
          refine pre75 _ ?_
          show Steps p.tables e below (s₁.setTop (mkF m 15 #[.val (.ref a1), .val (.ref a2), .val (.int (1 : Int32)), .val (.int (2 : Int32))] [(.int (2 : Int32)), (.ref a2), (.double (FP.i2d x2))])) _
          refine X0.daload hx (j := (2 : Int32)) (v := (.double (FP.i2d y2))) (by rw [e0]; exact Ar76.1) (State.isArrayOf_alike hZ.alike Ar76.2.1) Ar76.2.2 hin76 hat76 (g := (mkF m 15 #[.val (.ref a1), .val (.ref a2), .val (.int (1 : Int32)), .val (.int (2 : Int32))] [(.int (2 : Int32)), (.ref a2), (.double (FP.i2d x2))])) rfl rfl (hb hby d4_15) _ ?_
          show Steps p.tables e below (s₁.setTop (mkF m 16 #[.val (.ref a1), .val (.ref a2), .val (.int (1 : Int32)), .val (.int (2 : Int32))] [(.double (FP.i2d y2)), (.double (FP.i2d x2))])) _
          refine XS.dcmpS X0.here hx rfl (hb hby d4_16) rfl (own_d1 h72a _) ?_
          show Steps p.tables e below (s₁.setTop (mkF m 17 #[.val (.ref a1), .val (.ref a2), .val (.int (1 : Int32)), .val (.int (2 : Int32))] [(.int (-1 : Int32))])) _
          refine XS.ifYes X0.here hx rfl (pc0 := 17) (pc' := 22) rfl (hb hby d4_17) rfl ((if0 _ _).trans (flt (by decide : ¬ ((0 : Int32) < (-1 : Int32)))).2.2.2) (by decide) (by decide) ?_
          show Steps p.tables e below (s₁.setTop (mkF m 22 #[.val (.ref a1), .val (.ref a2), .val (.int (1 : Int32)), .val (.int (2 : Int32))] [])) _
          refine XS.iloadN X0.here hx rfl (hb hby d4_22) rfl ?_
          show Steps p.tables e below (s₁.setTop (mkF m 23 #[.val (.ref a1), .val (.ref a2), .val (.int (1 : Int32)), .val (.int (2 : Int32))] [(.int (1 : Int32))])) _
          refine XS.aloadN X0.here hx rfl (hb hby d4_23) rfl rfl ?_
          show Steps p.tables e below (s₁.setTop (mkF m 24 #[.val (.ref a1), .val (.ref a2), .val (.int (1 : Int32)), .val (.int (2 : Int32))] [(.ref a1), (.int (1 : Int32))])) _
          refine XS.iloadN X0.here hx rfl (hb hby d4_24) rfl ?_
          exact kt
        obtain ⟨cl78, Ar78, qk78, Sz78, Nn78, Hh78, Gg78⟩ := id V1
        have hin78 : ¬ ((2 : Int32) < 0 ∨ cl78.slots.size ≤ ((2 : Int32)).toNatClampNeg) := inb_of Sz78 ⟨by decide, by decide⟩
        have hat78 : cl78.slots[((2 : Int32)).toNatClampNeg]? = some (.double (FP.i2d x2)) := Hh78.at hin78 rfl
        have pre79 : ∀ t, Steps p.tables e below (s₁.setTop (mkF m 28 #[.val (.ref a1), .val (.ref a2), .val (.int (1 : Int32)), .val (.int (2 : Int32))] [(.int (2 : Int32)), (.ref a2), (.double (FP.i2d x2)), (.int (1 : Int32))])) t → Steps p.tables e below (s₁.setTop (entryFrame m #[(.ref a1), (.ref a2)] 4)) t := fun t kt => by
          refine pre77 _ ?_
          show Steps p.tables e below (s₁.setTop (mkF m 25 #[.val (.ref a1), .val (.ref a2), .val (.int (1 : Int32)), .val (.int (2 : Int32))] [(.int (2 : Int32)), (.ref a1), (.int (1 : Int32))])) _
          refine X0.daload hx (j := (2 : Int32)) (v := (.double (FP.i2d x2))) (by rw [e0]; exact Ar78.1) (State.isArrayOf_alike hZ.alike Ar78.2.1) Ar78.2.2 hin78 hat78 (g := (mkF m 25 #[.val (.ref a1), .val (.ref a2), .val (.int (1 : Int32)), .val (.int (2 : Int32))] [(.int (2 : Int32)), (.ref a1), (.int (1 : Int32))])) rfl rfl (hb hby d4_25) _ ?_
          show Steps p.tables e below (s₁.setTop (mkF m 26 #[.val (.ref a1), .val (.ref a2), .val (.int (1 : Int32)), .val (.int (2 : Int32))] [(.double (FP.i2d x2)), (.int (1 : Int32))])) _
          refine XS.aloadN X0.here hx rfl (hb hby d4_26) rfl rfl ?_
          show Steps p.tables e below (s₁.setTop (mkF m 27 #[.val (.ref a1), .val (.ref a2), .val (.int (1 : Int32)), .val (.int (2 : Int32))] [(.ref a2), (.double (FP.i2d x2)), (.int (1 : Int32))])) _
          refine XS.iloadN X0.here hx rfl (hb hby d4_27) rfl ?_
          exact kt
        obtain ⟨cl80, Ar80, qk80, Sz80, Nn80, Hh80, Gg80⟩ := id V2
        have hin80 : ¬ ((2 : Int32) < 0 ∨ cl80.slots.size ≤ ((2 : Int32)).toNatClampNeg) := inb_of Sz80 ⟨by decide, by decide⟩
        have hat80 : cl80.slots[((2 : Int32)).toNatClampNeg]? = some (.double (FP.i2d y2)) := Hh80.at hin80 rfl
        have pre81 : ∀ t, Steps p.tables e below (s₁.setTop (mkF m 6 #[.val (.ref a1), .val (.ref a2), .val (.int (1 : Int32)), .val (.int (3 : Int32))] [(.ref a1), (.int (3 : Int32))])) t → Steps p.tables e below (s₁.setTop (entryFrame m #[(.ref a1), (.ref a2)] 4)) t := fun t kt => by
          refine pre79 _ ?_
          show Steps p.tables e below (s₁.setTop (mkF m 28 #[.val (.ref a1), .val (.ref a2), .val (.int (1 : Int32)), .val (.int (2 : Int32))] [(.int (2 : Int32)), (.ref a2), (.double (FP.i2d x2)), (.int (1 : Int32))])) _
          refine X0.daload hx (j := (2 : Int32)) (v := (.double (FP.i2d y2))) (by rw [e0]; exact Ar80.1) (State.isArrayOf_alike hZ.alike Ar80.2.1) Ar80.2.2 hin80 hat80 (g := (mkF m 28 #[.val (.ref a1), .val (.ref a2), .val (.int (1 : Int32)), .val (.int (2 : Int32))] [(.int (2 : Int32)), (.ref a2), (.double (FP.i2d x2)), (.int (1 : Int32))])) rfl rfl (hb hby d4_28) _ ?_
          show Steps p.tables e below (s₁.setTop (mkF m 29 #[.val (.ref a1), .val (.ref a2), .val (.int (1 : Int32)), .val (.int (2 : Int32))] [(.double (FP.i2d y2)), (.double (FP.i2d x2)), (.int (1 : Int32))])) _
          refine XS.dcmpS X0.here hx rfl (hb hby d4_29) rfl (own_d1 h72a _) ?_
          show Steps p.tables e below (s₁.setTop (mkF m 30 #[.val (.ref a1), .val (.ref a2), .val (.int (1 : Int32)), .val (.int (2 : Int32))] [(.int (-1 : Int32)), (.int (1 : Int32))])) _
          refine XS.ifNo X0.here hx rfl (hb hby d4_30) rfl ((if0 _ _).trans (tlt (by decide : (-1 : Int32) < (0 : Int32))).2.1) ?_
          show Steps p.tables e below (s₁.setTop (mkF m 33 #[.val (.ref a1), .val (.ref a2), .val (.int (1 : Int32)), .val (.int (2 : Int32))] [(.int (1 : Int32))])) _
          refine XS.iconst X0.here hx rfl (hb hby d4_33) ?_
          show Steps p.tables e below (s₁.setTop (mkF m 34 #[.val (.ref a1), .val (.ref a2), .val (.int (1 : Int32)), .val (.int (2 : Int32))] [(.int (1 : Int32)), (.int (1 : Int32))])) _
          refine XS.goto X0.here hx rfl (pc0 := 34) (pc' := 38) rfl (hb hby d4_34) (by decide) (by decide) ?_
          show Steps p.tables e below (s₁.setTop (mkF m 38 #[.val (.ref a1), .val (.ref a2), .val (.int (1 : Int32)), .val (.int (2 : Int32))] [(.int (1 : Int32)), (.int (1 : Int32))])) _
          refine XS.ior X0.here hx rfl (hb hby d4_38) rfl ?_
          show Steps p.tables e below (s₁.setTop (mkF m 39 #[.val (.ref a1), .val (.ref a2), .val (.int (1 : Int32)), .val (.int (2 : Int32))] [(.int ((1 : Int32) ||| (1 : Int32)))])) _
          show Steps p.tables e below (s₁.setTop (mkF m 39 #[.val (.ref a1), .val (.ref a2), .val (.int (1 : Int32)), .val (.int (2 : Int32))] [(.int (1 : Int32))])) _
          refine XS.istoreN X0.here hx rfl (hb hby d4_39) rfl (l' := #[.val (.ref a1), .val (.ref a2), .val (.int (1 : Int32)), .val (.int (2 : Int32))]) rfl ?_
          show Steps p.tables e below (s₁.setTop (mkF m 40 #[.val (.ref a1), .val (.ref a2), .val (.int (1 : Int32)), .val (.int (2 : Int32))] [])) _
          refine XS.iinc X0.here hx rfl (hb hby d4_40) rfl (l' := #[.val (.ref a1), .val (.ref a2), .val (.int (1 : Int32)), .val (.int ((2 : Int32) + (1 : Int32)))]) rfl ?_
          show Steps p.tables e below (s₁.setTop (mkF m 43 #[.val (.ref a1), .val (.ref a2), .val (.int (1 : Int32)), .val (.int ((2 : Int32) + (1 : Int32)))] [])) _
          show Steps p.tables e below (s₁.setTop (mkF m 43 #[.val (.ref a1), .val (.ref a2), .val (.int (1 : Int32)), .val (.int (3 : Int32))] [])) _
          refine XS.goto X0.here hx rfl (pc0 := 43) (pc' := 4) rfl (hb hby d4_43) (by decide) (by decide) ?_
          show Steps p.tables e below (s₁.setTop (mkF m 4 #[.val (.ref a1), .val (.ref a2), .val (.int (1 : Int32)), .val (.int (3 : Int32))] [])) _
          refine XS.iloadN X0.here hx rfl (hb hby d4_4) rfl ?_
          show Steps p.tables e below (s₁.setTop (mkF m 5 #[.val (.ref a1), .val (.ref a2), .val (.int (1 : Int32)), .val (.int (3 : Int32))] [(.int (3 : Int32))])) _
          refine XS.aloadN X0.here hx rfl (hb hby d4_5) rfl rfl ?_
          exact kt
        obtain ⟨cl82, Ar82, qk82, Sz82, Nn82, Hh82, Gg82⟩ := id V1
        have pre83 : ∀ t, Steps p.tables e below (s₁.setTop (mkF m 47 #[.val (.ref a1), .val (.ref a2), .val (.int (1 : Int32)), .val (.int (3 : Int32))] [(.int (1 : Int32))])) t → Steps p.tables e below (s₁.setTop (entryFrame m #[(.ref a1), (.ref a2)] 4)) t := fun t kt => by
          refine pre81 _ ?_
          show Steps p.tables e below (s₁.setTop (mkF m 6 #[.val (.ref a1), .val (.ref a2), .val (.int (1 : Int32)), .val (.int (3 : Int32))] [(.ref a1), (.int (3 : Int32))])) _
          refine X0.arraylength hx (by rw [e0]; exact Ar82.1) (State.isArrayOf_alike hZ.alike Ar82.2.1) (g := (mkF m 6 #[.val (.ref a1), .val (.ref a2), .val (.int (1 : Int32)), .val (.int (3 : Int32))] [(.ref a1), (.int (3 : Int32))])) rfl rfl (hb hby d4_6) _ ?_
          rw [len_of Sz82 Nn82]
          show Steps p.tables e below (s₁.setTop (mkF m 7 #[.val (.ref a1), .val (.ref a2), .val (.int (1 : Int32)), .val (.int (3 : Int32))] [(.int (3 : Int32)), (.int (3 : Int32))])) _
          refine XS.icmpYes X0.here hx rfl (pc0 := 7) (pc' := 46) rfl (hb hby d4_7) rfl (flt (by decide : ¬ ((3 : Int32) < (3 : Int32)))).2.1 (by decide) (by decide) ?_
          show Steps p.tables e below (s₁.setTop (mkF m 46 #[.val (.ref a1), .val (.ref a2), .val (.int (1 : Int32)), .val (.int (3 : Int32))] [])) _
          refine XS.iloadN X0.here hx rfl (hb hby d4_46) rfl ?_
          exact kt
        have ev : own_dom [(x0, y0), (x1, y1), (x2, y2)] (0 : Int32) = (1 : Int32) := by simp only [own_dom, h4a, h4b, h16e, h16f, h72a, h72b, if_true, if_false]; try decide
        obtain ⟨fs, hr, hrun, hended, hW, hsame⟩ := X0.leave (v := (some (.int (1 : Int32)))) (fun h => by rw [Bd.returns] at h; cases h)
        refine ⟨_, _, pre83 _ ?_, hrun, hended, _, _, rfl, ?_, ⟨_, rfl⟩, hW, hsame.mono (by decide) (by decide)⟩
        · show Steps p.tables e below (s₁.setTop (mkF m 47 #[.val (.ref a1), .val (.ref a2), .val (.int (1 : Int32)), .val (.int (3 : Int32))] [(.int (1 : Int32))])) _
          exact retN X0 hx (t := .boolean) Bd.returns (by simp) (hb hby d4_47) hr
        · show Q4m3 Z a1 a2 k1 k2 x0 x1 x2 y0 y1 y2 h0 n0 _ s₁.heap _
          rw [e0]
          exact ⟨by rw [ev], N0, rfl⟩
      · have pre84 : ∀ t, Steps p.tables e below (s₁.setTop (mkF m 12 #[.val (.ref a1), .val (.ref a2), .val (.int (1 : Int32)), .val (.int (2 : Int32))] [(.int (2 : Int32)), (.ref a1)])) t → Steps p.tables e below (s₁.setTop (entryFrame m #[(.ref a1), (.ref a2)] 4)) t := fun t kt => by
          refine pre71 _ ?_
          show Steps p.tables e below (s₁.setTop (mkF m 10 #[.val (.ref a1), .val (.ref a2), .val (.int (1 : Int32)), .val (.int (2 : Int32))] [])) _
          refine XS.aloadN X0.here hx rfl (hb hby d4_10) rfl rfl ?_
          show Steps p.tables e below (s₁.setTop (mkF m 11 #[.val (.ref a1), .val (.ref a2), .val (.int (1 : Int32)), .val (.int (2 : Int32))] [(.ref a1)])) _
          refine XS.iloadN X0.here hx rfl (hb hby d4_11) rfl ?_
          exact kt
        obtain ⟨cl85, Ar85, qk85, Sz85, Nn85, Hh85, Gg85⟩ := id V1
        have hin85 : ¬ ((2 : Int32) < 0 ∨ cl85.slots.size ≤ ((2 : Int32)).toNatClampNeg) := inb_of Sz85 ⟨by decide, by decide⟩
        have hat85 : cl85.slots[((2 : Int32)).toNatClampNeg]? = some (.double (FP.i2d x2)) := Hh85.at hin85 rfl
        have pre86 : ∀ t, Steps p.tables e below (s₁.setTop (mkF m 15 #[.val (.ref a1), .val (.ref a2), .val (.int (1 : Int32)), .val (.int (2 : Int32))] [(.int (2 : Int32)), (.ref a2), (.double (FP.i2d x2))])) t → Steps p.tables e below (s₁.setTop (entryFrame m #[(.ref a1), (.ref a2)] 4)) t := fun t kt => by
          refine pre84 _ ?_
          show Steps p.tables e below (s₁.setTop (mkF m 12 #[.val (.ref a1), .val (.ref a2), .val (.int (1 : Int32)), .val (.int (2 : Int32))] [(.int (2 : Int32)), (.ref a1)])) _
          refine X0.daload hx (j := (2 : Int32)) (v := (.double (FP.i2d x2))) (by rw [e0]; exact Ar85.1) (State.isArrayOf_alike hZ.alike Ar85.2.1) Ar85.2.2 hin85 hat85 (g := (mkF m 12 #[.val (.ref a1), .val (.ref a2), .val (.int (1 : Int32)), .val (.int (2 : Int32))] [(.int (2 : Int32)), (.ref a1)])) rfl rfl (hb hby d4_12) _ ?_
          show Steps p.tables e below (s₁.setTop (mkF m 13 #[.val (.ref a1), .val (.ref a2), .val (.int (1 : Int32)), .val (.int (2 : Int32))] [(.double (FP.i2d x2))])) _
          refine XS.aloadN X0.here hx rfl (hb hby d4_13) rfl rfl ?_
          show Steps p.tables e below (s₁.setTop (mkF m 14 #[.val (.ref a1), .val (.ref a2), .val (.int (1 : Int32)), .val (.int (2 : Int32))] [(.ref a2), (.double (FP.i2d x2))])) _
          refine XS.iloadN X0.here hx rfl (hb hby d4_14) rfl ?_
          exact kt
        obtain ⟨cl87, Ar87, qk87, Sz87, Nn87, Hh87, Gg87⟩ := id V2
        have hin87 : ¬ ((2 : Int32) < 0 ∨ cl87.slots.size ≤ ((2 : Int32)).toNatClampNeg) := inb_of Sz87 ⟨by decide, by decide⟩
        have hat87 : cl87.slots[((2 : Int32)).toNatClampNeg]? = some (.double (FP.i2d y2)) := Hh87.at hin87 rfl
        have pre88 : ∀ t, Steps p.tables e below (s₁.setTop (mkF m 21 #[.val (.ref a1), .val (.ref a2), .val (.int (1 : Int32)), .val (.int (2 : Int32))] [(.int (0 : Int32))])) t → Steps p.tables e below (s₁.setTop (entryFrame m #[(.ref a1), (.ref a2)] 4)) t := fun t kt => by
          refine pre86 _ ?_
          show Steps p.tables e below (s₁.setTop (mkF m 15 #[.val (.ref a1), .val (.ref a2), .val (.int (1 : Int32)), .val (.int (2 : Int32))] [(.int (2 : Int32)), (.ref a2), (.double (FP.i2d x2))])) _
          refine X0.daload hx (j := (2 : Int32)) (v := (.double (FP.i2d y2))) (by rw [e0]; exact Ar87.1) (State.isArrayOf_alike hZ.alike Ar87.2.1) Ar87.2.2 hin87 hat87 (g := (mkF m 15 #[.val (.ref a1), .val (.ref a2), .val (.int (1 : Int32)), .val (.int (2 : Int32))] [(.int (2 : Int32)), (.ref a2), (.double (FP.i2d x2))])) rfl rfl (hb hby d4_15) _ ?_
          show Steps p.tables e below (s₁.setTop (mkF m 16 #[.val (.ref a1), .val (.ref a2), .val (.int (1 : Int32)), .val (.int (2 : Int32))] [(.double (FP.i2d y2)), (.double (FP.i2d x2))])) _
          refine XS.dcmpS X0.here hx rfl (hb hby d4_16) rfl (own_d2 h72c _) ?_
          show Steps p.tables e below (s₁.setTop (mkF m 17 #[.val (.ref a1), .val (.ref a2), .val (.int (1 : Int32)), .val (.int (2 : Int32))] [(.int (1 : Int32))])) _
          refine XS.ifNo X0.here hx rfl (hb hby d4_17) rfl ((if0 _ _).trans (tlt (by decide : (0 : Int32) < (1 : Int32))).2.2.2) ?_
          show Steps p.tables e below (s₁.setTop (mkF m 20 #[.val (.ref a1), .val (.ref a2), .val (.int (1 : Int32)), .val (.int (2 : Int32))] [])) _
          refine XS.iconst X0.here hx rfl (hb hby d4_20) ?_
          exact kt
        have ev : own_dom [(x0, y0), (x1, y1), (x2, y2)] (0 : Int32) = (0 : Int32) := by simp only [own_dom, h4a, h4b, h16e, h16f, h72c, if_true, if_false]; try decide
        obtain ⟨fs, hr, hrun, hended, hW, hsame⟩ := X0.leave (v := (some (.int (0 : Int32)))) (fun h => by rw [Bd.returns] at h; cases h)
        refine ⟨_, _, pre88 _ ?_, hrun, hended, _, _, rfl, ?_, ⟨_, rfl⟩, hW, hsame.mono (by decide) (by decide)⟩
        · show Steps p.tables e below (s₁.setTop (mkF m 21 #[.val (.ref a1), .val (.ref a2), .val (.int (1 : Int32)), .val (.int (2 : Int32))] [(.int (0 : Int32))])) _
          exact retN X0 hx (t := .boolean) Bd.returns (by simp) (hb hby d4_21) hr
        · show Q4m3 Z a1 a2 k1 k2 x0 x1 x2 y0 y1 y2 h0 n0 _ s₁.heap _
          rw [e0]
          exact ⟨by rw [ev], N0, rfl⟩
      · have pre89 : ∀ t, Steps p.tables e below (s₁.setTop (mkF m 12 #[.val (.ref a1), .val (.ref a2), .val (.int (1 : Int32)), .val (.int (2 : Int32))] [(.int (2 : Int32)), (.ref a1)])) t → Steps p.tables e below (s₁.setTop (entryFrame m #[(.ref a1), (.ref a2)] 4)) t := fun t kt => by
          refine pre71 _ ?_
          show Steps p.tables e below (s₁.setTop (mkF m 10 #[.val (.ref a1), .val (.ref a2), .val (.int (1 : Int32)), .val (.int (2 : Int32))] [])) _
          refine XS.aloadN X0.here hx rfl (hb hby d4_10) rfl rfl ?_
          show Steps p.tables e below (s₁.setTop (mkF m 11 #[.val (.ref a1), .val (.ref a2), .val (.int (1 : Int32)), .val (.int (2 : Int32))] [(.ref a1)])) _
          refine XS.iloadN X0.here hx rfl (hb hby d4_11) rfl ?_
          exact kt
        obtain ⟨cl90, Ar90, qk90, Sz90, Nn90, Hh90, Gg90⟩ := id V1
        have hin90 : ¬ ((2 : Int32) < 0 ∨ cl90.slots.size ≤ ((2 : Int32)).toNatClampNeg) := inb_of Sz90 ⟨by decide, by decide⟩
        have hat90 : cl90.slots[((2 : Int32)).toNatClampNeg]? = some (.double (FP.i2d x2)) := Hh90.at hin90 rfl
        have pre91 : ∀ t, Steps p.tables e below (s₁.setTop (mkF m 15 #[.val (.ref a1), .val (.ref a2), .val (.int (1 : Int32)), .val (.int (2 : Int32))] [(.int (2 : Int32)), (.ref a2), (.double (FP.i2d x2))])) t → Steps p.tables e below (s₁.setTop (entryFrame m #[(.ref a1), (.ref a2)] 4)) t := fun t kt => by
          refine pre89 _ ?_
          show Steps p.tables e below (s₁.setTop (mkF m 12 #[.val (.ref a1), .val (.ref a2), .val (.int (1 : Int32)), .val (.int (2 : Int32))] [(.int (2 : Int32)), (.ref a1)])) _
          refine X0.daload hx (j := (2 : Int32)) (v := (.double (FP.i2d x2))) (by rw [e0]; exact Ar90.1) (State.isArrayOf_alike hZ.alike Ar90.2.1) Ar90.2.2 hin90 hat90 (g := (mkF m 12 #[.val (.ref a1), .val (.ref a2), .val (.int (1 : Int32)), .val (.int (2 : Int32))] [(.int (2 : Int32)), (.ref a1)])) rfl rfl (hb hby d4_12) _ ?_
          show Steps p.tables e below (s₁.setTop (mkF m 13 #[.val (.ref a1), .val (.ref a2), .val (.int (1 : Int32)), .val (.int (2 : Int32))] [(.double (FP.i2d x2))])) _
          refine XS.aloadN X0.here hx rfl (hb hby d4_13) rfl rfl ?_
          show Steps p.tables e below (s₁.setTop (mkF m 14 #[.val (.ref a1), .val (.ref a2), .val (.int (1 : Int32)), .val (.int (2 : Int32))] [(.ref a2), (.double (FP.i2d x2))])) _
          refine XS.iloadN X0.here hx rfl (hb hby d4_14) rfl ?_
          exact kt
        obtain ⟨cl92, Ar92, qk92, Sz92, Nn92, Hh92, Gg92⟩ := id V2
        have hin92 : ¬ ((2 : Int32) < 0 ∨ cl92.slots.size ≤ ((2 : Int32)).toNatClampNeg) := inb_of Sz92 ⟨by decide, by decide⟩
        have hat92 : cl92.slots[((2 : Int32)).toNatClampNeg]? = some (.double (FP.i2d y2)) := Hh92.at hin92 rfl
        have pre93 : ∀ t, Steps p.tables e below (s₁.setTop (mkF m 25 #[.val (.ref a1), .val (.ref a2), .val (.int (1 : Int32)), .val (.int (2 : Int32))] [(.int (2 : Int32)), (.ref a1), (.int (1 : Int32))])) t → Steps p.tables e below (s₁.setTop (entryFrame m #[(.ref a1), (.ref a2)] 4)) t := fun t kt => by
          refine pre91 _ ?_
          show Steps p.tables e below (s₁.setTop (mkF m 15 #[.val (.ref a1), .val (.ref a2), .val (.int (1 : Int32)), .val (.int (2 : Int32))] [(.int (2 : Int32)), (.ref a2), (.double (FP.i2d x2))])) _
          refine X0.daload hx (j := (2 : Int32)) (v := (.double (FP.i2d y2))) (by rw [e0]; exact Ar92.1) (State.isArrayOf_alike hZ.alike Ar92.2.1) Ar92.2.2 hin92 hat92 (g := (mkF m 15 #[.val (.ref a1), .val (.ref a2), .val (.int (1 : Int32)), .val (.int (2 : Int32))] [(.int (2 : Int32)), (.ref a2), (.double (FP.i2d x2))])) rfl rfl (hb hby d4_15) _ ?_
          show Steps p.tables e below (s₁.setTop (mkF m 16 #[.val (.ref a1), .val (.ref a2), .val (.int (1 : Int32)), .val (.int (2 : Int32))] [(.double (FP.i2d y2)), (.double (FP.i2d x2))])) _
          refine XS.dcmpS X0.here hx rfl (hb hby d4_16) rfl (own_d0 h72d _) ?_
          show Steps p.tables e below (s₁.setTop (mkF m 17 #[.val (.ref a1), .val (.ref a2), .val (.int (1 : Int32)), .val (.int (2 : Int32))] [(.int (0 : Int32))])) _
          refine XS.ifYes X0.here hx rfl (pc0 := 17) (pc' := 22) rfl (hb hby d4_17) rfl ((if0 _ _).trans (flt (by decide : ¬ ((0 : Int32) < (0 : Int32)))).2.2.2) (by decide) (by decide) ?_
          show Steps p.tables e below (s₁.setTop (mkF m 22 #[.val (.ref a1), .val (.ref a2), .val (.int (1 : Int32)), .val (.int (2 : Int32))] [])) _
          refine XS.iloadN X0.here hx rfl (hb hby d4_22) rfl ?_
          show Steps p.tables e below (s₁.setTop (mkF m 23 #[.val (.ref a1), .val (.ref a2), .val (.int (1 : Int32)), .val (.int (2 : Int32))] [(.int (1 : Int32))])) _
          refine XS.aloadN X0.here hx rfl (hb hby d4_23) rfl rfl ?_
          show Steps p.tables e below (s₁.setTop (mkF m 24 #[.val (.ref a1), .val (.ref a2), .val (.int (1 : Int32)), .val (.int (2 : Int32))] [(.ref a1), (.int (1 : Int32))])) _
          refine XS.iloadN X0.here hx rfl (hb hby d4_24) rfl ?_
          exact kt
        obtain ⟨cl94, Ar94, qk94, Sz94, Nn94, Hh94, Gg94⟩ := id V1
        have hin94 : ¬ ((2 : Int32) < 0 ∨ cl94.slots.size ≤ ((2 : Int32)).toNatClampNeg) := inb_of Sz94 ⟨by decide, by decide⟩
        have hat94 : cl94.slots[((2 : Int32)).toNatClampNeg]? = some (.double (FP.i2d x2)) := Hh94.at hin94 rfl
        have pre95 : ∀ t, Steps p.tables e below (s₁.setTop (mkF m 28 #[.val (.ref a1), .val (.ref a2), .val (.int (1 : Int32)), .val (.int (2 : Int32))] [(.int (2 : Int32)), (.ref a2), (.double (FP.i2d x2)), (.int (1 : Int32))])) t → Steps p.tables e below (s₁.setTop (entryFrame m #[(.ref a1), (.ref a2)] 4)) t := fun t kt => by
          refine pre93 _ ?_
          show Steps p.tables e below (s₁.setTop (mkF m 25 #[.val (.ref a1), .val (.ref a2), .val (.int (1 : Int32)), .val (.int (2 : Int32))] [(.int (2 : Int32)), (.ref a1), (.int (1 : Int32))])) _
          refine X0.daload hx (j := (2 : Int32)) (v := (.double (FP.i2d x2))) (by rw [e0]; exact Ar94.1) (State.isArrayOf_alike hZ.alike Ar94.2.1) Ar94.2.2 hin94 hat94 (g := (mkF m 25 #[.val (.ref a1), .val (.ref a2), .val (.int (1 : Int32)), .val (.int (2 : Int32))] [(.int (2 : Int32)), (.ref a1), (.int (1 : Int32))])) rfl rfl (hb hby d4_25) _ ?_
          show Steps p.tables e below (s₁.setTop (mkF m 26 #[.val (.ref a1), .val (.ref a2), .val (.int (1 : Int32)), .val (.int (2 : Int32))] [(.double (FP.i2d x2)), (.int (1 : Int32))])) _
          refine XS.aloadN X0.here hx rfl (hb hby d4_26) rfl rfl ?_
          show Steps p.tables e below (s₁.setTop (mkF m 27 #[.val (.ref a1), .val (.ref a2), .val (.int (1 : Int32)), .val (.int (2 : Int32))] [(.ref a2), (.double (FP.i2d x2)), (.int (1 : Int32))])) _
          refine XS.iloadN X0.here hx rfl (hb hby d4_27) rfl ?_
          exact kt
        obtain ⟨cl96, Ar96, qk96, Sz96, Nn96, Hh96, Gg96⟩ := id V2
        have hin96 : ¬ ((2 : Int32) < 0 ∨ cl96.slots.size ≤ ((2 : Int32)).toNatClampNeg) := inb_of Sz96 ⟨by decide, by decide⟩
        have hat96 : cl96.slots[((2 : Int32)).toNatClampNeg]? = some (.double (FP.i2d y2)) := Hh96.at hin96 rfl
        have pre97 : ∀ t, Steps p.tables e below (s₁.setTop (mkF m 6 #[.val (.ref a1), .val (.ref a2), .val (.int (1 : Int32)), .val (.int (3 : Int32))] [(.ref a1), (.int (3 : Int32))])) t → Steps p.tables e below (s₁.setTop (entryFrame m #[(.ref a1), (.ref a2)] 4)) t := fun t kt => by
          refine pre95 _ ?_
          show Steps p.tables e below (s₁.setTop (mkF m 28 #[.val (.ref a1), .val (.ref a2), .val (.int (1 : Int32)), .val (.int (2 : Int32))] [(.int (2 : Int32)), (.ref a2), (.double (FP.i2d x2)), (.int (1 : Int32))])) _
          refine X0.daload hx (j := (2 : Int32)) (v := (.double (FP.i2d y2))) (by rw [e0]; exact Ar96.1) (State.isArrayOf_alike hZ.alike Ar96.2.1) Ar96.2.2 hin96 hat96 (g := (mkF m 28 #[.val (.ref a1), .val (.ref a2), .val (.int (1 : Int32)), .val (.int (2 : Int32))] [(.int (2 : Int32)), (.ref a2), (.double (FP.i2d x2)), (.int (1 : Int32))])) rfl rfl (hb hby d4_28) _ ?_
          show Steps p.tables e below (s₁.setTop (mkF m 29 #[.val (.ref a1), .val (.ref a2), .val (.int (1 : Int32)), .val (.int (2 : Int32))] [(.double (FP.i2d y2)), (.double (FP.i2d x2)), (.int (1 : Int32))])) _
          refine XS.dcmpS X0.here hx rfl (hb hby d4_29) rfl (own_d0 h72d _) ?_
          show Steps p.tables e below (s₁.setTop (mkF m 30 #[.val (.ref a1), .val (.ref a2), .val (.int (1 : Int32)), .val (.int (2 : Int32))] [(.int (0 : Int32)), (.int (1 : Int32))])) _
          refine XS.ifYes X0.here hx rfl (pc0 := 30) (pc' := 37) rfl (hb hby d4_30) rfl ((if0 _ _).trans (flt (by decide : ¬ ((0 : Int32) < (0 : Int32)))).2.1) (by decide) (by decide) ?_
          show Steps p.tables e below (s₁.setTop (mkF m 37 #[.val (.ref a1), .val (.ref a2), .val (.int (1 : Int32)), .val (.int (2 : Int32))] [(.int (1 : Int32))])) _
          refine XS.iconst X0.here hx rfl (hb hby d4_37) ?_
          show Steps p.tables e below (s₁.setTop (mkF m 38 #[.val (.ref a1), .val (.ref a2), .val (.int (1 : Int32)), .val (.int (2 : Int32))] [(.int (0 : Int32)), (.int (1 : Int32))])) _
          refine XS.ior X0.here hx rfl (hb hby d4_38) rfl ?_
          show Steps p.tables e below (s₁.setTop (mkF m 39 #[.val (.ref a1), .val (.ref a2), .val (.int (1 : Int32)), .val (.int (2 : Int32))] [(.int ((1 : Int32) ||| (0 : Int32)))])) _
          show Steps p.tables e below (s₁.setTop (mkF m 39 #[.val (.ref a1), .val (.ref a2), .val (.int (1 : Int32)), .val (.int (2 : Int32))] [(.int (1 : Int32))])) _
          refine XS.istoreN X0.here hx rfl (hb hby d4_39) rfl (l' := #[.val (.ref a1), .val (.ref a2), .val (.int (1 : Int32)), .val (.int (2 : Int32))]) rfl ?_
          show Steps p.tables e below (s₁.setTop (mkF m 40 #[.val (.ref a1), .val (.ref a2), .val (.int (1 : Int32)), .val (.int (2 : Int32))] [])) _
          refine XS.iinc X0.here hx rfl (hb hby d4_40) rfl (l' := #[.val (.ref a1), .val (.ref a2), .val (.int (1 : Int32)), .val (.int ((2 : Int32) + (1 : Int32)))]) rfl ?_
          show Steps p.tables e below (s₁.setTop (mkF m 43 #[.val (.ref a1), .val (.ref a2), .val (.int (1 : Int32)), .val (.int ((2 : Int32) + (1 : Int32)))] [])) _
          show Steps p.tables e below (s₁.setTop (mkF m 43 #[.val (.ref a1), .val (.ref a2), .val (.int (1 : Int32)), .val (.int (3 : Int32))] [])) _
          refine XS.goto X0.here hx rfl (pc0 := 43) (pc' := 4) rfl (hb hby d4_43) (by decide) (by decide) ?_
          show Steps p.tables e below (s₁.setTop (mkF m 4 #[.val (.ref a1), .val (.ref a2), .val (.int (1 : Int32)), .val (.int (3 : Int32))] [])) _
          refine XS.iloadN X0.here hx rfl (hb hby d4_4) rfl ?_
          show Steps p.tables e below (s₁.setTop (mkF m 5 #[.val (.ref a1), .val (.ref a2), .val (.int (1 : Int32)), .val (.int (3 : Int32))] [(.int (3 : Int32))])) _
          refine XS.aloadN X0.here hx rfl (hb hby d4_5) rfl rfl ?_
          exact kt
        obtain ⟨cl98, Ar98, qk98, Sz98, Nn98, Hh98, Gg98⟩ := id V1
        have pre99 : ∀ t, Steps p.tables e below (s₁.setTop (mkF m 47 #[.val (.ref a1), .val (.ref a2), .val (.int (1 : Int32)), .val (.int (3 : Int32))] [(.int (1 : Int32))])) t → Steps p.tables e below (s₁.setTop (entryFrame m #[(.ref a1), (.ref a2)] 4)) t := fun t kt => by
          refine pre97 _ ?_
          show Steps p.tables e below (s₁.setTop (mkF m 6 #[.val (.ref a1), .val (.ref a2), .val (.int (1 : Int32)), .val (.int (3 : Int32))] [(.ref a1), (.int (3 : Int32))])) _
          refine X0.arraylength hx (by rw [e0]; exact Ar98.1) (State.isArrayOf_alike hZ.alike Ar98.2.1) (g := (mkF m 6 #[.val (.ref a1), .val (.ref a2), .val (.int (1 : Int32)), .val (.int (3 : Int32))] [(.ref a1), (.int (3 : Int32))])) rfl rfl (hb hby d4_6) _ ?_
          rw [len_of Sz98 Nn98]
          show Steps p.tables e below (s₁.setTop (mkF m 7 #[.val (.ref a1), .val (.ref a2), .val (.int (1 : Int32)), .val (.int (3 : Int32))] [(.int (3 : Int32)), (.int (3 : Int32))])) _
          refine XS.icmpYes X0.here hx rfl (pc0 := 7) (pc' := 46) rfl (hb hby d4_7) rfl (flt (by decide : ¬ ((3 : Int32) < (3 : Int32)))).2.1 (by decide) (by decide) ?_
          show Steps p.tables e below (s₁.setTop (mkF m 46 #[.val (.ref a1), .val (.ref a2), .val (.int (1 : Int32)), .val (.int (3 : Int32))] [])) _
          refine XS.iloadN X0.here hx rfl (hb hby d4_46) rfl ?_
          exact kt
        have ev : own_dom [(x0, y0), (x1, y1), (x2, y2)] (0 : Int32) = (1 : Int32) := by simp only [own_dom, h4a, h4b, h16e, h16f, h72e, h72f, if_true, if_false]; try decide
        obtain ⟨fs, hr, hrun, hended, hW, hsame⟩ := X0.leave (v := (some (.int (1 : Int32)))) (fun h => by rw [Bd.returns] at h; cases h)
        refine ⟨_, _, pre99 _ ?_, hrun, hended, _, _, rfl, ?_, ⟨_, rfl⟩, hW, hsame.mono (by decide) (by decide)⟩
        · show Steps p.tables e below (s₁.setTop (mkF m 47 #[.val (.ref a1), .val (.ref a2), .val (.int (1 : Int32)), .val (.int (3 : Int32))] [(.int (1 : Int32))])) _
          exact retN X0 hx (t := .boolean) Bd.returns (by simp) (hb hby d4_47) hr
        · show Q4m3 Z a1 a2 k1 k2 x0 x1 x2 y0 y1 y2 h0 n0 _ s₁.heap _
          rw [e0]
          exact ⟨by rw [ev], N0, rfl⟩
  · have pre100 : ∀ t, Steps p.tables e below (s₁.setTop (mkF m 12 #[.val (.ref a1), .val (.ref a2), .val (.int (0 : Int32)), .val (.int (0 : Int32))] [(.int (0 : Int32)), (.ref a1)])) t → Steps p.tables e below (s₁.setTop (entryFrame m #[(.ref a1), (.ref a2)] 4)) t := fun t kt => by
      refine pre3 _ ?_
      show Steps p.tables e below (s₁.setTop (mkF m 10 #[.val (.ref a1), .val (.ref a2), .val (.int (0 : Int32)), .val (.int (0 : Int32))] [])) _
      refine XS.aloadN X0.here hx rfl (hb hby d4_10) rfl rfl ?_
      show Steps p.tables e below (s₁.setTop (mkF m 11 #[.val (.ref a1), .val (.ref a2), .val (.int (0 : Int32)), .val (.int (0 : Int32))] [(.ref a1)])) _
      refine XS.iloadN X0.here hx rfl (hb hby d4_11) rfl ?_
      exact kt
    obtain ⟨cl101, Ar101, qk101, Sz101, Nn101, Hh101, Gg101⟩ := id V1
    have hin101 : ¬ ((0 : Int32) < 0 ∨ cl101.slots.size ≤ ((0 : Int32)).toNatClampNeg) := inb_of Sz101 ⟨by decide, by decide⟩
    have hat101 : cl101.slots[((0 : Int32)).toNatClampNeg]? = some (.double (FP.i2d x0)) := Hh101.at hin101 rfl
    have pre102 : ∀ t, Steps p.tables e below (s₁.setTop (mkF m 15 #[.val (.ref a1), .val (.ref a2), .val (.int (0 : Int32)), .val (.int (0 : Int32))] [(.int (0 : Int32)), (.ref a2), (.double (FP.i2d x0))])) t → Steps p.tables e below (s₁.setTop (entryFrame m #[(.ref a1), (.ref a2)] 4)) t := fun t kt => by
      refine pre100 _ ?_
      show Steps p.tables e below (s₁.setTop (mkF m 12 #[.val (.ref a1), .val (.ref a2), .val (.int (0 : Int32)), .val (.int (0 : Int32))] [(.int (0 : Int32)), (.ref a1)])) _
      refine X0.daload hx (j := (0 : Int32)) (v := (.double (FP.i2d x0))) (by rw [e0]; exact Ar101.1) (State.isArrayOf_alike hZ.alike Ar101.2.1) Ar101.2.2 hin101 hat101 (g := (mkF m 12 #[.val (.ref a1), .val (.ref a2), .val (.int (0 : Int32)), .val (.int (0 : Int32))] [(.int (0 : Int32)), (.ref a1)])) rfl rfl (hb hby d4_12) _ ?_
      show Steps p.tables e below (s₁.setTop (mkF m 13 #[.val (.ref a1), .val (.ref a2), .val (.int (0 : Int32)), .val (.int (0 : Int32))] [(.double (FP.i2d x0))])) _
      refine XS.aloadN X0.here hx rfl (hb hby d4_13) rfl rfl ?_
      show Steps p.tables e below (s₁.setTop (mkF m 14 #[.val (.ref a1), .val (.ref a2), .val (.int (0 : Int32)), .val (.int (0 : Int32))] [(.ref a2), (.double (FP.i2d x0))])) _
      refine XS.iloadN X0.here hx rfl (hb hby d4_14) rfl ?_
      exact kt
    obtain ⟨cl103, Ar103, qk103, Sz103, Nn103, Hh103, Gg103⟩ := id V2
    have hin103 : ¬ ((0 : Int32) < 0 ∨ cl103.slots.size ≤ ((0 : Int32)).toNatClampNeg) := inb_of Sz103 ⟨by decide, by decide⟩
    have hat103 : cl103.slots[((0 : Int32)).toNatClampNeg]? = some (.double (FP.i2d y0)) := Hh103.at hin103 rfl
    have pre104 : ∀ t, Steps p.tables e below (s₁.setTop (mkF m 21 #[.val (.ref a1), .val (.ref a2), .val (.int (0 : Int32)), .val (.int (0 : Int32))] [(.int (0 : Int32))])) t → Steps p.tables e below (s₁.setTop (entryFrame m #[(.ref a1), (.ref a2)] 4)) t := fun t kt => by
      refine pre102 _ ?_
      show Steps p.tables e below (s₁.setTop (mkF m 15 #[.val (.ref a1), .val (.ref a2), .val (.int (0 : Int32)), .val (.int (0 : Int32))] [(.int (0 : Int32)), (.ref a2), (.double (FP.i2d x0))])) _
      refine X0.daload hx (j := (0 : Int32)) (v := (.double (FP.i2d y0))) (by rw [e0]; exact Ar103.1) (State.isArrayOf_alike hZ.alike Ar103.2.1) Ar103.2.2 hin103 hat103 (g := (mkF m 15 #[.val (.ref a1), .val (.ref a2), .val (.int (0 : Int32)), .val (.int (0 : Int32))] [(.int (0 : Int32)), (.ref a2), (.double (FP.i2d x0))])) rfl rfl (hb hby d4_15) _ ?_
      show Steps p.tables e below (s₁.setTop (mkF m 16 #[.val (.ref a1), .val (.ref a2), .val (.int (0 : Int32)), .val (.int (0 : Int32))] [(.double (FP.i2d y0)), (.double (FP.i2d x0))])) _
      refine XS.dcmpS X0.here hx rfl (hb hby d4_16) rfl (own_d2 h4c _) ?_
      show Steps p.tables e below (s₁.setTop (mkF m 17 #[.val (.ref a1), .val (.ref a2), .val (.int (0 : Int32)), .val (.int (0 : Int32))] [(.int (1 : Int32))])) _
      refine XS.ifNo X0.here hx rfl (hb hby d4_17) rfl ((if0 _ _).trans (tlt (by decide : (0 : Int32) < (1 : Int32))).2.2.2) ?_
      show Steps p.tables e below (s₁.setTop (mkF m 20 #[.val (.ref a1), .val (.ref a2), .val (.int (0 : Int32)), .val (.int (0 : Int32))] [])) _
      refine XS.iconst X0.here hx rfl (hb hby d4_20) ?_
      exact kt
    have ev : own_dom [(x0, y0), (x1, y1), (x2, y2)] (0 : Int32) = (0 : Int32) := by simp only [own_dom, h4c, if_true, if_false]; try decide
    obtain ⟨fs, hr, hrun, hended, hW, hsame⟩ := X0.leave (v := (some (.int (0 : Int32)))) (fun h => by rw [Bd.returns] at h; cases h)
    refine ⟨_, _, pre104 _ ?_, hrun, hended, _, _, rfl, ?_, ⟨_, rfl⟩, hW, hsame.mono (by decide) (by decide)⟩
    · show Steps p.tables e below (s₁.setTop (mkF m 21 #[.val (.ref a1), .val (.ref a2), .val (.int (0 : Int32)), .val (.int (0 : Int32))] [(.int (0 : Int32))])) _
      exact retN X0 hx (t := .boolean) Bd.returns (by simp) (hb hby d4_21) hr
    · show Q4m3 Z a1 a2 k1 k2 x0 x1 x2 y0 y1 y2 h0 n0 _ s₁.heap _
      rw [e0]
      exact ⟨by rw [ev], N0, rfl⟩
  · have pre105 : ∀ t, Steps p.tables e below (s₁.setTop (mkF m 12 #[.val (.ref a1), .val (.ref a2), .val (.int (0 : Int32)), .val (.int (0 : Int32))] [(.int (0 : Int32)), (.ref a1)])) t → Steps p.tables e below (s₁.setTop (entryFrame m #[(.ref a1), (.ref a2)] 4)) t := fun t kt => by
      refine pre3 _ ?_
      show Steps p.tables e below (s₁.setTop (mkF m 10 #[.val (.ref a1), .val (.ref a2), .val (.int (0 : Int32)), .val (.int (0 : Int32))] [])) _
      refine XS.aloadN X0.here hx rfl (hb hby d4_10) rfl rfl ?_
      show Steps p.tables e below (s₁.setTop (mkF m 11 #[.val (.ref a1), .val (.ref a2), .val (.int (0 : Int32)), .val (.int (0 : Int32))] [(.ref a1)])) _
      refine XS.iloadN X0.here hx rfl (hb hby d4_11) rfl ?_
      exact kt
    obtain ⟨cl106, Ar106, qk106, Sz106, Nn106, Hh106, Gg106⟩ := id V1
    have hin106 : ¬ ((0 : Int32) < 0 ∨ cl106.slots.size ≤ ((0 : Int32)).toNatClampNeg) := inb_of Sz106 ⟨by decide, by decide⟩
    have hat106 : cl106.slots[((0 : Int32)).toNatClampNeg]? = some (.double (FP.i2d x0)) := Hh106.at hin106 rfl
    have pre107 : ∀ t, Steps p.tables e below (s₁.setTop (mkF m 15 #[.val (.ref a1), .val (.ref a2), .val (.int (0 : Int32)), .val (.int (0 : Int32))] [(.int (0 : Int32)), (.ref a2), (.double (FP.i2d x0))])) t → Steps p.tables e below (s₁.setTop (entryFrame m #[(.ref a1), (.ref a2)] 4)) t := fun t kt => by
      refine pre105 _ ?_
      show Steps p.tables e below (s₁.setTop (mkF m 12 #[.val (.ref a1), .val (.ref a2), .val (.int (0 : Int32)), .val (.int (0 : Int32))] [(.int (0 : Int32)), (.ref a1)])) _
      refine X0.daload hx (j := (0 : Int32)) (v := (.double (FP.i2d x0))) (by rw [e0]; exact Ar106.1) (State.isArrayOf_alike hZ.alike Ar106.2.1) Ar106.2.2 hin106 hat106 (g := (mkF m 12 #[.val (.ref a1), .val (.ref a2), .val (.int (0 : Int32)), .val (.int (0 : Int32))] [(.int (0 : Int32)), (.ref a1)])) rfl rfl (hb hby d4_12) _ ?_
      show Steps p.tables e below (s₁.setTop (mkF m 13 #[.val (.ref a1), .val (.ref a2), .val (.int (0 : Int32)), .val (.int (0 : Int32))] [(.double (FP.i2d x0))])) _
      refine XS.aloadN X0.here hx rfl (hb hby d4_13) rfl rfl ?_
      show Steps p.tables e below (s₁.setTop (mkF m 14 #[.val (.ref a1), .val (.ref a2), .val (.int (0 : Int32)), .val (.int (0 : Int32))] [(.ref a2), (.double (FP.i2d x0))])) _
      refine XS.iloadN X0.here hx rfl (hb hby d4_14) rfl ?_
      exact kt
    obtain ⟨cl108, Ar108, qk108, Sz108, Nn108, Hh108, Gg108⟩ := id V2
    have hin108 : ¬ ((0 : Int32) < 0 ∨ cl108.slots.size ≤ ((0 : Int32)).toNatClampNeg) := inb_of Sz108 ⟨by decide, by decide⟩
    have hat108 : cl108.slots[((0 : Int32)).toNatClampNeg]? = some (.double (FP.i2d y0)) := Hh108.at hin108 rfl
    have pre109 : ∀ t, Steps p.tables e below (s₁.setTop (mkF m 25 #[.val (.ref a1), .val (.ref a2), .val (.int (0 : Int32)), .val (.int (0 : Int32))] [(.int (0 : Int32)), (.ref a1), (.int (0 : Int32))])) t → Steps p.tables e below (s₁.setTop (entryFrame m #[(.ref a1), (.ref a2)] 4)) t := fun t kt => by
      refine pre107 _ ?_
      show Steps p.tables e below (s₁.setTop (mkF m 15 #[.val (.ref a1), .val (.ref a2), .val (.int (0 : Int32)), .val (.int (0 : Int32))] [(.int (0 : Int32)), (.ref a2), (.double (FP.i2d x0))])) _
      refine X0.daload hx (j := (0 : Int32)) (v := (.double (FP.i2d y0))) (by rw [e0]; exact Ar108.1) (State.isArrayOf_alike hZ.alike Ar108.2.1) Ar108.2.2 hin108 hat108 (g := (mkF m 15 #[.val (.ref a1), .val (.ref a2), .val (.int (0 : Int32)), .val (.int (0 : Int32))] [(.int (0 : Int32)), (.ref a2), (.double (FP.i2d x0))])) rfl rfl (hb hby d4_15) _ ?_
      show Steps p.tables e below (s₁.setTop (mkF m 16 #[.val (.ref a1), .val (.ref a2), .val (.int (0 : Int32)), .val (.int (0 : Int32))] [(.double (FP.i2d y0)), (.double (FP.i2d x0))])) _
      refine XS.dcmpS X0.here hx rfl (hb hby d4_16) rfl (own_d0 h4d _) ?_
      show Steps p.tables e below (s₁.setTop (mkF m 17 #[.val (.ref a1), .val (.ref a2), .val (.int (0 : Int32)), .val (.int (0 : Int32))] [(.int (0 : Int32))])) _
      refine XS.ifYes X0.here hx rfl (pc0 := 17) (pc' := 22) rfl (hb hby d4_17) rfl ((if0 _ _).trans (flt (by decide : ¬ ((0 : Int32) < (0 : Int32)))).2.2.2) (by decide) (by decide) ?_
      show Steps p.tables e below (s₁.setTop (mkF m 22 #[.val (.ref a1), .val (.ref a2), .val (.int (0 : Int32)), .val (.int (0 : Int32))] [])) _
      refine XS.iloadN X0.here hx rfl (hb hby d4_22) rfl ?_
      show Steps p.tables e below (s₁.setTop (mkF m 23 #[.val (.ref a1), .val (.ref a2), .val (.int (0 : Int32)), .val (.int (0 : Int32))] [(.int (0 : Int32))])) _
      refine XS.aloadN X0.here hx rfl (hb hby d4_23) rfl rfl ?_
      show Steps p.tables e below (s₁.setTop (mkF m 24 #[.val (.ref a1), .val (.ref a2), .val (.int (0 : Int32)), .val (.int (0 : Int32))] [(.ref a1), (.int (0 : Int32))])) _
      refine XS.iloadN X0.here hx rfl (hb hby d4_24) rfl ?_
      exact kt
    obtain ⟨cl110, Ar110, qk110, Sz110, Nn110, Hh110, Gg110⟩ := id V1
    have hin110 : ¬ ((0 : Int32) < 0 ∨ cl110.slots.size ≤ ((0 : Int32)).toNatClampNeg) := inb_of Sz110 ⟨by decide, by decide⟩
    have hat110 : cl110.slots[((0 : Int32)).toNatClampNeg]? = some (.double (FP.i2d x0)) := Hh110.at hin110 rfl
    have pre111 : ∀ t, Steps p.tables e below (s₁.setTop (mkF m 28 #[.val (.ref a1), .val (.ref a2), .val (.int (0 : Int32)), .val (.int (0 : Int32))] [(.int (0 : Int32)), (.ref a2), (.double (FP.i2d x0)), (.int (0 : Int32))])) t → Steps p.tables e below (s₁.setTop (entryFrame m #[(.ref a1), (.ref a2)] 4)) t := fun t kt => by
      refine pre109 _ ?_
      show Steps p.tables e below (s₁.setTop (mkF m 25 #[.val (.ref a1), .val (.ref a2), .val (.int (0 : Int32)), .val (.int (0 : Int32))] [(.int (0 : Int32)), (.ref a1), (.int (0 : Int32))])) _
      refine X0.daload hx (j := (0 : Int32)) (v := (.double (FP.i2d x0))) (by rw [e0]; exact Ar110.1) (State.isArrayOf_alike hZ.alike Ar110.2.1) Ar110.2.2 hin110 hat110 (g := (mkF m 25 #[.val (.ref a1), .val (.ref a2), .val (.int (0 : Int32)), .val (.int (0 : Int32))] [(.int (0 : Int32)), (.ref a1), (.int (0 : Int32))])) rfl rfl (hb hby d4_25) _ ?_
      show Steps p.tables e below (s₁.setTop (mkF m 26 #[.val (.ref a1), .val (.ref a2), .val (.int (0 : Int32)), .val (.int (0 : Int32))] [(.double (FP.i2d x0)), (.int (0 : Int32))])) _
      refine XS.aloadN X0.here hx rfl (hb hby d4_26) rfl rfl ?_
      show Steps p.tables e below (s₁.setTop (mkF m 27 #[.val (.ref a1), .val (.ref a2), .val (.int (0 : Int32)), .val (.int (0 : Int32))] [(.ref a2), (.double (FP.i2d x0)), (.int (0 : Int32))])) _
      refine XS.iloadN X0.here hx rfl (hb hby d4_27) rfl ?_
      exact kt
    obtain ⟨cl112, Ar112, qk112, Sz112, Nn112, Hh112, Gg112⟩ := id V2
    have hin112 : ¬ ((0 : Int32) < 0 ∨ cl112.slots.size ≤ ((0 : Int32)).toNatClampNeg) := inb_of Sz112 ⟨by decide, by decide⟩
    have hat112 : cl112.slots[((0 : Int32)).toNatClampNeg]? = some (.double (FP.i2d y0)) := Hh112.at hin112 rfl
    have pre113 : ∀ t, Steps p.tables e below (s₁.setTop (mkF m 6 #[.val (.ref a1), .val (.ref a2), .val (.int (0 : Int32)), .val (.int (1 : Int32))] [(.ref a1), (.int (1 : Int32))])) t → Steps p.tables e below (s₁.setTop (entryFrame m #[(.ref a1), (.ref a2)] 4)) t := fun t kt => by
      refine pre111 _ ?_
      show Steps p.tables e below (s₁.setTop (mkF m 28 #[.val (.ref a1), .val (.ref a2), .val (.int (0 : Int32)), .val (.int (0 : Int32))] [(.int (0 : Int32)), (.ref a2), (.double (FP.i2d x0)), (.int (0 : Int32))])) _
      refine X0.daload hx (j := (0 : Int32)) (v := (.double (FP.i2d y0))) (by rw [e0]; exact Ar112.1) (State.isArrayOf_alike hZ.alike Ar112.2.1) Ar112.2.2 hin112 hat112 (g := (mkF m 28 #[.val (.ref a1), .val (.ref a2), .val (.int (0 : Int32)), .val (.int (0 : Int32))] [(.int (0 : Int32)), (.ref a2), (.double (FP.i2d x0)), (.int (0 : Int32))])) rfl rfl (hb hby d4_28) _ ?_
      show Steps p.tables e below (s₁.setTop (mkF m 29 #[.val (.ref a1), .val (.ref a2), .val (.int (0 : Int32)), .val (.int (0 : Int32))] [(.double (FP.i2d y0)), (.double (FP.i2d x0)), (.int (0 : Int32))])) _
      refine XS.dcmpS X0.here hx rfl (hb hby d4_29) rfl (own_d0 h4d _) ?_
      show Steps p.tables e below (s₁.setTop (mkF m 30 #[.val (.ref a1), .val (.ref a2), .val (.int (0 : Int32)), .val (.int (0 : Int32))] [(.int (0 : Int32)), (.int (0 : Int32))])) _
      refine XS.ifYes X0.here hx rfl (pc0 := 30) (pc' := 37) rfl (hb hby d4_30) rfl ((if0 _ _).trans (flt (by decide : ¬ ((0 : Int32) < (0 : Int32)))).2.1) (by decide) (by decide) ?_
      show Steps p.tables e below (s₁.setTop (mkF m 37 #[.val (.ref a1), .val (.ref a2), .val (.int (0 : Int32)), .val (.int (0 : Int32))] [(.int (0 : Int32))])) _
      refine XS.iconst X0.here hx rfl (hb hby d4_37) ?_
      show Steps p.tables e below (s₁.setTop (mkF m 38 #[.val (.ref a1), .val (.ref a2), .val (.int (0 : Int32)), .val (.int (0 : Int32))] [(.int (0 : Int32)), (.int (0 : Int32))])) _
      refine XS.ior X0.here hx rfl (hb hby d4_38) rfl ?_
      show Steps p.tables e below (s₁.setTop (mkF m 39 #[.val (.ref a1), .val (.ref a2), .val (.int (0 : Int32)), .val (.int (0 : Int32))] [(.int ((0 : Int32) ||| (0 : Int32)))])) _
      show Steps p.tables e below (s₁.setTop (mkF m 39 #[.val (.ref a1), .val (.ref a2), .val (.int (0 : Int32)), .val (.int (0 : Int32))] [(.int (0 : Int32))])) _
      refine XS.istoreN X0.here hx rfl (hb hby d4_39) rfl (l' := #[.val (.ref a1), .val (.ref a2), .val (.int (0 : Int32)), .val (.int (0 : Int32))]) rfl ?_
      show Steps p.tables e below (s₁.setTop (mkF m 40 #[.val (.ref a1), .val (.ref a2), .val (.int (0 : Int32)), .val (.int (0 : Int32))] [])) _
      refine XS.iinc X0.here hx rfl (hb hby d4_40) rfl (l' := #[.val (.ref a1), .val (.ref a2), .val (.int (0 : Int32)), .val (.int ((0 : Int32) + (1 : Int32)))]) rfl ?_
      show Steps p.tables e below (s₁.setTop (mkF m 43 #[.val (.ref a1), .val (.ref a2), .val (.int (0 : Int32)), .val (.int ((0 : Int32) + (1 : Int32)))] [])) _
      show Steps p.tables e below (s₁.setTop (mkF m 43 #[.val (.ref a1), .val (.ref a2), .val (.int (0 : Int32)), .val (.int (1 : Int32))] [])) _
      refine XS.goto X0.here hx rfl (pc0 := 43) (pc' := 4) rfl (hb hby d4_43) (by decide) (by decide) ?_
      show Steps p.tables e below (s₁.setTop (mkF m 4 #[.val (.ref a1), .val (.ref a2), .val (.int (0 : Int32)), .val (.int (1 : Int32))] [])) _
      refine XS.iloadN X0.here hx rfl (hb hby d4_4) rfl ?_
      show Steps p.tables e below (s₁.setTop (mkF m 5 #[.val (.ref a1), .val (.ref a2), .val (.int (0 : Int32)), .val (.int (1 : Int32))] [(.int (1 : Int32))])) _
      refine XS.aloadN X0.here hx rfl (hb hby d4_5) rfl rfl ?_
      exact kt
    obtain ⟨cl114, Ar114, qk114, Sz114, Nn114, Hh114, Gg114⟩ := id V1
    have pre115 : ∀ t, Steps p.tables e below (s₁.setTop (mkF m 10 #[.val (.ref a1), .val (.ref a2), .val (.int (0 : Int32)), .val (.int (1 : Int32))] [])) t → Steps p.tables e below (s₁.setTop (entryFrame m #[(.ref a1), (.ref a2)] 4)) t := fun t kt => by
      refine pre113 _ ?_
      show Steps p.tables e below (s₁.setTop (mkF m 6 #[.val (.ref a1), .val (.ref a2), .val (.int (0 : Int32)), .val (.int (1 : Int32))] [(.ref a1), (.int (1 : Int32))])) _
      refine X0.arraylength hx (by rw [e0]; exact Ar114.1) (State.isArrayOf_alike hZ.alike Ar114.2.1) (g := (mkF m 6 #[.val (.ref a1), .val (.ref a2), .val (.int (0 : Int32)), .val (.int (1 : Int32))] [(.ref a1), (.int (1 : Int32))])) rfl rfl (hb hby d4_6) _ ?_
      rw [len_of Sz114 Nn114]
      show Steps p.tables e below (s₁.setTop (mkF m 7 #[.val (.ref a1), .val (.ref a2), .val (.int (0 : Int32)), .val (.int (1 : Int32))] [(.int (3 : Int32)), (.int (1 : Int32))])) _
      refine XS.icmpNo X0.here hx rfl (hb hby d4_7) rfl (tlt (by decide : (1 : Int32) < (3 : Int32))).2.1 ?_
      exact kt
    rcases own_tri x1 y1 with ⟨h116a, h116b⟩ | h116c | ⟨h116d, h116e, h116f⟩
    · have pre117 : ∀ t, Steps p.tables e below (s₁.setTop (mkF m 12 #[.val (.ref a1), .val (.ref a2), .val (.int (0 : Int32)), .val (.int (1 : Int32))] [(.int (1 : Int32)), (.ref a1)])) t → Steps p.tables e below (s₁.setTop (entryFrame m #[(.ref a1), (.ref a2)] 4)) t := fun t kt => by
        refine pre115 _ ?_
        show Steps p.tables e below (s₁.setTop (mkF m 10 #[.val (.ref a1), .val (.ref a2), .val (.int (0 : Int32)), .val (.int (1 : Int32))] [])) _
        refine XS.aloadN X0.here hx rfl (hb hby d4_10) rfl rfl ?_
        show Steps p.tables e below (s₁.setTop (mkF m 11 #[.val (.ref a1), .val (.ref a2), .val (.int (0 : Int32)), .val (.int (1 : Int32))] [(.ref a1)])) _
        refine XS.iloadN X0.here hx rfl (hb hby d4_11) rfl ?_
        exact kt
      obtain ⟨cl118, Ar118, qk118, Sz118, Nn118, Hh118, Gg118⟩ := id V1
      have hin118 : ¬ ((1 : Int32) < 0 ∨ cl118.slots.size ≤ ((1 : Int32)).toNatClampNeg) := inb_of Sz118 ⟨by decide, by decide⟩
      have hat118 : cl118.slots[((1 : Int32)).toNatClampNeg]? = some (.double (FP.i2d x1)) := Hh118.at hin118 rfl
      have pre119 : ∀ t, Steps p.tables e below (s₁.setTop (mkF m 15 #[.val (.ref a1), .val (.ref a2), .val (.int (0 : Int32)), .val (.int (1 : Int32))] [(.int (1 : Int32)), (.ref a2), (.double (FP.i2d x1))])) t → Steps p.tables e below (s₁.setTop (entryFrame m #[(.ref a1), (.ref a2)] 4)) t := fun t kt => by
        refine pre117 _ ?_
        show Steps p.tables e below (s₁.setTop (mkF m 12 #[.val (.ref a1), .val (.ref a2), .val (.int (0 : Int32)), .val (.int (1 : Int32))] [(.int (1 : Int32)), (.ref a1)])) _
        refine X0.daload hx (j := (1 : Int32)) (v := (.double (FP.i2d x1))) (by rw [e0]; exact Ar118.1) (State.isArrayOf_alike hZ.alike Ar118.2.1) Ar118.2.2 hin118 hat118 (g := (mkF m 12 #[.val (.ref a1), .val (.ref a2), .val (.int (0 : Int32)), .val (.int (1 : Int32))] [(.int (1 : Int32)), (.ref a1)])) rfl rfl (hb hby d4_12) _ ?_
        show Steps p.tables e below (s₁.setTop (mkF m 13 #[.val (.ref a1), .val (.ref a2), .val (.int (0 : Int32)), .val (.int (1 : Int32))] [(.double (FP.i2d x1))])) _
        refine XS.aloadN X0.here hx rfl (hb hby d4_13) rfl rfl ?_
        show Steps p.tables e below (s₁.setTop (mkF m 14 #[.val (.ref a1), .val (.ref a2), .val (.int (0 : Int32)), .val (.int (1 : Int32))] [(.ref a2), (.double (FP.i2d x1))])) _
        refine XS.iloadN X0.here hx rfl (hb hby d4_14) rfl ?_
        exact kt
      obtain ⟨cl120, Ar120, qk120, Sz120, Nn120, Hh120, Gg120⟩ := id V2
      have hin120 : ¬ ((1 : Int32) < 0 ∨ cl120.slots.size ≤ ((1 : Int32)).toNatClampNeg) := inb_of Sz120 ⟨by decide, by decide⟩
      have hat120 : cl120.slots[((1 : Int32)).toNatClampNeg]? = some (.double (FP.i2d y1)) := Hh120.at hin120 rfl
      have pre121 : ∀ t, Steps p.tables e below (s₁.setTop (mkF m 25 #[.val (.ref a1), .val (.ref a2), .val (.int (0 : Int32)), .val (.int (1 : Int32))] [(.int (1 : Int32)), (.ref a1), (.int (0 : Int32))])) t → Steps p.tables e below (s₁.setTop (entryFrame m #[(.ref a1), (.ref a2)] 4)) t := fun t kt => by
        refine pre119 _ ?_
        show Steps p.tables e below (s₁.setTop (mkF m 15 #[.val (.ref a1), .val (.ref a2), .val (.int (0 : Int32)), .val (.int (1 : Int32))] [(.int (1 : Int32)), (.ref a2), (.double (FP.i2d x1))])) _
        refine X0.daload hx (j := (1 : Int32)) (v := (.double (FP.i2d y1))) (by rw [e0]; exact Ar120.1) (State.isArrayOf_alike hZ.alike Ar120.2.1) Ar120.2.2 hin120 hat120 (g := (mkF m 15 #[.val (.ref a1), .val (.ref a2), .val (.int (0 : Int32)), .val (.int (1 : Int32))] [(.int (1 : Int32)), (.ref a2), (.double (FP.i2d x1))])) rfl rfl (hb hby d4_15) _ ?_
        show Steps p.tables e below (s₁.setTop (mkF m 16 #[.val (.ref a1), .val (.ref a2), .val (.int (0 : Int32)), .val (.int (1 : Int32))] [(.double (FP.i2d y1)), (.double (FP.i2d x1))])) _
        refine XS.dcmpS X0.here hx rfl (hb hby d4_16) rfl (own_d1 h116a _) ?_
        show Steps p.tables e below (s₁.setTop (mkF m 17 #[.val (.ref a1), .val (.ref a2), .val (.int (0 : Int32)), .val (.int (1 : Int32))] [(.int (-1 : Int32))])) _
        refine XS.ifYes X0.here hx rfl (pc0 := 17) (pc' := 22) rfl (hb hby d4_17) rfl ((if0 _ _).trans (flt (by decide : ¬ ((0 : Int32) < (-1 : Int32)))).2.2.2) (by decide) (by decide) ?_
        show Steps p.tables e below (s₁.setTop (mkF m 22 #[.val (.ref a1), .val (.ref a2), .val (.int (0 : Int32)), .val (.int (1 : Int32))] [])) _
        refine XS.iloadN X0.here hx rfl (hb hby d4_22) rfl ?_
        show Steps p.tables e below (s₁.setTop (mkF m 23 #[.val (.ref a1), .val (.ref a2), .val (.int (0 : Int32)), .val (.int (1 : Int32))] [(.int (0 : Int32))])) _
        refine XS.aloadN X0.here hx rfl (hb hby d4_23) rfl rfl ?_
        show Steps p.tables e below (s₁.setTop (mkF m 24 #[.val (.ref a1), .val (.ref a2), .val (.int (0 : Int32)), .val (.int (1 : Int32))] [(.ref a1), (.int (0 : Int32))])) _
        refine XS.iloadN X0.here hx rfl (hb hby d4_24) rfl ?_
        exact kt
      obtain ⟨cl122, Ar122, qk122, Sz122, Nn122, Hh122, Gg122⟩ := id V1
      have hin122 : ¬ ((1 : Int32) < 0 ∨ cl122.slots.size ≤ ((1 : Int32)).toNatClampNeg) := inb_of Sz122 ⟨by decide, by decide⟩
      have hat122 : cl122.slots[((1 : Int32)).toNatClampNeg]? = some (.double (FP.i2d x1)) := Hh122.at hin122 rfl
      have pre123 : ∀ t, Steps p.tables e below (s₁.setTop (mkF m 28 #[.val (.ref a1), .val (.ref a2), .val (.int (0 : Int32)), .val (.int (1 : Int32))] [(.int (1 : Int32)), (.ref a2), (.double (FP.i2d x1)), (.int (0 : Int32))])) t → Steps p.tables e below (s₁.setTop (entryFrame m #[(.ref a1), (.ref a2)] 4)) t := fun t kt => by
        refine pre121 _ ?_
        show Steps p.tables e below (s₁.setTop (mkF m 25 #[.val (.ref a1), .val (.ref a2), .val (.int (0 : Int32)), .val (.int (1 : Int32))] [(.int (1 : Int32)), (.ref a1), (.int (0 : Int32))])) _
        refine X0.daload hx (j := (1 : Int32)) (v := (.double (FP.i2d x1))) (by rw [e0]; exact Ar122.1) (State.isArrayOf_alike hZ.alike Ar122.2.1) Ar122.2.2 hin122 hat122 (g := (mkF m 25 #[.val (.ref a1), .val (.ref a2), .val (.int (0 : Int32)), .val (.int (1 : Int32))] [(.int (1 : Int32)), (.ref a1), (.int (0 : Int32))])) rfl rfl (hb hby d4_25) _ ?_
        show Steps p.tables e below (s₁.setTop (mkF m 26 #[.val (.ref a1), .val (.ref a2), .val (.int (0 : Int32)), .val (.int (1 : Int32))] [(.double (FP.i2d x1)), (.int (0 : Int32))])) _
        refine XS.aloadN X0.here hx rfl (hb hby d4_26) rfl rfl ?_
        show Steps p.tables e below (s₁.setTop (mkF m 27 #[.val (.ref a1), .val (.ref a2), .val (.int (0 : Int32)), .val (.int (1 : Int32))] [(.ref a2), (.double (FP.i2d x1)), (.int (0 : Int32))])) _
        refine XS.iloadN X0.here hx rfl (hb hby d4_27) rfl ?_
        exact kt
      obtain ⟨cl124, Ar124, qk124, Sz124, Nn124, Hh124, Gg124⟩ := id V2
      have hin124 : ¬ ((1 : Int32) < 0 ∨ cl124.slots.size ≤ ((1 : Int32)).toNatClampNeg) := inb_of Sz124 ⟨by decide, by decide⟩
      have hat124 : cl124.slots[((1 : Int32)).toNatClampNeg]? = some (.double (FP.i2d y1)) := Hh124.at hin124 rfl
      have pre125 : ∀ t, Steps p.tables e below (s₁.setTop (mkF m 6 #[.val (.ref a1), .val (.ref a2), .val (.int (1 : Int32)), .val (.int (2 : Int32))] [(.ref a1), (.int (2 : Int32))])) t → Steps p.tables e below (s₁.setTop (entryFrame m #[(.ref a1), (.ref a2)] 4)) t := fun t kt => by
        refine pre123 _ ?_
        show Steps p.tables e below (s₁.setTop (mkF m 28 #[.val (.ref a1), .val (.ref a2), .val (.int (0 : Int32)), .val (.int (1 : Int32))] [(.int (1 : Int32)), (.ref a2), (.double (FP.i2d x1)), (.int (0 : Int32))])) _
        refine X0.daload hx (j := (1 : Int32)) (v := (.double (FP.i2d y1))) (by rw [e0]; exact Ar124.1) (State.isArrayOf_alike hZ.alike Ar124.2.1) Ar124.2.2 hin124 hat124 (g := (mkF m 28 #[.val (.ref a1), .val (.ref a2), .val (.int (0 : Int32)), .val (.int (1 : Int32))] [(.int (1 : Int32)), (.ref a2), (.double (FP.i2d x1)), (.int (0 : Int32))])) rfl rfl (hb hby d4_28) _ ?_
        show Steps p.tables e below (s₁.setTop (mkF m 29 #[.val (.ref a1), .val (.ref a2), .val (.int (0 : Int32)), .val (.int (1 : Int32))] [(.double (FP.i2d y1)), (.double (FP.i2d x1)), (.int (0 : Int32))])) _
        refine XS.dcmpS X0.here hx rfl (hb hby d4_29) rfl (own_d1 h116a _) ?_
        show Steps p.tables e below (s₁.setTop (mkF m 30 #[.val (.ref a1), .val (.ref a2), .val (.int (0 : Int32)), .val (.int (1 : Int32))] [(.int (-1 : Int32)), (.int (0 : Int32))])) _
        refine XS.ifNo X0.here hx rfl (hb hby d4_30) rfl ((if0 _ _).trans (tlt (by decide : (-1 : Int32) < (0 : Int32))).2.1) ?_
        show Steps p.tables e below (s₁.setTop (mkF m 33 #[.val (.ref a1), .val (.ref a2), .val (.int (0 : Int32)), .val (.int (1 : Int32))] [(.int (0 : Int32))])) _
        refine XS.iconst X0.here hx rfl (hb hby d4_33) ?_
        show Steps p.tables e below (s₁.setTop (mkF m 34 #[.val (.ref a1), .val (.ref a2), .val (.int (0 : Int32)), .val (.int (1 : Int32))] [(.int (1 : Int32)), (.int (0 : Int32))])) _
        refine XS.goto X0.here hx rfl (pc0 := 34) (pc' := 38) rfl (hb hby d4_34) (by decide) (by decide) ?_
        show Steps p.tables e below (s₁.setTop (mkF m 38 #[.val (.ref a1), .val (.ref a2), .val (.int (0 : Int32)), .val (.int (1 : Int32))] [(.int (1 : Int32)), (.int (0 : Int32))])) _
        refine XS.ior X0.here hx rfl (hb hby d4_38) rfl ?_
        show Steps p.tables e below (s₁.setTop (mkF m 39 #[.val (.ref a1), .val (.ref a2), .val (.int (0 : Int32)), .val (.int (1 : Int32))] [(.int ((0 : Int32) ||| (1 : Int32)))])) _
        show Steps p.tables e below (s₁.setTop (mkF m 39 #[.val (.ref a1), .val (.ref a2), .val (.int (0 : Int32)), .val (.int (1 : Int32))] [(.int (1 : Int32))])) _
        refine XS.istoreN X0.here hx rfl (hb hby d4_39) rfl (l' := #[.val (.ref a1), .val (.ref a2), .val (.int (1 : Int32)), .val (.int (1 : Int32))]) rfl ?_
        show Steps p.tables e below (s₁.setTop (mkF m 40 #[.val (.ref a1), .val (.ref a2), .val (.int (1 : Int32)), .val (.int (1 : Int32))] [])) _
        refine XS.iinc X0.here hx rfl (hb hby d4_40) rfl (l' := #[.val (.ref a1), .val (.ref a2), .val (.int (1 : Int32)), .val (.int ((1 : Int32) + (1 : Int32)))]) rfl ?_
        show Steps p.tables e below (s₁.setTop (mkF m 43 #[.val (.ref a1), .val (.ref a2), .val (.int (1 : Int32)), .val (.int ((1 : Int32) + (1 : Int32)))] [])) _
        show Steps p.tables e below (s₁.setTop (mkF m 43 #[.val (.ref a1), .val (.ref a2), .val (.int (1 : Int32)), .val (.int (2 : Int32))] [])) _
        refine XS.goto X0.here hx rfl (pc0 := 43) (pc' := 4) rfl (hb hby d4_43) (by decide) (by decide) ?_
        show Steps p.tables e below (s₁.setTop (mkF m 4 #[.val (.ref a1), .val (.ref a2), .val (.int (1 : Int32)), .val (.int (2 : Int32))] [])) _
        refine XS.iloadN X0.here hx rfl (hb hby d4_4) rfl ?_
        show Steps p.tables e below (s₁.setTop (mkF m 5 #[.val (.ref a1), .val (.ref a2), .val (.int (1 : Int32)), .val (.int (2 : Int32))] [(.int (2 : Int32))])) _
        refine XS.aloadN X0.here hx rfl (hb hby d4_5) rfl rfl ?_
        exact kt
      obtain ⟨cl126, Ar126, qk126, Sz126, Nn126, Hh126, Gg126⟩ := id V1
      have pre127 : ∀ t, Steps p.tables e below (s₁.setTop (mkF m 10 #[.val (.ref a1), .val (.ref a2), .val (.int (1 : Int32)), .val (.int (2 : Int32))] [])) t → Steps p.tables e below (s₁.setTop (entryFrame m #[(.ref a1), (.ref a2)] 4)) t := fun t kt => by
        refine pre125 _ ?_
        show Steps p.tables e below (s₁.setTop (mkF m 6 #[.val (.ref a1), .val (.ref a2), .val (.int (1 : Int32)), .val (.int (2 : Int32))] [(.ref a1), (.int (2 : Int32))])) _
        refine X0.arraylength hx (by rw [e0]; exact Ar126.1) (State.isArrayOf_alike hZ.alike Ar126.2.1) (g := (mkF m 6 #[.val (.ref a1), .val (.ref a2), .val (.int (1 : Int32)), .val (.int (2 : Int32))] [(.ref a1), (.int (2 : Int32))])) rfl rfl (hb hby d4_6) _ ?_
        rw [len_of Sz126 Nn126]
        show Steps p.tables e below (s₁.setTop (mkF m 7 #[.val (.ref a1), .val (.ref a2), .val (.int (1 : Int32)), .val (.int (2 : Int32))] [(.int (3 : Int32)), (.int (2 : Int32))])) _
        refine XS.icmpNo X0.here hx rfl (hb hby d4_7) rfl (tlt (by decide : (2 : Int32) < (3 : Int32))).2.1 ?_
        exact kt
      rcases own_tri x2 y2 with ⟨h128a, h128b⟩ | h128c | ⟨h128d, h128e, h128f⟩
      · have pre129 : ∀ t, Steps p.tables e below (s₁.setTop (mkF m 12 #[.val (.ref a1), .val (.ref a2), .val (.int (1 : Int32)), .val (.int (2 : Int32))] [(.int (2 : Int32)), (.ref a1)])) t → Steps p.tables e below (s₁.setTop (entryFrame m #[(.ref a1), (.ref a2)] 4)) t := fun t kt => by
          refine pre127 _ ?_
          show Steps p.tables e below (s₁.setTop (mkF m 10 #[.val (.ref a1), .val (.ref a2), .val (.int (1 : Int32)), .val (.int (2 : Int32))] [])) _
          refine XS.aloadN X0.here hx rfl (hb hby d4_10) rfl rfl ?_
          show Steps p.tables e below (s₁.setTop (mkF m 11 #[.val (.ref a1), .val (.ref a2), .val (.int (1 : Int32)), .val (.int (2 : Int32))] [(.ref a1)])) _
          refine XS.iloadN X0.here hx rfl (hb hby d4_11) rfl ?_
          exact kt
        obtain ⟨cl130, Ar130, qk130, Sz130, Nn130, Hh130, Gg130⟩ := id V1
        have hin130 : ¬ ((2 : Int32) < 0 ∨ cl130.slots.size ≤ ((2 : Int32)).toNatClampNeg) := inb_of Sz130 ⟨by decide, by decide⟩
        have hat130 : cl130.slots[((2 : Int32)).toNatClampNeg]? = some (.double (FP.i2d x2)) := Hh130.at hin130 rfl
        have pre131 : ∀ t, Steps p.tables e below (s₁.setTop (mkF m 15 #[.val (.ref a1), .val (.ref a2), .val (.int (1 : Int32)), .val (.int (2 : Int32))] [(.int (2 : Int32)), (.ref a2), (.double (FP.i2d x2))])) t → Steps p.tables e below (s₁.setTop (entryFrame m #[(.ref a1), (.ref a2)] 4)) t := fun t kt => by
          refine pre129 _ ?_
          show Steps p.tables e below (s₁.setTop (mkF m 12 #[.val (.ref a1), .val (.ref a2), .val (.int (1 : Int32)), .val (.int (2 : Int32))] [(.int (2 : Int32)), (.ref a1)])) _
          refine X0.daload hx (j := (2 : Int32)) (v := (.double (FP.i2d x2))) (by rw [e0]; exact Ar130.1) (State.isArrayOf_alike hZ.alike Ar130.2.1) Ar130.2.2 hin130 hat130 (g := (mkF m 12 #[.val (.ref a1), .val (.ref a2), .val (.int (1 : Int32)), .val (.int (2 : Int32))] [(.int (2 : Int32)), (.ref a1)])) rfl rfl (hb hby d4_12) _ ?_
          show Steps p.tables e below (s₁.setTop (mkF m 13 #[.val (.ref a1), .val (.ref a2), .val (.int (1 : Int32)), .val (.int (2 : Int32))] [(.double (FP.i2d x2))])) _
          refine XS.aloadN X0.here hx rfl (hb hby d4_13) rfl rfl ?_
          show Steps p.tables e below (s₁.setTop (mkF m 14 #[.val (.ref a1), .val (.ref a2), .val (.int (1 : Int32)), .val (.int (2 : Int32))] [(.ref a2), (.double (FP.i2d x2))])) _
          refine XS.iloadN X0.here hx rfl (hb hby d4_14) rfl ?_
          exact kt
        obtain ⟨cl132, Ar132, qk132, Sz132, Nn132, Hh132, Gg132⟩ := id V2
        have hin132 : ¬ ((2 : Int32) < 0 ∨ cl132.slots.size ≤ ((2 : Int32)).toNatClampNeg) := inb_of Sz132 ⟨by decide, by decide⟩
        have hat132 : cl132.slots[((2 : Int32)).toNatClampNeg]? = some (.double (FP.i2d y2)) := Hh132.at hin132 rfl
        have pre133 : ∀ t, Steps p.tables e below (s₁.setTop (mkF m 25 #[.val (.ref a1), .val (.ref a2), .val (.int (1 : Int32)), .val (.int (2 : Int32))] [(.int (2 : Int32)), (.ref a1), (.int (1 : Int32))])) t → Steps p.tables e below (s₁.setTop (entryFrame m #[(.ref a1), (.ref a2)] 4)) t := fun t kt => by
          refine pre131 _ ?_
          show Steps p.tables e below (s₁.setTop (mkF m 15 #[.val (.ref a1), .val (.ref a2), .val (.int (1 : Int32)), .val (.int (2 : Int32))] [(.int (2 : Int32)), (.ref a2), (.double (FP.i2d x2))])) _
          refine X0.daload hx (j := (2 : Int32)) (v := (.double (FP.i2d y2))) (by rw [e0]; exact Ar132.1) (State.isArrayOf_alike hZ.alike Ar132.2.1) Ar132.2.2 hin132 hat132 (g := (mkF m 15 #[.val (.ref a1), .val (.ref a2), .val (.int (1 : Int32)), .val (.int (2 : Int32))] [(.int (2 : Int32)), (.ref a2), (.double (FP.i2d x2))])) rfl rfl (hb hby d4_15) _ ?_
          show Steps p.tables e below (s₁.setTop (mkF m 16 #[.val (.ref a1), .val (.ref a2), .val (.int (1 : Int32)), .val (.int (2 : Int32))] [(.double (FP.i2d y2)), (.double (FP.i2d x2))])) _
          refine XS.dcmpS X0.here hx rfl (hb hby d4_16) rfl (own_d1 h128a _) ?_
          show Steps p.tables e below (s₁.setTop (mkF m 17 #[.val (.ref a1), .val (.ref a2), .val (.int (1 : Int32)), .val (.int (2 : Int32))] [(.int (-1 : Int32))])) _
          refine XS.ifYes X0.here hx rfl (pc0 := 17) (pc' := 22) rfl (hb hby d4_17) rfl ((if0 _ _).trans (flt (by decide : ¬ ((0 : Int32) < (-1 : Int32)))).2.2.2) (by decide) (by decide) ?_
          show Steps p.tables e below (s₁.setTop (mkF m 22 #[.val (.ref a1), .val (.ref a2), .val (.int (1 : Int32)), .val (.int (2 : Int32))] [])) _
          refine XS.iloadN X0.here hx rfl (hb hby d4_22) rfl ?_
          show Steps p.tables e below (s₁.setTop (mkF m 23 #[.val (.ref a1), .val (.ref a2), .val (.int (1 : Int32)), .val (.int (2 : Int32))] [(.int (1 : Int32))])) _
          refine XS.aloadN X0.here hx rfl (hb hby d4_23) rfl rfl ?_
          show Steps p.tables e below (s₁.setTop (mkF m 24 #[.val (.ref a1), .val (.ref a2), .val (.int (1 : Int32)), .val (.int (2 : Int32))] [(.ref a1), (.int (1 : Int32))])) _
          refine XS.iloadN X0.here hx rfl (hb hby d4_24) rfl ?_
          exact kt
        obtain ⟨cl134, Ar134, qk134, Sz134, Nn134, Hh134, Gg134⟩ := id V1
        have hin134 : ¬ ((2 : Int32) < 0 ∨ cl134.slots.size ≤ ((2 : Int32)).toNatClampNeg) := inb_of Sz134 ⟨by decide, by decide⟩
        have hat134 : cl134.slots[((2 : Int32)).toNatClampNeg]? = some (.double (FP.i2d x2)) := Hh134.at hin134 rfl
        have pre135 : ∀ t, Steps p.tables e below (s₁.setTop (mkF m 28 #[.val (.ref a1), .val (.ref a2), .val (.int (1 : Int32)), .val (.int (2 : Int32))] [(.int (2 : Int32)), (.ref a2), (.double (FP.i2d x2)), (.int (1 : Int32))])) t → Steps p.tables e below (s₁.setTop (entryFrame m #[(.ref a1), (.ref a2)] 4)) t := fun t kt => by
          refine pre133 _ ?_
          show Steps p.tables e below (s₁.setTop (mkF m 25 #[.val (.ref a1), .val (.ref a2), .val (.int (1 : Int32)), .val (.int (2 : Int32))] [(.int (2 : Int32)), (.ref a1), (.int (1 : Int32))])) _
          refine X0.daload hx (j := (2 : Int32)) (v := (.double (FP.i2d x2))) (by rw [e0]; exact Ar134.1) (State.isArrayOf_alike hZ.alike Ar134.2.1) Ar134.2.2 hin134 hat134 (g := (mkF m 25 #[.val (.ref a1), .val (.ref a2), .val (.int (1 : Int32)), .val (.int (2 : Int32))] [(.int (2 : Int32)), (.ref a1), (.int (1 : Int32))])) rfl rfl (hb hby d4_25) _ ?_
          show Steps p.tables e below (s₁.setTop (mkF m 26 #[.val (.ref a1), .val (.ref a2), .val (.int (1 : Int32)), .val (.int (2 : Int32))] [(.double (FP.i2d x2)), (.int (1 : Int32))])) _
          refine XS.aloadN X0.here hx rfl (hb hby d4_26) rfl rfl ?_
          show Steps p.tables e below (s₁.setTop (mkF m 27 #[.val (.ref a1), .val (.ref a2), .val (.int (1 : Int32)), .val (.int (2 : Int32))] [(.ref a2), (.double (FP.i2d x2)), (.int (1 : Int32))])) _
          refine XS.iloadN X0.here hx rfl (hb hby d4_27) rfl ?_
          exact kt
        obtain ⟨cl136, Ar136, qk136, Sz136, Nn136, Hh136, Gg136⟩ := id V2
        have hin136 : ¬ ((2 : Int32) < 0 ∨ cl136.slots.size ≤ ((2 : Int32)).toNatClampNeg) := inb_of Sz136 ⟨by decide, by decide⟩
        have hat136 : cl136.slots[((2 : Int32)).toNatClampNeg]? = some (.double (FP.i2d y2)) := Hh136.at hin136 rfl
        have pre137 : ∀ t, Steps p.tables e below (s₁.setTop (mkF m 6 #[.val (.ref a1), .val (.ref a2), .val (.int (1 : Int32)), .val (.int (3 : Int32))] [(.ref a1), (.int (3 : Int32))])) t → Steps p.tables e below (s₁.setTop (entryFrame m #[(.ref a1), (.ref a2)] 4)) t := fun t kt => by
          refine pre135 _ ?_
          show Steps p.tables e below (s₁.setTop (mkF m 28 #[.val (.ref a1), .val (.ref a2), .val (.int (1 : Int32)), .val (.int (2 : Int32))] [(.int (2 : Int32)), (.ref a2), (.double (FP.i2d x2)), (.int (1 : Int32))])) _
          refine X0.daload hx (j := (2 : Int32)) (v := (.double (FP.i2d y2))) (by rw [e0]; exact Ar136.1) (State.isArrayOf_alike hZ.alike Ar136.2.1) Ar136.2.2 hin136 hat136 (g := (mkF m 28 #[.val (.ref a1), .val (.ref a2), .val (.int (1 : Int32)), .val (.int (2 : Int32))] [(.int (2 : Int32)), (.ref a2), (.double (FP.i2d x2)), (.int (1 : Int32))])) rfl rfl (hb hby d4_28) _ ?_
          show Steps p.tables e below (s₁.setTop (mkF m 29 #[.val (.ref a1), .val (.ref a2), .val (.int (1 : Int32)), .val (.int (2 : Int32))] [(.double (FP.i2d y2)), (.double (FP.i2d x2)), (.int (1 : Int32))])) _
          refine XS.dcmpS X0.here hx rfl (hb hby d4_29) rfl (own_d1 h128a _) ?_
          show Steps p.tables e below (s₁.setTop (mkF m 30 #[.val (.ref a1), .val (.ref a2), .val (.int (1 : Int32)), .val (.int (2 : Int32))] [(.int (-1 : Int32)), (.int (1 : Int32))])) _
          refine XS.ifNo X0.here hx rfl (hb hby d4_30) rfl ((if0 _ _).trans (tlt (by decide : (-1 : Int32) < (0 : Int32))).2.1) ?_
          show Steps p.tables e below (s₁.setTop (mkF m 33 #[.val (.ref a1), .val (.ref a2), .val (.int (1 : Int32)), .val (.int (2 : Int32))] [(.int (1 : Int32))])) _
          refine XS.iconst X0.here hx rfl (hb hby d4_33) ?_
          show Steps p.tables e below (s₁.setTop (mkF m 34 #[.val (.ref a1), .val (.ref a2), .val (.int (1 : Int32)), .val (.int (2 : Int32))] [(.int (1 : Int32)), (.int (1 : Int32))])) _
          refine XS.goto X0.here hx rfl (pc0 := 34) (pc' := 38) rfl (hb hby d4_34) (by decide) (by decide) ?_
          show Steps p.tables e below (s₁.setTop (mkF m 38 #[.val (.ref a1), .val (.ref a2), .val (.int (1 : Int32)), .val (.int (2 : Int32))] [(.int (1 : Int32)), (.int (1 : Int32))])) _
          refine XS.ior X0.here hx rfl (hb hby d4_38) rfl ?_
          show Steps p.tables e below (s₁.setTop (mkF m 39 #[.val (.ref a1), .val (.ref a2), .val (.int (1 : Int32)), .val (.int (2 : Int32))] [(.int ((1 : Int32) ||| (1 : Int32)))])) _
          show Steps p.tables e below (s₁.setTop (mkF m 39 #[.val (.ref a1), .val (.ref a2), .val (.int (1 : Int32)), .val (.int (2 : Int32))] [(.int (1 : Int32))])) _
          refine XS.istoreN X0.here hx rfl (hb hby d4_39) rfl (l' := #[.val (.ref a1), .val (.ref a2), .val (.int (1 : Int32)), .val (.int (2 : Int32))]) rfl ?_
          show Steps p.tables e below (s₁.setTop (mkF m 40 #[.val (.ref a1), .val (.ref a2), .val (.int (1 : Int32)), .val (.int (2 : Int32))] [])) _
          refine XS.iinc X0.here hx rfl (hb hby d4_40) rfl (l' := #[.val (.ref a1), .val (.ref a2), .val (.int (1 : Int32)), .val (.int ((2 : Int32) + (1 : Int32)))]) rfl ?_
          show Steps p.tables e below (s₁.setTop (mkF m 43 #[.val (.ref a1), .val (.ref a2), .val (.int (1 : Int32)), .val (.int ((2 : Int32) + (1 : Int32)))] [])) _
          show Steps p.tables e below (s₁.setTop (mkF m 43 #[.val (.ref a1), .val (.ref a2), .val (.int (1 : Int32)), .val (.int (3 : Int32))] [])) _
          refine XS.goto X0.here hx rfl (pc0 := 43) (pc' := 4) rfl (hb hby d4_43) (by decide) (by decide) ?_
          show Steps p.tables e below (s₁.setTop (mkF m 4 #[.val (.ref a1), .val (.ref a2), .val (.int (1 : Int32)), .val (.int (3 : Int32))] [])) _
          refine XS.iloadN X0.here hx rfl (hb hby d4_4) rfl ?_
          show Steps p.tables e below (s₁.setTop (mkF m 5 #[.val (.ref a1), .val (.ref a2), .val (.int (1 : Int32)), .val (.int (3 : Int32))] [(.int (3 : Int32))])) _
          refine XS.aloadN X0.here hx rfl (hb hby d4_5) rfl rfl ?_
          exact kt
        obtain ⟨cl138, Ar138, qk138, Sz138, Nn138, Hh138, Gg138⟩ := id V1
        have pre139 : ∀ t, Steps p.tables e below (s₁.setTop (mkF m 47 #[.val (.ref a1), .val (.ref a2), .val (.int (1 : Int32)), .val (.int (3 : Int32))] [(.int (1 : Int32))])) t → Steps p.tables e below (s₁.setTop (entryFrame m #[(.ref a1), (.ref a2)] 4)) t := fun t kt => by
          refine pre137 _ ?_
          show Steps p.tables e below (s₁.setTop (mkF m 6 #[.val (.ref a1), .val (.ref a2), .val (.int (1 : Int32)), .val (.int (3 : Int32))] [(.ref a1), (.int (3 : Int32))])) _
          refine X0.arraylength hx (by rw [e0]; exact Ar138.1) (State.isArrayOf_alike hZ.alike Ar138.2.1) (g := (mkF m 6 #[.val (.ref a1), .val (.ref a2), .val (.int (1 : Int32)), .val (.int (3 : Int32))] [(.ref a1), (.int (3 : Int32))])) rfl rfl (hb hby d4_6) _ ?_
          rw [len_of Sz138 Nn138]
          show Steps p.tables e below (s₁.setTop (mkF m 7 #[.val (.ref a1), .val (.ref a2), .val (.int (1 : Int32)), .val (.int (3 : Int32))] [(.int (3 : Int32)), (.int (3 : Int32))])) _
          refine XS.icmpYes X0.here hx rfl (pc0 := 7) (pc' := 46) rfl (hb hby d4_7) rfl (flt (by decide : ¬ ((3 : Int32) < (3 : Int32)))).2.1 (by decide) (by decide) ?_
          show Steps p.tables e below (s₁.setTop (mkF m 46 #[.val (.ref a1), .val (.ref a2), .val (.int (1 : Int32)), .val (.int (3 : Int32))] [])) _
          refine XS.iloadN X0.here hx rfl (hb hby d4_46) rfl ?_
          exact kt
        have ev : own_dom [(x0, y0), (x1, y1), (x2, y2)] (0 : Int32) = (1 : Int32) := by simp only [own_dom, h4e, h4f, h116a, h116b, h128a, h128b, if_true, if_false]; try decide
        obtain ⟨fs, hr, hrun, hended, hW, hsame⟩ := X0.leave (v := (some (.int (1 : Int32)))) (fun h => by rw [Bd.returns] at h; cases h)
        refine ⟨_, _, pre139 _ ?_, hrun, hended, _, _, rfl, ?_, ⟨_, rfl⟩, hW, hsame.mono (by decide) (by decide)⟩
        · show Steps p.tables e below (s₁.setTop (mkF m 47 #[.val (.ref a1), .val (.ref a2), .val (.int (1 : Int32)), .val (.int (3 : Int32))] [(.int (1 : Int32))])) _
          exact retN X0 hx (t := .boolean) Bd.returns (by simp) (hb hby d4_47) hr
        · show Q4m3 Z a1 a2 k1 k2 x0 x1 x2 y0 y1 y2 h0 n0 _ s₁.heap _
          rw [e0]
          exact ⟨by rw [ev], N0, rfl⟩
      · have pre140 : ∀ t, Steps p.tables e below (s₁.setTop (mkF m 12 #[.val (.ref a1), .val (.ref a2), .val (.int (1 : Int32)), .val (.int (2 : Int32))] [(.int (2 : Int32)), (.ref a1)])) t → Steps p.tables e below (s₁.setTop (entryFrame m #[(.ref a1), (.ref a2)] 4)) t := fun t kt => by
          refine pre127 _ ?_
          show Steps p.tables e below (s₁.setTop (mkF m 10 #[.val (.ref a1), .val (.ref a2), .val (.int (1 : Int32)), .val (.int (2 : Int32))] [])) _
          refine XS.aloadN X0.here hx rfl (hb hby d4_10) rfl rfl ?_
          show Steps p.tables e below (s₁.setTop (mkF m 11 #[.val (.ref a1), .val (.ref a2), .val (.int (1 : Int32)), .val (.int (2 : Int32))] [(.ref a1)])) _
          refine XS.iloadN X0.here hx rfl (hb hby d4_11) rfl ?_
          exact kt
        obtain ⟨cl141, Ar141, qk141, Sz141, Nn141, Hh141, Gg141⟩ := id V1
        have hin141 : ¬ ((2 : Int32) < 0 ∨ cl141.slots.size ≤ ((2 : Int32)).toNatClampNeg) := inb_of Sz141 ⟨by decide, by decide⟩
        have hat141 : cl141.slots[((2 : Int32)).toNatClampNeg]? = some (.double (FP.i2d x2)) := Hh141.at hin141 rfl
        have pre142 : ∀ t, Steps p.tables e below (s₁.setTop (mkF m 15 #[.val (.ref a1), .val (.ref a2), .val (.int (1 : Int32)), .val (.int (2 : Int32))] [(.int (2 : Int32)), (.ref a2), (.double (FP.i2d x2))])) t → Steps p.tables e below (s₁.setTop (entryFrame m #[(.ref a1), (.ref a2)] 4)) t := fun t kt => by
          refine pre140 _ ?_
          show Steps p.tables e below (s₁.setTop (mkF m 12 #[.val (.ref a1), .val (.ref a2), .val (.int (1 : Int32)), .val (.int (2 : Int32))] [(.int (2 : Int32)), (.ref a1)])) _
          refine X0.daload hx (j := (2 : Int32)) (v := (.double (FP.i2d x2))) (by rw [e0]; exact Ar141.1) (State.isArrayOf_alike hZ.alike Ar141.2.1) Ar141.2.2 hin141 hat141 (g := (mkF m 12 #[.val (.ref a1), .val (.ref a2), .val (.int (1 : Int32)), .val (.int (2 : Int32))] [(.int (2 : Int32)), (.ref a1)])) rfl rfl (hb hby d4_12) _ ?_
          show Steps p.tables e below (s₁.setTop (mkF m 13 #[.val (.ref a1), .val (.ref a2), .val (.int (1 : Int32)), .val (.int (2 : Int32))] [(.double (FP.i2d x2))])) _
          refine XS.aloadN X0.here hx rfl (hb hby d4_13) rfl rfl ?_
          show Steps p.tables e below (s₁.setTop (mkF m 14 #[.val (.ref a1), .val (.ref a2), .val (.int (1 : Int32)), .val (.int (2 : Int32))] [(.ref a2), (.double (FP.i2d x2))])) _
          refine XS.iloadN X0.here hx rfl (hb hby d4_14) rfl ?_
          exact kt
        obtain ⟨cl143, Ar143, qk143, Sz143, Nn143, Hh143, Gg143⟩ := id V2
        have hin143 : ¬ ((2 : Int32) < 0 ∨ cl143.slots.size ≤ ((2 : Int32)).toNatClampNeg) := inb_of Sz143 ⟨by decide, by decide⟩
        have hat143 : cl143.slots[((2 : Int32)).toNatClampNeg]? = some (.double (FP.i2d y2)) := Hh143.at hin143 rfl
        have pre144 : ∀ t, Steps p.tables e below (s₁.setTop (mkF m 21 #[.val (.ref a1), .val (.ref a2), .val (.int (1 : Int32)), .val (.int (2 : Int32))] [(.int (0 : Int32))])) t → Steps p.tables e below (s₁.setTop (entryFrame m #[(.ref a1), (.ref a2)] 4)) t := fun t kt => by
          refine pre142 _ ?_
          show Steps p.tables e below (s₁.setTop (mkF m 15 #[.val (.ref a1), .val (.ref a2), .val (.int (1 : Int32)), .val (.int (2 : Int32))] [(.int (2 : Int32)), (.ref a2), (.double (FP.i2d x2))])) _
          refine X0.daload hx (j := (2 : Int32)) (v := (.double (FP.i2d y2))) (by rw [e0]; exact Ar143.1) (State.isArrayOf_alike hZ.alike Ar143.2.1) Ar143.2.2 hin143 hat143 (g := (mkF m 15 #[.val (.ref a1), .val (.ref a2), .val (.int (1 : Int32)), .val (.int (2 : Int32))] [(.int (2 : Int32)), (.ref a2), (.double (FP.i2d x2))])) rfl rfl (hb hby d4_15) _ ?_
          show Steps p.tables e below (s₁.setTop (mkF m 16 #[.val (.ref a1), .val (.ref a2), .val (.int (1 : Int32)), .val (.int (2 : Int32))] [(.double (FP.i2d y2)), (.double (FP.i2d x2))])) _
          refine XS.dcmpS X0.here hx rfl (hb hby d4_16) rfl (own_d2 h128c _) ?_
          show Steps p.tables e below (s₁.setTop (mkF m 17 #[.val (.ref a1), .val (.ref a2), .val (.int (1 : Int32)), .val (.int (2 : Int32))] [(.int (1 : Int32))])) _
          refine XS.ifNo X0.here hx rfl (hb hby d4_17) rfl ((if0 _ _).trans (tlt (by decide : (0 : Int32) < (1 : Int32))).2.2.2) ?_
          show Steps p.tables e below (s₁.setTop (mkF m 20 #[.val (.ref a1), .val (.ref a2), .val (.int (1 : Int32)), .val (.int (2 : Int32))] [])) _
          refine XS.iconst X0.here hx rfl (hb hby d4_20) ?_
          exact kt
        have ev : own_dom [(x0, y0), (x1, y1), (x2, y2)] (0 : Int32) = (0 : Int32) := by simp only [own_dom, h4e, h4f, h116a, h116b, h128c, if_true, if_false]; try decide
        obtain ⟨fs, hr, hrun, hended, hW, hsame⟩ := X0.leave (v := (some (.int (0 : Int32)))) (fun h => by rw [Bd.returns] at h; cases h)
        refine ⟨_, _, pre144 _ ?_, hrun, hended, _, _, rfl, ?_, ⟨_, rfl⟩, hW, hsame.mono (by decide) (by decide)⟩
        · show Steps p.tables e below (s₁.setTop (mkF m 21 #[.val (.ref a1), .val (.ref a2), .val (.int (1 : Int32)), .val (.int (2 : Int32))] [(.int (0 : Int32))])) _
          exact retN X0 hx (t := .boolean) Bd.returns (by simp) (hb hby d4_21) hr
        · show Q4m3 Z a1 a2 k1 k2 x0 x1 x2 y0 y1 y2 h0 n0 _ s₁.heap _
          rw [e0]
          exact ⟨by rw [ev], N0, rfl⟩
      · have pre145 : ∀ t, Steps p.tables e below (s₁.setTop (mkF m 12 #[.val (.ref a1), .val (.ref a2), .val (.int (1 : Int32)), .val (.int (2 : Int32))] [(.int (2 : Int32)), (.ref a1)])) t → Steps p.tables e below (s₁.setTop (entryFrame m #[(.ref a1), (.ref a2)] 4)) t := fun t kt => by
          refine pre127 _ ?_
          show Steps p.tables e below (s₁.setTop (mkF m 10 #[.val (.ref a1), .val (.ref a2), .val (.int (1 : Int32)), .val (.int (2 : Int32))] [])) _
          refine XS.aloadN X0.here hx rfl (hb hby d4_10) rfl rfl ?_
          show Steps p.tables e below (s₁.setTop (mkF m 11 #[.val (.ref a1), .val (.ref a2), .val (.int (1 : Int32)), .val (.int (2 : Int32))] [(.ref a1)])) _
          refine XS.iloadN X0.here hx rfl (hb hby d4_11) rfl ?_
          exact kt
        obtain ⟨cl146, Ar146, qk146, Sz146, Nn146, Hh146, Gg146⟩ := id V1
        have hin146 : ¬ ((2 : Int32) < 0 ∨ cl146.slots.size ≤ ((2 : Int32)).toNatClampNeg) := inb_of Sz146 ⟨by decide, by decide⟩
        have hat146 : cl146.slots[((2 : Int32)).toNatClampNeg]? = some (.double (FP.i2d x2)) := Hh146.at hin146 rfl
        have pre147 : ∀ t, Steps p.tables e below (s₁.setTop (mkF m 15 #[.val (.ref a1), .val (.ref a2), .val (.int (1 : Int32)), .val (.int (2 : Int32))] [(.int (2 : Int32)), (.ref a2), (.double (FP.i2d x2))])) t → Steps p.tables e below (s₁.setTop (entryFrame m #[(.ref a1), (.ref a2)] 4)) t := fun t kt => by
          refine pre145 _ ?_
          show Steps p.tables e below (s₁.setTop (mkF m 12 #[.val (.ref a1), .val (.ref a2), .val (.int (1 : Int32)), .val (.int (2 : Int32))] [(.int (2 : Int32)), (.ref a1)])) _
          refine X0.daload hx (j := (2 : Int32)) (v := (.double (FP.i2d x2))) (by rw [e0]; exact Ar146.1) (State.isArrayOf_alike hZ.alike Ar146.2.1) Ar146.2.2 hin146 hat146 (g := (mkF m 12 #[.val (.ref a1), .val (.ref a2), .val (.int (1 : Int32)), .val (.int (2 : Int32))] [(.int (2 : Int32)), (.ref a1)])) rfl rfl (hb hby d4_12) _ ?_
          show Steps p.tables e below (s₁.setTop (mkF m 13 #[.val (.ref a1), .val (.ref a2), .val (.int (1 : Int32)), .val (.int (2 : Int32))] [(.double (FP.i2d x2))])) _
          refine XS.aloadN X0.here hx rfl (hb hby d4_13) rfl rfl ?_
          show Steps p.tables e below (s₁.setTop (mkF m 14 #[.val (.ref a1), .val (.ref a2), .val (.int (1 : Int32)), .val (.int (2 : Int32))] [(.ref a2), (.double (FP.i2d x2))])) _
          refine XS.iloadN X0.here hx rfl (hb hby d4_14) rfl ?_
          exact kt
        obtain ⟨cl148, Ar148, qk148, Sz148, Nn148, Hh148, Gg148⟩ := id V2
        have hin148 : ¬ ((2 : Int32) < 0 ∨ cl148.slots.size ≤ ((2 : Int32)).toNatClampNeg) := inb_of Sz148 ⟨by decide, by decide⟩
        have hat148 : cl148.slots[((2 : Int32)).toNatClampNeg]? = some (.double (FP.i2d y2)) := Hh148.at hin148 rfl
        have pre149 : ∀ t, Steps p.tables e below (s₁.setTop (mkF m 25 #[.val (.ref a1), .val (.ref a2), .val (.int (1 : Int32)), .val (.int (2 : Int32))] [(.int (2 : Int32)), (.ref a1), (.int (1 : Int32))])) t → Steps p.tables e below (s₁.setTop (entryFrame m #[(.ref a1), (.ref a2)] 4)) t := fun t kt => by
          refine pre147 _ ?_
          show Steps p.tables e below (s₁.setTop (mkF m 15 #[.val (.ref a1), .val (.ref a2), .val (.int (1 : Int32)), .val (.int (2 : Int32))] [(.int (2 : Int32)), (.ref a2), (.double (FP.i2d x2))])) _
          refine X0.daload hx (j := (2 : Int32)) (v := (.double (FP.i2d y2))) (by rw [e0]; exact Ar148.1) (State.isArrayOf_alike hZ.alike Ar148.2.1) Ar148.2.2 hin148 hat148 (g := (mkF m 15 #[.val (.ref a1), .val (.ref a2), .val (.int (1 : Int32)), .val (.int (2 : Int32))] [(.int (2 : Int32)), (.ref a2), (.double (FP.i2d x2))])) rfl rfl (hb hby d4_15) _ ?_
          show Steps p.tables e below (s₁.setTop (mkF m 16 #[.val (.ref a1), .val (.ref a2), .val (.int (1 : Int32)), .val (.int (2 : Int32))] [(.double (FP.i2d y2)), (.double (FP.i2d x2))])) _
          refine XS.dcmpS X0.here hx rfl (hb hby d4_16) rfl (own_d0 h128d _) ?_
          show Steps p.tables e below (s₁.setTop (mkF m 17 #[.val (.ref a1), .val (.ref a2), .val (.int (1 : Int32)), .val (.int (2 : Int32))] [(.int (0 : Int32))])) _
          refine XS.ifYes X0.here hx rfl (pc0 := 17) (pc' := 22) rfl (hb hby d4_17) rfl ((if0 _ _).trans (flt (by decide : ¬ ((0 : Int32) < (0 : Int32)))).2.2.2) (by decide) (by decide) ?_
          show Steps p.tables e below (s₁.setTop (mkF m 22 #[.val (.ref a1), .val (.ref a2), .val (.int (1 : Int32)), .val (.int (2 : Int32))] [])) _
          refine XS.iloadN X0.here hx rfl (hb hby d4_22) rfl ?_
          show Steps p.tables e below (s₁.setTop (mkF m 23 #[.val (.ref a1), .val (.ref a2), .val (.int (1 : Int32)), .val (.int (2 : Int32))] [(.int (1 : Int32))])) _
          refine XS.aloadN X0.here hx rfl (hb hby d4_23) rfl rfl ?_
          show Steps p.tables e below (s₁.setTop (mkF m 24 #[.val (.ref a1), .val (.ref a2), .val (.int (1 : Int32)), .val (.int (2 : Int32))] [(.ref a1), (.int (1 : Int32))])) _
          refine XS.iloadN X0.here hx rfl (hb hby d4_24) rfl ?_
          exact kt
        obtain ⟨cl150, Ar150, qk150, Sz150, Nn150, Hh150, Gg150⟩ := id V1
        have hin150 : ¬ ((2 : Int32) < 0 ∨ cl150.slots.size ≤ ((2 : Int32)).toNatClampNeg) := inb_of Sz150 ⟨by decide, by decide⟩
        have hat150 : cl150.slots[((2 : Int32)).toNatClampNeg]? = some (.double (FP.i2d x2)) := Hh150.at hin150 rfl
        have pre151 : ∀ t, Steps p.tables e below (s₁.setTop (mkF m 28 #[.val (.ref a1), .val (.ref a2), .val (.int (1 : Int32)), .val (.int (2 : Int32))] [(.int (2 : Int32)), (.ref a2), (.double (FP.i2d x2)), (.int (1 : Int32))])) t → Steps p.tables e below (s₁.setTop (entryFrame m #[(.ref a1), (.ref a2)] 4)) t := fun t kt => by
          refine pre149 _ ?_
          show Steps p.tables e below (s₁.setTop (mkF m 25 #[.val (.ref a1), .val (.ref a2), .val (.int (1 : Int32)), .val (.int (2 : Int32))] [(.int (2 : Int32)), (.ref a1), (.int (1 : Int32))])) _
          refine X0.daload hx (j := (2 : Int32)) (v := (.double (FP.i2d x2))) (by rw [e0]; exact Ar150.1) (State.isArrayOf_alike hZ.alike Ar150.2.1) Ar150.2.2 hin150 hat150 (g := (mkF m 25 #[.val (.ref a1), .val (.ref a2), .val (.int (1 : Int32)), .val (.int (2 : Int32))] [(.int (2 : Int32)), (.ref a1), (.int (1 : Int32))])) rfl rfl (hb hby d4_25) _ ?_
          show Steps p.tables e below (s₁.setTop (mkF m 26 #[.val (.ref a1), .val (.ref a2), .val (.int (1 : Int32)), .val (.int (2 : Int32))] [(.double (FP.i2d x2)), (.int (1 : Int32))])) _
          refine XS.aloadN X0.here hx rfl (hb hby d4_26) rfl rfl ?_
          show Steps p.tables e below (s₁.setTop (mkF m 27 #[.val (.ref a1), .val (.ref a2), .val (.int (1 : Int32)), .val (.int (2 : Int32))] [(.ref a2), (.double (FP.i2d x2)), (.int (1 : Int32))])) _
          refine XS.iloadN X0.here hx rfl (hb hby d4_27) rfl ?_
          exact kt
        obtain ⟨cl152, Ar152, qk152, Sz152, Nn152, Hh152, Gg152⟩ := id V2
        have hin152 : ¬ ((2 : Int32) < 0 ∨ cl152.slots.size ≤ ((2 : Int32)).toNatClampNeg) := inb_of Sz152 ⟨by decide, by decide⟩
        have hat152 : cl152.slots[((2 : Int32)).toNatClampNeg]? = some (.double (FP.i2d y2)) := Hh152.at hin152 rfl
        have pre153 : ∀ t, Steps p.tables e below (s₁.setTop (mkF m 6 #[.val (.ref a1), .val (.ref a2), .val (.int (1 : Int32)), .val (.int (3 : Int32))] [(.ref a1), (.int (3 : Int32))])) t → Steps p.tables e below (s₁.setTop (entryFrame m #[(.ref a1), (.ref a2)] 4)) t := fun t kt => by
          refine pre151 _ ?_
          show Steps p.tables e below (s₁.setTop (mkF m 28 #[.val (.ref a1), .val (.ref a2), .val (.int (1 : Int32)), .val (.int (2 : Int32))] [(.int (2 : Int32)), (.ref a2), (.double (FP.i2d x2)), (.int (1 : Int32))])) _
          refine X0.daload hx (j := (2 : Int32)) (v := (.double (FP.i2d y2))) (by rw [e0]; exact Ar152.1) (State.isArrayOf_alike hZ.alike Ar152.2.1) Ar152.2.2 hin152 hat152 (g := (mkF m 28 #[.val (.ref a1), .val (.ref a2), .val (.int (1 : Int32)), .val (.int (2 : Int32))] [(.int (2 : Int32)), (.ref a2), (.double (FP.i2d x2)), (.int (1 : Int32))])) rfl rfl (hb hby d4_28) _ ?_
          show Steps p.tables e below (s₁.setTop (mkF m 29 #[.val (.ref a1), .val (.ref a2), .val (.int (1 : Int32)), .val (.int (2 : Int32))] [(.double (FP.i2d y2)), (.double (FP.i2d x2)), (.int (1 : Int32))])) _
          refine XS.dcmpS X0.here hx rfl (hb hby d4_29) rfl (own_d0 h128d _) ?_
          show Steps p.tables e below (s₁.setTop (mkF m 30 #[.val (.ref a1), .val (.ref a2), .val (.int (1 : Int32)), .val (.int (2 : Int32))] [(.int (0 : Int32)), (.int (1 : Int32))])) _
          refine XS.ifYes X0.here hx rfl (pc0 := 30) (pc' := 37) rfl (hb hby d4_30) rfl ((if0 _ _).trans (flt (by decide : ¬ ((0 : Int32) < (0 : Int32)))).2.1) (by decide) (by decide) ?_
          show Steps p.tables e below (s₁.setTop (mkF m 37 #[.val (.ref a1), .val (.ref a2), .val (.int (1 : Int32)), .val (.int (2 : Int32))] [(.int (1 : Int32))])) _
          refine XS.iconst X0.here hx rfl (hb hby d4_37) ?_
          show Steps p.tables e below (s₁.setTop (mkF m 38 #[.val (.ref a1), .val (.ref a2), .val (.int (1 : Int32)), .val (.int (2 : Int32))] [(.int (0 : Int32)), (.int (1 : Int32))])) _
          refine XS.ior X0.here hx rfl (hb hby d4_38) rfl ?_
          show Steps p.tables e below (s₁.setTop (mkF m 39 #[.val (.ref a1), .val (.ref a2), .val (.int (1 : Int32)), .val (.int (2 : Int32))] [(.int ((1 : Int32) ||| (0 : Int32)))])) _
          show Steps p.tables e below (s₁.setTop (mkF m 39 #[.val (.ref a1), .val (.ref a2), .val (.int (1 : Int32)), .val (.int (2 : Int32))] [(.int (1 : Int32))])) _
          refine XS.istoreN X0.here hx rfl (hb hby d4_39) rfl (l' := #[.val (.ref a1), .val (.ref a2), .val (.int (1 : Int32)), .val (.int (2 : Int32))]) rfl ?_
          show Steps p.tables e below (s₁.setTop (mkF m 40 #[.val (.ref a1), .val (.ref a2), .val (.int (1 : Int32)), .val (.int (2 : Int32))] [])) _
          refine XS.iinc X0.here hx rfl (hb hby d4_40) rfl (l' := #[.val (.ref a1), .val (.ref a2), .val (.int (1 : Int32)), .val (.int ((2 : Int32) + (1 : Int32)))]) rfl ?_
          show Steps p.tables e below (s₁.setTop (mkF m 43 #[.val (.ref a1), .val (.ref a2), .val (.int (1 : Int32)), .val (.int ((2 : Int32) + (1 : Int32)))] [])) _
          show Steps p.tables e below (s₁.setTop (mkF m 43 #[.val (.ref a1), .val (.ref a2), .val (.int (1 : Int32)), .val (.int (3 : Int32))] [])) _
          refine XS.goto X0.here hx rfl (pc0 := 43) (pc' := 4) rfl (hb hby d4_43) (by decide) (by decide) ?_
          show Steps p.tables e below (s₁.setTop (mkF m 4 #[.val (.ref a1), .val (.ref a2), .val (.int (1 : Int32)), .val (.int (3 : Int32))] [])) _
          refine XS.iloadN X0.here hx rfl (hb hby d4_4) rfl ?_
          show Steps p.tables e below (s₁.setTop (mkF m 5 #[.val (.ref a1), .val (.ref a2), .val (.int (1 : Int32)), .val (.int (3 : Int32))] [(.int (3 : Int32))])) _
          refine XS.aloadN X0.here hx rfl (hb hby d4_5) rfl rfl ?_
          exact kt
        obtain ⟨cl154, Ar154, qk154, Sz154, Nn154, Hh154, Gg154⟩ := id V1
        have pre155 : ∀ t, Steps p.tables e below (s₁.setTop (mkF m 47 #[.val (.ref a1), .val (.ref a2), .val (.int (1 : Int32)), .val (.int (3 : Int32))] [(.int (1 : Int32))])) t → Steps p.tables e below (s₁.setTop (entryFrame m #[(.ref a1), (.ref a2)] 4)) t := fun t kt => by
          refine pre153 _ ?_
          show Steps p.tables e below (s₁.setTop (mkF m 6 #[.val (.ref a1), .val (.ref a2), .val (.int (1 : Int32)), .val (.int (3 : Int32))] [(.ref a1), (.int (3 : Int32))])) _
          refine X0.arraylength hx (by rw [e0]; exact Ar154.1) (State.isArrayOf_alike hZ.alike Ar154.2.1) (g := (mkF m 6 #[.val (.ref a1), .val (.ref a2), .val (.int (1 : Int32)), .val (.int (3 : Int32))] [(.ref a1), (.int (3 : Int32))])) rfl rfl (hb hby d4_6) _ ?_
          rw [len_of Sz154 Nn154]
          show Steps p.tables e below (s₁.setTop (mkF m 7 #[.val (.ref a1), .val (.ref a2), .val (.int (1 : Int32)), .val (.int (3 : Int32))] [(.int (3 : Int32)), (.int (3 : Int32))])) _
          refine XS.icmpYes X0.here hx rfl (pc0 := 7) (pc' := 46) rfl (hb hby d4_7) rfl (flt (by decide : ¬ ((3 : Int32) < (3 : Int32)))).2.1 (by decide) (by decide) ?_
          show Steps p.tables e below (s₁.setTop (mkF m 46 #[.val (.ref a1), .val (.ref a2), .val (.int (1 : Int32)), .val (.int (3 : Int32))] [])) _
          refine XS.iloadN X0.here hx rfl (hb hby d4_46) rfl ?_
          exact kt
        have ev : own_dom [(x0, y0), (x1, y1), (x2, y2)] (0 : Int32) = (1 : Int32) := by simp only [own_dom, h4e, h4f, h116a, h116b, h128e, h128f, if_true, if_false]; try decide
        obtain ⟨fs, hr, hrun, hended, hW, hsame⟩ := X0.leave (v := (some (.int (1 : Int32)))) (fun h => by rw [Bd.returns] at h; cases h)
        refine ⟨_, _, pre155 _ ?_, hrun, hended, _, _, rfl, ?_, ⟨_, rfl⟩, hW, hsame.mono (by decide) (by decide)⟩
        · show Steps p.tables e below (s₁.setTop (mkF m 47 #[.val (.ref a1), .val (.ref a2), .val (.int (1 : Int32)), .val (.int (3 : Int32))] [(.int (1 : Int32))])) _
          exact retN X0 hx (t := .boolean) Bd.returns (by simp) (hb hby d4_47) hr
        · show Q4m3 Z a1 a2 k1 k2 x0 x1 x2 y0 y1 y2 h0 n0 _ s₁.heap _
          rw [e0]
          exact ⟨by rw [ev], N0, rfl⟩
    · have pre156 : ∀ t, Steps p.tables e below (s₁.setTop (mkF m 12 #[.val (.ref a1), .val (.ref a2), .val (.int (0 : Int32)), .val (.int (1 : Int32))] [(.int (1 : Int32)), (.ref a1)])) t → Steps p.tables e below (s₁.setTop (entryFrame m #[(.ref a1), (.ref a2)] 4)) t := fun t kt => by
        refine pre115 _ ?_
        show Steps p.tables e below (s₁.setTop (mkF m 10 #[.val (.ref a1), .val (.ref a2), .val (.int (0 : Int32)), .val (.int (1 : Int32))] [])) _
        refine XS.aloadN X0.here hx rfl (hb hby d4_10) rfl rfl ?_
        show Steps p.tables e below (s₁.setTop (mkF m 11 #[.val (.ref a1), .val (.ref a2), .val (.int (0 : Int32)), .val (.int (1 : Int32))] [(.ref a1)])) _
        refine XS.iloadN X0.here hx rfl (hb hby d4_11) rfl ?_
        exact kt
      obtain ⟨cl157, Ar157, qk157, Sz157, Nn157, Hh157, Gg157⟩ := id V1
      have hin157 : ¬ ((1 : Int32) < 0 ∨ cl157.slots.size ≤ ((1 : Int32)).toNatClampNeg) := inb_of Sz157 ⟨by decide, by decide⟩
      have hat157 : cl157.slots[((1 : Int32)).toNatClampNeg]? = some (.double (FP.i2d x1)) := Hh157.at hin157 rfl
      have pre158 : ∀ t, Steps p.tables e below (s₁.setTop (mkF m 15 #[.val (.ref a1), .val (.ref a2), .val (.int (0 : Int32)), .val (.int (1 : Int32))] [(.int (1 : Int32)), (.ref a2), (.double (FP.i2d x1))])) t → Steps p.tables e below (s₁.setTop (entryFrame m #[(.ref a1), (.ref a2)] 4)) t := fun t kt => by
        refine pre156 _ ?_
        show Steps p.tables e below (s₁.setTop (mkF m 12 #[.val (.ref a1), .val (.ref a2), .val (.int (0 : Int32)), .val (.int (1 : Int32))] [(.int (1 : Int32)), (.ref a1)])) _
        refine X0.daload hx (j := (1 : Int32)) (v := (.double (FP.i2d x1))) (by rw [e0]; exact Ar157.1) (State.isArrayOf_alike hZ.alike Ar157.2.1) Ar157.2.2 hin157 hat157 (g := (mkF m 12 #[.val (.ref a1), .val (.ref a2), .val (.int (0 : Int32)), .val (.int (1 : Int32))] [(.int (1 : Int32)), (.ref a1)])) rfl rfl (hb hby d4_12) _ ?_
        show Steps p.tables e below (s₁.setTop (mkF m 13 #[.val (.ref a1), .val (.ref a2), .val (.int (0 : Int32)), .val (.int (1 : Int32))] [(.double (FP.i2d x1))])) _
        refine XS.aloadN X0.here hx rfl (hb hby d4_13) rfl rfl ?_
        show Steps p.tables e below (s₁.setTop (mkF m 14 #[.val (.ref a1), .val (.ref a2), .val (.int (0 : Int32)), .val (.int (1 : Int32))] [(.ref a2), (.double (FP.i2d x1))])) _
        refine XS.iloadN X0.here hx rfl (hb hby d4_14) rfl ?_
        exact kt
      obtain ⟨cl159, Ar159, qk159, Sz159, Nn159, Hh159, Gg159⟩ := id V2
      have hin159 : ¬ ((1 : Int32) < 0 ∨ cl159.slots.size ≤ ((1 : Int32)).toNatClampNeg) := inb_of Sz159 ⟨by decide, by decide⟩
      have hat159 : cl159.slots[((1 : Int32)).toNatClampNeg]? = some (.double (FP.i2d y1)) := Hh159.at hin159 rfl
      have pre160 : ∀ t, Steps p.tables e below (s₁.setTop (mkF m 21 #[.val (.ref a1), .val (.ref a2), .val (.int (0 : Int32)), .val (.int (1 : Int32))] [(.int (0 : Int32))])) t → Steps p.tables e below (s₁.setTop (entryFrame m #[(.ref a1), (.ref a2)] 4)) t := fun t kt => by
        refine pre158 _ ?_
        show Steps p.tables e below (s₁.setTop (mkF m 15 #[.val (.ref a1), .val (.ref a2), .val (.int (0 : Int32)), .val (.int (1 : Int32))] [(.int (1 : Int32)), (.ref a2), (.double (FP.i2d x1))])) _
        refine X0.daload hx (j := (1 : Int32)) (v := (.double (FP.i2d y1))) (by rw [e0]; exact Ar159.1) (State.isArrayOf_alike hZ.alike Ar159.2.1) Ar159.2.2 hin159 hat159 (g := (mkF m 15 #[.val (.ref a1), .val (.ref a2), .val (.int (0 : Int32)), .val (.int (1 : Int32))] [(.int (1 : Int32)), (.ref a2), (.double (FP.i2d x1))])) rfl rfl (hb hby d4_15) _ ?_
        show Steps p.tables e below (s₁.setTop (mkF m 16 #[.val (.ref a1), .val (.ref a2), .val (.int (0 : Int32)), .val (.int (1 : Int32))] [(.double (FP.i2d y1)), (.double (FP.i2d x1))])) _
        refine XS.dcmpS X0.here hx rfl (hb hby d4_16) rfl (own_d2 h116c _) ?_
        show Steps p.tables e below (s₁.setTop (mkF m 17 #[.val (.ref a1), .val (.ref a2), .val (.int (0 : Int32)), .val (.int (1 : Int32))] [(.int (1 : Int32))])) _
        refine XS.ifNo X0.here hx rfl (hb hby d4_17) rfl ((if0 _ _).trans (tlt (by decide : (0 : Int32) < (1 : Int32))).2.2.2) ?_
        show Steps p.tables e below (s₁.setTop (mkF m 20 #[.val (.ref a1), .val (.ref a2), .val (.int (0 : Int32)), .val (.int (1 : Int32))] [])) _
        refine XS.iconst X0.here hx rfl (hb hby d4_20) ?_
        exact kt
      have ev : own_dom [(x0, y0), (x1, y1), (x2, y2)] (0 : Int32) = (0 : Int32) := by simp only [own_dom, h4e, h4f, h116c, if_true, if_false]; try decide
      obtain ⟨fs, hr, hrun, hended, hW, hsame⟩ := X0.leave (v := (some (.int (0 : Int32)))) (fun h => by rw [Bd.returns] at h; cases h)
      refine ⟨_, _, pre160 _ ?_, hrun, hended, _, _, rfl, ?_, ⟨_, rfl⟩, hW, hsame.mono (by decide) (by decide)⟩
      · show Steps p.tables e below (s₁.setTop (mkF m 21 #[.val (.ref a1), .val (.ref a2), .val (.int (0 : Int32)), .val (.int (1 : Int32))] [(.int (0 : Int32))])) _
        exact retN X0 hx (t := .boolean) Bd.returns (by simp) (hb hby d4_21) hr
      · show Q4m3 Z a1 a2 k1 k2 x0 x1 x2 y0 y1 y2 h0 n0 _ s₁.heap _
        rw [e0]
        exact ⟨by rw [ev], N0, rfl⟩
    · have pre161 : ∀ t, Steps p.tables e below (s₁.setTop (mkF m 12 #[.val (.ref a1), .val (.ref a2), .val (.int (0 : Int32)), .val (.int (1 : Int32))] [(.int (1 : Int32)), (.ref a1)])) t → Steps p.tables e below (s₁.setTop (entryFrame m #[(.ref a1), (.ref a2)] 4)) t := fun t kt => by
        refine pre115 _ ?_
        show Steps p.tables e below (s₁.setTop (mkF m 10 #[.val (.ref a1), .val (.ref a2), .val (.int (0 : Int32)), .val (.int (1 : Int32))] [])) _
        refine XS.aloadN X0.here hx rfl (hb hby d4_10) rfl rfl ?_
        show Steps p.tables e below (s₁.setTop (mkF m 11 #[.val (.ref a1), .val (.ref a2), .val (.int (0 : Int32)), .val (.int (1 : Int32))] [(.ref a1)])) _
        refine XS.iloadN X0.here hx rfl (hb hby d4_11) rfl ?_
        exact kt
      obtain ⟨cl162, Ar162, qk162, Sz162, Nn162, Hh162, Gg162⟩ := id V1
      have hin162 : ¬ ((1 : Int32) < 0 ∨ cl162.slots.size ≤ ((1 : Int32)).toNatClampNeg) := inb_of Sz162 ⟨by decide, by decide⟩
      have hat162 : cl162.slots[((1 : Int32)).toNatClampNeg]? = some (.double (FP.i2d x1)) := Hh162.at hin162 rfl
      have pre163 : ∀ t, Steps p.tables e below (s₁.setTop (mkF m 15 #[.val (.ref a1), .val (.ref a2), .val (.int (0 : Int32)), .val (.int (1 : Int32))] [(.int (1 : Int32)), (.ref a2), (.double (FP.i2d x1))])) t → Steps p.tables e below (s₁.setTop (entryFrame m #[(.ref a1), (.ref a2)] 4)) t := fun t kt => by
        refine pre161 _ ?_
        show Steps p.tables e below (s₁.setTop (mkF m 12 #[.val (.ref a1), .val (.ref a2), .val (.int (0 : Int32)), .val (.int (1 : Int32))] [(.int (1 : Int32)), (.ref a1)])) _
        refine X0.daload hx (j := (1 : Int32)) (v := (.double (FP.i2d x1))) (by rw [e0]; exact Ar162.1) (State.isArrayOf_alike hZ.alike Ar162.2.1) Ar162.2.2 hin162 hat162 (g := (mkF m 12 #[.val (.ref a1), .val (.ref a2), .val (.int (0 : Int32)), .val (.int (1 : Int32))] [(.int (1 : Int32)), (.ref a1)])) rfl rfl (hb hby d4_12) _ ?_
        show Steps p.tables e below (s₁.setTop (mkF m 13 #[.val (.ref a1), .val (.ref a2), .val (.int (0 : Int32)), .val (.int (1 : Int32))] [(.double (FP.i2d x1))])) _
        refine XS.aloadN X0.here hx rfl (hb hby d4_13) rfl rfl ?_
        show Steps p.tables e below (s₁.setTop (mkF m 14 #[.val (.ref a1), .val (.ref a2), .val (.int (0 : Int32)), .val (.int (1 : Int32))] [(.ref a2), (.double (FP.i2d x1))])) _
        refine XS.iloadN X0.here hx rfl (hb hby d4_14) rfl ?_
        exact kt
      obtain ⟨cl164, Ar164, qk164, Sz164, Nn164, Hh164, Gg164⟩ := id V2
      have hin164 : ¬ ((1 : Int32) < 0 ∨ cl164.slots.size ≤ ((1 : Int32)).toNatClampNeg) := inb_of Sz164 ⟨by decide, by decide⟩
      have hat164 : cl164.slots[((1 : Int32)).toNatClampNeg]? = some (.double (FP.i2d y1)) := Hh164.at hin164 rfl
      have pre165 : ∀ t, Steps p.tables e below (s₁.setTop (mkF m 25 #[.val (.ref a1), .val (.ref a2), .val (.int (0 : Int32)), .val (.int (1 : Int32))] [(.int (1 : Int32)), (.ref a1), (.int (0 : Int32))])) t → Steps p.tables e below (s₁.setTop (entryFrame m #[(.ref a1), (.ref a2)] 4)) t := fun t kt => by
        refine pre163 _ ?_
        show Steps p.tables e below (s₁.setTop (mkF m 15 #[.val (.ref a1), .val (.ref a2), .val (.int (0 : Int32)), .val (.int (1 : Int32))] [(.int (1 : Int32)), (.ref a2), (.double (FP.i2d x1))])) _
        refine X0.daload hx (j := (1 : Int32)) (v := (.double (FP.i2d y1))) (by rw [e0]; exact Ar164.1) (State.isArrayOf_alike hZ.alike Ar164.2.1) Ar164.2.2 hin164 hat164 (g := (mkF m 15 #[.val (.ref a1), .val (.ref a2), .val (.int (0 : Int32)), .val (.int (1 : Int32))] [(.int (1 : Int32)), (.ref a2), (.double (FP.i2d x1))])) rfl rfl (hb hby d4_15) _ ?_
        show Steps p.tables e below (s₁.setTop (mkF m 16 #[.val (.ref a1), .val (.ref a2), .val (.int (0 : Int32)), .val (.int (1 : Int32))] [(.double (FP.i2d y1)), (.double (FP.i2d x1))])) _
        refine XS.dcmpS X0.here hx rfl (hb hby d4_16) rfl (own_d0 h116d _) ?_
        show Steps p.tables e below (s₁.setTop (mkF m 17 #[.val (.ref a1), .val (.ref a2), .val (.int (0 : Int32)), .val (.int (1 : Int32))] [(.int (0 : Int32))])) _
        refine XS.ifYes X0.here hx rfl (pc0 := 17) (pc' := 22) rfl (hb hby d4_17) rfl ((if0 _ _).trans (flt (by decide : ¬ ((0 : Int32) < (0 : Int32)))).2.2.2) (by decide) (by decide) ?_
        show Steps p.tables e below (s₁.setTop (mkF m 22 #[.val (.ref a1), .val (.ref a2), .val (.int (0 : Int32)), .val (.int (1 : Int32))] [])) _
        refine XS.iloadN X0.here hx rfl (hb hby d4_22) rfl ?_
        show Steps p.tables e below (s₁.setTop (mkF m 23 #[.val (.ref a1), .val (.ref a2), .val (.int (0 : Int32)), .val (.int (1 : Int32))] [(.int (0 : Int32))])) _
        refine XS.aloadN X0.here hx rfl (hb hby d4_23) rfl rfl ?_
        show Steps p.tables e below (s₁.setTop (mkF m 24 #[.val (.ref a1), .val (.ref a2), .val (.int (0 : Int32)), .val (.int (1 : Int32))] [(.ref a1), (.int (0 : Int32))])) _
        refine XS.iloadN X0.here hx rfl (hb hby d4_24) rfl ?_
        exact kt
      obtain ⟨cl166, Ar166, qk166, Sz166, Nn166, Hh166, Gg166⟩ := id V1
      have hin166 : ¬ ((1 : Int32) < 0 ∨ cl166.slots.size ≤ ((1 : Int32)).toNatClampNeg) := inb_of Sz166 ⟨by decide, by decide⟩
      have hat166 : cl166.slots[((1 : Int32)).toNatClampNeg]? = some (.double (FP.i2d x1)) := Hh166.at hin166 rfl
      have pre167 : ∀ t, Steps p.tables e below (s₁.setTop (mkF m 28 #[.val (.ref a1), .val (.ref a2), .val (.int (0 : Int32)), .val (.int (1 : Int32))] [(.int (1 : Int32)), (.ref a2), (.double (FP.i2d x1)), (.int (0 : Int32))])) t → Steps p.tables e below (s₁.setTop (entryFrame m #[(.ref a1), (.ref a2)] 4)) t := fun t kt => by
        refine pre165 _ ?_
        show Steps p.tables e below (s₁.setTop (mkF m 25 #[.val (.ref a1), .val (.ref a2), .val (.int (0 : Int32)), .val (.int (1 : Int32))] [(.int (1 : Int32)), (.ref a1), (.int (0 : Int32))])) _
        refine X0.daload hx (j := (1 : Int32)) (v := (.double (FP.i2d x1))) (by rw [e0]; exact Ar166.1) (State.isArrayOf_alike hZ.alike Ar166.2.1) Ar166.2.2 hin166 hat166 (g := (mkF m 25 #[.val (.ref a1), .val (.ref a2), .val (.int (0 : Int32)), .val (.int (1 : Int32))] [(.int (1 : Int32)), (.ref a1), (.int (0 : Int32))])) rfl rfl (hb hby d4_25) _ ?_
        show Steps p.tables e below (s₁.setTop (mkF m 26 #[.val (.ref a1), .val (.ref a2), .val (.int (0 : Int32)), .val (.int (1 : Int32))] [(.double (FP.i2d x1)), (.int (0 : Int32))])) _
        refine XS.aloadN X0.here hx rfl (hb hby d4_26) rfl rfl ?_
        show Steps p.tables e below (s₁.setTop (mkF m 27 #[.val (.ref a1), .val (.ref a2), .val (.int (0 : Int32)), .val (.int (1 : Int32))] [(.ref a2), (.double (FP.i2d x1)), (.int (0 : Int32))])) _
        refine XS.iloadN X0.here hx rfl (hb hby d4_27) rfl ?_
        exact kt
      obtain ⟨cl168, Ar168, qk168, Sz168, Nn168, Hh168, Gg168⟩ := id V2
      have hin168 : ¬ ((1 : Int32) < 0 ∨ cl168.slots.size ≤ ((1 : Int32)).toNatClampNeg) := inb_of Sz168 ⟨by decide, by decide⟩
      have hat168 : cl168.slots[((1 : Int32)).toNatClampNeg]? = some (.double (FP.i2d y1)) := Hh168.at hin168 rfl
      have pre169 : ∀ t, Steps p.tables e below (s₁.setTop (mkF m 6 #[.val (.ref a1), .val (.ref a2), .val (.int (0 : Int32)), .val (.int (2 : Int32))] [(.ref a1), (.int (2 : Int32))])) t → Steps p.tables e below (s₁.setTop (entryFrame m #[(.ref a1), (.ref a2)] 4)) t := fun t kt => by
        refine pre167 _ ?_
        show Steps p.tables e below (s₁.setTop (mkF m 28 #[.val (.ref a1), .val (.ref a2), .val (.int (0 : Int32)), .val (.int (1 : Int32))] [(.int (1 : Int32)), (.ref a2), (.double (FP.i2d x1)), (.int (0 : Int32))])) _
        refine X0.daload hx (j := (1 : Int32)) (v := (.double (FP.i2d y1))) (by rw [e0]; exact Ar168.1) (State.isArrayOf_alike hZ.alike Ar168.2.1) Ar168.2.2 hin168 hat168 (g := (mkF m 28 #[.val (.ref a1), .val (.ref a2), .val (.int (0 : Int32)), .val (.int (1 : Int32))] [(.int (1 : Int32)), (.ref a2), (.double (FP.i2d x1)), (.int (0 : Int32))])) rfl rfl (hb hby d4_28) _ ?_
        show Steps p.tables e below (s₁.setTop (mkF m 29 #[.val (.ref a1), .val (.ref a2), .val (.int (0 : Int32)), .val (.int (1 : Int32))] [(.double (FP.i2d y1)), (.double (FP.i2d x1)), (.int (0 : Int32))])) _
        refine XS.dcmpS X0.here hx rfl (hb hby d4_29) rfl (own_d0 h116d _) ?_
        show Steps p.tables e below (s₁.setTop (mkF m 30 #[.val (.ref a1), .val (.ref a2), .val (.int (0 : Int32)), .val (.int (1 : Int32))] [(.int (0 : Int32)), (.int (0 : Int32))])) _
        refine XS.ifYes X0.here hx rfl (pc0 := 30) (pc' := 37) rfl (hb hby d4_30) rfl ((if0 _ _).trans (flt (by decide : ¬ ((0 : Int32) < (0 : Int32)))).2.1) (by decide) (by decide) ?_
        show Steps p.tables e below (s₁.setTop (mkF m 37 #[.val (.ref a1), .val (.ref a2), .val (.int (0 : Int32)), .val (.int (1 : Int32))] [(.int (0 : Int32))])) _
        refine XS.iconst X0.here hx rfl (hb hby d4_37) ?_
        show Steps p.tables e below (s₁.setTop (mkF m 38 #[.val (.ref a1), .val (.ref a2), .val (.int (0 : Int32)), .val (.int (1 : Int32))] [(.int (0 : Int32)), (.int (0 : Int32))])) _
        refine XS.ior X0.here hx rfl (hb hby d4_38) rfl ?_
        show Steps p.tables e below (s₁.setTop (mkF m 39 #[.val (.ref a1), .val (.ref a2), .val (.int (0 : Int32)), .val (.int (1 : Int32))] [(.int ((0 : Int32) ||| (0 : Int32)))])) _
        show Steps p.tables e below (s₁.setTop (mkF m 39 #[.val (.ref a1), .val (.ref a2), .val (.int (0 : Int32)), .val (.int (1 : Int32))] [(.int (0 : Int32))])) _
        refine XS.istoreN X0.here hx rfl (hb hby d4_39) rfl (l' := #[.val (.ref a1), .val (.ref a2), .val (.int (0 : Int32)), .val (.int (1 : Int32))]) rfl ?_
        show Steps p.tables e below (s₁.setTop (mkF m 40 #[.val (.ref a1), .val (.ref a2), .val (.int (0 : Int32)), .val (.int (1 : Int32))] [])) _
        refine XS.iinc X0.here hx rfl (hb hby d4_40) rfl (l' := #[.val (.ref a1), .val (.ref a2), .val (.int (0 : Int32)), .val (.int ((1 : Int32) + (1 : Int32)))]) rfl ?_
        show Steps p.tables e below (s₁.setTop (mkF m 43 #[.val (.ref a1), .val (.ref a2), .val (.int (0 : Int32)), .val (.int ((1 : Int32) + (1 : Int32)))] [])) _
        show Steps p.tables e below (s₁.setTop (mkF m 43 #[.val (.ref a1), .val (.ref a2), .val (.int (0 : Int32)), .val (.int (2 : Int32))] [])) _
        refine XS.goto X0.here hx rfl (pc0 := 43) (pc' := 4) rfl (hb hby d4_43) (by decide) (by decide) ?_
        show Steps p.tables e below (s₁.setTop (mkF m 4 #[.val (.ref a1), .val (.ref a2), .val (.int (0 : Int32)), .val (.int (2 : Int32))] [])) _
        refine XS.iloadN X0.here hx rfl (hb hby d4_4) rfl ?_
        show Steps p.tables e below (s₁.setTop (mkF m 5 #[.val (.ref a1), .val (.ref a2), .val (.int (0 : Int32)), .val (.int (2 : Int32))] [(.int (2 : Int32))])) _
        refine XS.aloadN X0.here hx rfl (hb hby d4_5) rfl rfl ?_
        exact kt
      obtain ⟨cl170, Ar170, qk170, Sz170, Nn170, Hh170, Gg170⟩ := id V1
      have pre171 : ∀ t, Steps p.tables e below (s₁.setTop (mkF m 10 #[.val (.ref a1), .val (.ref a2), .val (.int (0 : Int32)), .val (.int (2 : Int32))] [])) t → Steps p.tables e below (s₁.setTop (entryFrame m #[(.ref a1), (.ref a2)] 4)) t := fun t kt => by
        refine pre169 _ ?_
        show Steps p.tables e below (s₁.setTop (mkF m 6 #[.val (.ref a1), .val (.ref a2), .val (.int (0 : Int32)), .val (.int (2 : Int32))] [(.ref a1), (.int (2 : Int32))])) _
        refine X0.arraylength hx (by rw [e0]; exact Ar170.1) (State.isArrayOf_alike hZ.alike Ar170.2.1) (g := (mkF m 6 #[.val (.ref a1), .val (.ref a2), .val (.int (0 : Int32)), .val (.int (2 : Int32))] [(.ref a1), (.int (2 : Int32))])) rfl rfl (hb hby d4_6) _ ?_
        rw [len_of Sz170 Nn170]
        show Steps p.tables e below (s₁.setTop (mkF m 7 #[.val (.ref a1), .val (.ref a2), .val (.int (0 : Int32)), .val (.int (2 : Int32))] [(.int (3 : Int32)), (.int (2 : Int32))])) _
        refine XS.icmpNo X0.here hx rfl (hb hby d4_7) rfl (tlt (by decide : (2 : Int32) < (3 : Int32))).2.1 ?_
        exact kt
      rcases own_tri x2 y2 with ⟨h172a, h172b⟩ | h172c | ⟨h172d, h172e, h172f⟩
      · have pre173 : ∀ t, Steps p.tables e below (s₁.setTop (mkF m 12 #[.val (.ref a1), .val (.ref a2), .val (.int (0 : Int32)), .val (.int (2 : Int32))] [(.int (2 : Int32)), (.ref a1)])) t → Steps p.tables e below (s₁.setTop (entryFrame m #[(.ref a1), (.ref a2)] 4)) t := fun t kt => by
          refine pre171 _ ?_
          show Steps p.tables e below (s₁.setTop (mkF m 10 #[.val (.ref a1), .val (.ref a2), .val (.int (0 : Int32)), .val (.int (2 : Int32))] [])) _
          refine XS.aloadN X0.here hx rfl (hb hby d4_10) rfl rfl ?_
          show Steps p.tables e below (s₁.setTop (mkF m 11 #[.val (.ref a1), .val (.ref a2), .val (.int (0 : Int32)), .val (.int (2 : Int32))] [(.ref a1)])) _
          refine XS.iloadN X0.here hx rfl (hb hby d4_11) rfl ?_
          exact kt
        obtain ⟨cl174, Ar174, qk174, Sz174, Nn174, Hh174, Gg174⟩ := id V1
        have hin174 : ¬ ((2 : Int32) < 0 ∨ cl174.slots.size ≤ ((2 : Int32)).toNatClampNeg) := inb_of Sz174 ⟨by decide, by decide⟩
        have hat174 : cl174.slots[((2 : Int32)).toNatClampNeg]? = some (.double (FP.i2d x2)) := Hh174.at hin174 rfl
        have pre175 : ∀ t, Steps p.tables e below (s₁.setTop (mkF m 15 #[.val (.ref a1), .val (.ref a2), .val (.int (0 : Int32)), .val (.int (2 : Int32))] [(.int (2 : Int32)), (.ref a2), (.double (FP.i2d x2))])) t → Steps p.tables e below (s₁.setTop (entryFrame m #[(.ref a1), (.ref a2)] 4)) t := fun t kt => by
          refine pre173 _ ?_
          show Steps p.tables e below (s₁.setTop (mkF m 12 #[.val (.ref a1), .val (.ref a2), .val (.int (0 : Int32)), .val (.int (2 : Int32))] [(.int (2 : Int32)), (.ref a1)])) _
          refine X0.daload hx (j := (2 : Int32)) (v := (.double (FP.i2d x2))) (by rw [e0]; exact Ar174.1) (State.isArrayOf_alike hZ.alike Ar174.2.1) Ar174.2.2 hin174 hat174 (g := (mkF m 12 #[.val (.ref a1), .val (.ref a2), .val (.int (0 : Int32)), .val (.int (2 : Int32))] [(.int (2 : Int32)), (.ref a1)])) rfl rfl (hb hby d4_12) _ ?_
          show Steps p.tables e below (s₁.setTop (mkF m 13 #[.val (.ref a1), .val (.ref a2), .val (.int (0 : Int32)), .val (.int (2 : Int32))] [(.double (FP.i2d x2))])) _
          refine XS.aloadN X0.here hx rfl (hb hby d4_13) rfl rfl ?_
          show Steps p.tables e below (s₁.setTop (mkF m 14 #[.val (.ref a1), .val (.ref a2), .val (.int (0 : Int32)), .val (.int (2 : Int32))] [(.ref a2), (.double (FP.i2d x2))])) _
          refine XS.iloadN X0.here hx rfl (hb hby d4_14) rfl ?_
          exact kt
        obtain ⟨cl176, Ar176, qk176, Sz176, Nn176, Hh176, Gg176⟩ := id V2
        have hin176 : ¬ ((2 : Int32) < 0 ∨ cl176.slots.size ≤ ((2 : Int32)).toNatClampNeg) := inb_of Sz176 ⟨by decide, by decide⟩
        have hat176 : cl176.slots[((2 : Int32)).toNatClampNeg]? = some (.double (FP.i2d y2)) := Hh176.at hin176 rfl
        have pre177 : ∀ t, Steps p.tables e below (s₁.setTop (mkF m 25 #[.val (.ref a1), .val (.ref a2), .val (.int (0 : Int32)), .val (.int (2 : Int32))] [(.int (2 : Int32)), (.ref a1), (.int (0 : Int32))])) t → Steps p.tables e below (s₁.setTop (entryFrame m #[(.ref a1), (.ref a2)] 4)) t := fun t kt => by
          refine pre175 _ ?_
          show Steps p.tables e below (s₁.setTop (mkF m 15 #[.val (.ref a1), .val (.ref a2), .val (.int (0 : Int32)), .val (.int (2 : Int32))] [(.int (2 : Int32)), (.ref a2), (.double (FP.i2d x2))])) _
          refine X0.daload hx (j := (2 : Int32)) (v := (.double (FP.i2d y2))) (by rw [e0]; exact Ar176.1) (State.isArrayOf_alike hZ.alike Ar176.2.1) Ar176.2.2 hin176 hat176 (g := (mkF m 15 #[.val (.ref a1), .val (.ref a2), .val (.int (0 : Int32)), .val (.int (2 : Int32))] [(.int (2 : Int32)), (.ref a2), (.double (FP.i2d x2))])) rfl rfl (hb hby d4_15) _ ?_
          show Steps p.tables e below (s₁.setTop (mkF m 16 #[.val (.ref a1), .val (.ref a2), .val (.int (0 : Int32)), .val (.int (2 : Int32))] [(.double (FP.i2d y2)), (.double (FP.i2d x2))])) _
          refine XS.dcmpS X0.here hx rfl (hb hby d4_16) rfl (own_d1 h172a _) ?_
          show Steps p.tables e below (s₁.setTop (mkF m 17 #[.val (.ref a1), .val (.ref a2), .val (.int (0 : Int32)), .val (.int (2 : Int32))] [(.int (-1 : Int32))])) _
          refine XS.ifYes X0.here hx rfl (pc0 := 17) (pc' := 22) rfl (hb hby d4_17) rfl ((if0 _ _).trans (flt (by decide : ¬ ((0 : Int32) < (-1 : Int32)))).2.2.2) (by decide) (by decide) ?_
          show Steps p.tables e below (s₁.setTop (mkF m 22 #[.val (.ref a1), .val (.ref a2), .val (.int (0 : Int32)), .val (.int (2 : Int32))] [])) _
          refine XS.iloadN X0.here hx rfl (hb hby d4_22) rfl ?_
          show Steps p.tables e below (s₁.setTop (mkF m 23 #[.val (.ref a1), .val (.ref a2), .val (.int (0 : Int32)), .val (.int (2 : Int32))] [(.int (0 : Int32))])) _
          refine XS.aloadN X0.here hx rfl (hb hby d4_23) rfl rfl ?_
          show Steps p.tables e below (s₁.setTop (mkF m 24 #[.val (.ref a1), .val (.ref a2), .val (.int (0 : Int32)), .val (.int (2 : Int32))] [(.ref a1), (.int (0 : Int32))])) _
          refine XS.iloadN X0.here hx rfl (hb hby d4_24) rfl ?_
          exact kt
        obtain ⟨cl178, Ar178, qk178, Sz178, Nn178, Hh178, Gg178⟩ := id V1
        have hin178 : ¬ ((2 : Int32) < 0 ∨ cl178.slots.size ≤ ((2 : Int32)).toNatClampNeg) := inb_of Sz178 ⟨by decide, by decide⟩
        have hat178 : cl178.slots[((2 : Int32)).toNatClampNeg]? = some (.double (FP.i2d x2)) := Hh178.at hin178 rfl
        have pre179 : ∀ t, Steps p.tables e below (s₁.setTop (mkF m 28 #[.val (.ref a1), .val (.ref a2), .val (.int (0 : Int32)), .val (.int (2 : Int32))] [(.int (2 : Int32)), (.ref a2), (.double (FP.i2d x2)), (.int (0 : Int32))])) t → Steps p.tables e below (s₁.setTop (entryFrame m #[(.ref a1), (.ref a2)] 4)) t := fun t kt => by
          refine pre177 _ ?_
          show Steps p.tables e below (s₁.setTop (mkF m 25 #[.val (.ref a1), .val (.ref a2), .val (.int (0 : Int32)), .val (.int (2 : Int32))] [(.int (2 : Int32)), (.ref a1), (.int (0 : Int32))])) _
          refine X0.daload hx (j := (2 : Int32)) (v := (.double (FP.i2d x2))) (by rw [e0]; exact Ar178.1) (State.isArrayOf_alike hZ.alike Ar178.2.1) Ar178.2.2 hin178 hat178 (g := (mkF m 25 #[.val (.ref a1), .val (.ref a2), .val (.int (0 : Int32)), .val (.int (2 : Int32))] [(.int (2 : Int32)), (.ref a1), (.int (0 : Int32))])) rfl rfl (hb hby d4_25) _ ?_
          show Steps p.tables e below (s₁.setTop (mkF m 26 #[.val (.ref a1), .val (.ref a2), .val (.int (0 : Int32)), .val (.int (2 : Int32))] [(.double (FP.i2d x2)), (.int (0 : Int32))])) _
          refine XS.aloadN X0.here hx rfl (hb hby d4_26) rfl rfl ?_
          show Steps p.tables e below (s₁.setTop (mkF m 27 #[.val (.ref a1), .val (.ref a2), .val (.int (0 : Int32)), .val (.int (2 : Int32))] [(.ref a2), (.double (FP.i2d x2)), (.int (0 : Int32))])) _
          refine XS.iloadN X0.here hx rfl (hb hby d4_27) rfl ?_
          exact kt
        obtain ⟨cl180, Ar180, qk180, Sz180, Nn180, Hh180, Gg180⟩ := id V2
        have hin180 : ¬ ((2 : Int32) < 0 ∨ cl180.slots.size ≤ ((2 : Int32)).toNatClampNeg) := inb_of Sz180 ⟨by decide, by decide⟩
        have hat180 : cl180.slots[((2 : Int32)).toNatClampNeg]? = some (.double (FP.i2d y2)) := Hh180.at hin180 rfl
        have pre181 : ∀ t, Steps p.tables e below (s₁.setTop (mkF m 6 #[.val (.ref a1), .val (.ref a2), .val (.int (1 : Int32)), .val (.int (3 : Int32))] [(.ref a1), (.int (3 : Int32))])) t → Steps p.tables e below (s₁.setTop (entryFrame m #[(.ref a1), (.ref a2)] 4)) t := fun t kt => by
          refine pre179 _ ?_
          show Steps p.tables e below (s₁.setTop (mkF m 28 #[.val (.ref a1), .val (.ref a2), .val (.int (0 : Int32)), .val (.int (2 : Int32))] [(.int (2 : Int32)), (.ref a2), (.double (FP.i2d x2)), (.int (0 : Int32))])) _
          refine X0.daload hx (j := (2 : Int32)) (v := (.double (FP.i2d y2))) (by rw [e0]; exact Ar180.1) (State.isArrayOf_alike hZ.alike Ar180.2.1) Ar180.2.2 hin180 hat180 (g := (mkF m 28 #[.val (.ref a1), .val (.ref a2), .val (.int (0 : Int32)), .val (.int (2 : Int32))] [(.int (2 : Int32)), (.ref a2), (.double (FP.i2d x2)), (.int (0 : Int32))])) rfl rfl (hb hby d4_28) _ ?_
          show Steps p.tables e below (s₁.setTop (mkF m 29 #[.val (.ref a1), .val (.ref a2), .val (.int (0 : Int32)), .val (.int (2 : Int32))] [(.double (FP.i2d y2)), (.double (FP.i2d x2)), (.int (0 : Int32))])) _
          refine XS.dcmpS X0.here hx rfl (hb hby d4_29) rfl (own_d1 h172a _) ?_
          show Steps p.tables e below (s₁.setTop (mkF m 30 #[.val (.ref a1), .val (.ref a2), .val (.int (0 : Int32)), .val (.int (2 : Int32))] [(.int (-1 : Int32)), (.int (0 : Int32))])) _
          refine XS.ifNo X0.here hx rfl (hb hby d4_30) rfl ((if0 _ _).trans (tlt (by decide : (-1 : Int32) < (0 : Int32))).2.1) ?_
          show Steps p.tables e below (s₁.setTop (mkF m 33 #[.val (.ref a1), .val (.ref a2), .val (.int (0 : Int32)), .val (.int (2 : Int32))] [(.int (0 : Int32))])) _
          refine XS.iconst X0.here hx rfl (hb hby d4_33) ?_
          show Steps p.tables e below (s₁.setTop (mkF m 34 #[.val (.ref a1), .val (.ref a2), .val (.int (0 : Int32)), .val (.int (2 : Int32))] [(.int (1 : Int32)), (.int (0 : Int32))])) _
          refine XS.goto X0.here hx rfl (pc0 := 34) (pc' := 38) rfl (hb hby d4_34) (by decide) (by decide) ?_
          show Steps p.tables e below (s₁.setTop (mkF m 38 #[.val (.ref a1), .val (.ref a2), .val (.int (0 : Int32)), .val (.int (2 : Int32))] [(.int (1 : Int32)), (.int (0 : Int32))])) _
          refine XS.ior X0.here hx rfl (hb hby d4_38) rfl ?_
          show Steps p.tables e below (s₁.setTop (mkF m 39 #[.val (.ref a1), .val (.ref a2), .val (.int (0 : Int32)), .val (.int (2 : Int32))] [(.int ((0 : Int32) ||| (1 : Int32)))])) _
          show Steps p.tables e below (s₁.setTop (mkF m 39 #[.val (.ref a1), .val (.ref a2), .val (.int (0 : Int32)), .val (.int (2 : Int32))] [(.int (1 : Int32))])) _
          refine XS.istoreN X0.here hx rfl (hb hby d4_39) rfl (l' := #[.val (.ref a1), .val (.ref a2), .val (.int (1 : Int32)), .val (.int (2 : Int32))]) rfl ?_
          show Steps p.tables e below (s₁.setTop (mkF m 40 #[.val (.ref a1), .val (.ref a2), .val (.int (1 : Int32)), .val (.int (2 : Int32))] [])) _
          refine XS.iinc X0.here hx rfl (hb hby d4_40) rfl (l' := #[.val (.ref a1), .val (.ref a2), .val (.int (1 : Int32)), .val (.int ((2 : Int32) + (1 : Int32)))]) rfl ?_
          show Steps p.tables e below (s₁.setTop (mkF m 43 #[.val (.ref a1), .val (.ref a2), .val (.int (1 : Int32)), .val (.int ((2 : Int32) + (1 : Int32)))] [])) _
          show Steps p.tables e below (s₁.setTop (mkF m 43 #[.val (.ref a1), .val (.ref a2), .val (.int (1 : Int32)), .val (.int (3 : Int32))] [])) _
          refine XS.goto X0.here hx rfl (pc0 := 43) (pc' := 4) rfl (hb hby d4_43) (by decide) (by decide) ?_
          show Steps p.tables e below (s₁.setTop (mkF m 4 #[.val (.ref a1), .val (.ref a2), .val (.int (1 : Int32)), .val (.int (3 : Int32))] [])) _
          refine XS.iloadN X0.here hx rfl (hb hby d4_4) rfl ?_
          show Steps p.tables e below (s₁.setTop (mkF m 5 #[.val (.ref a1), .val (.ref a2), .val (.int (1 : Int32)), .val (.int (3 : Int32))] [(.int (3 : Int32))])) _
          refine XS.aloadN X0.here hx rfl (hb hby d4_5) rfl rfl ?_
          exact kt
        obtain ⟨cl182, Ar182, qk182, Sz182, Nn182, Hh182, Gg182⟩ := id V1
        have pre183 : ∀ t, Steps p.tables e below (s₁.setTop (mkF m 47 #[.val (.ref a1), .val (.ref a2), .val (.int (1 : Int32)), .val (.int (3 : Int32))] [(.int (1 : Int32))])) t → Steps p.tables e below (s₁.setTop (entryFrame m #[(.ref a1), (.ref a2)] 4)) t := fun t kt => by
          refine pre181 _ ?_
          show Steps p.tables e below (s₁.setTop (mkF m 6 #[.val (.ref a1), .val (.ref a2), .val (.int (1 : Int32)), .val (.int (3 : Int32))] [(.ref a1), (.int (3 : Int32))])) _
          refine X0.arraylength hx (by rw [e0]; exact Ar182.1) (State.isArrayOf_alike hZ.alike Ar182.2.1) (g := (mkF m 6 #[.val (.ref a1), .val (.ref a2), .val (.int (1 : Int32)), .val (.int (3 : Int32))] [(.ref a1), (.int (3 : Int32))])) rfl rfl (hb hby d4_6) _ ?_
          rw [len_of Sz182 Nn182]
          show Steps p.tables e below (s₁.setTop (mkF m 7 #[.val (.ref a1), .val (.ref a2), .val (.int (1 : Int32)), .val (.int (3 : Int32))] [(.int (3 : Int32)), (.int (3 : Int32))])) _
          refine XS.icmpYes X0.here hx rfl (pc0 := 7) (pc' := 46) rfl (hb hby d4_7) rfl (flt (by decide : ¬ ((3 : Int32) < (3 : Int32)))).2.1 (by decide) (by decide) ?_
          show Steps p.tables e below (s₁.setTop (mkF m 46 #[.val (.ref a1), .val (.ref a2), .val (.int (1 : Int32)), .val (.int (3 : Int32))] [])) _
          refine XS.iloadN X0.here hx rfl (hb hby d4_46) rfl ?_
          exact kt
        have ev : own_dom [(x0, y0), (x1, y1), (x2, y2)] (0 : Int32) = (1 : Int32) := by simp only [own_dom, h4e, h4f, h116e, h116f, h172a, h172b, if_true, if_false]; try decide
        obtain ⟨fs, hr, hrun, hended, hW, hsame⟩ := X0.leave (v := (some (.int (1 : Int32)))) (fun h => by rw [Bd.returns] at h; cases h)
        refine ⟨_, _, pre183 _ ?_, hrun, hended, _, _, rfl, ?_, ⟨_, rfl⟩, hW, hsame.mono (by decide) (by decide)⟩
        · show Steps p.tables e below (s₁.setTop (mkF m 47 #[.val (.ref a1), .val (.ref a2), .val (.int (1 : Int32)), .val (.int (3 : Int32))] [(.int (1 : Int32))])) _
          exact retN X0 hx (t := .boolean) Bd.returns (by simp) (hb hby d4_47) hr
        · show Q4m3 Z a1 a2 k1 k2 x0 x1 x2 y0 y1 y2 h0 n0 _ s₁.heap _
          rw [e0]
          exact ⟨by rw [ev], N0, rfl⟩
      · have pre184 : ∀ t, Steps p.tables e below (s₁.setTop (mkF m 12 #[.val (.ref a1), .val (.ref a2), .val (.int (0 : Int32)), .val (.int (2 : Int32))] [(.int (2 : Int32)), (.ref a1)])) t → Steps p.tables e below (s₁.setTop (entryFrame m #[(.ref a1), (.ref a2)] 4)) t := fun t kt => by
          refine pre171 _ ?_
          show Steps p.tables e below (s₁.setTop (mkF m 10 #[.val (.ref a1), .val (.ref a2), .val (.int (0 : Int32)), .val (.int (2 : Int32))] [])) _
          refine XS.aloadN X0.here hx rfl (hb hby d4_10) rfl rfl ?_
          show Steps p.tables e below (s₁.setTop (mkF m 11 #[.val (.ref a1), .val (.ref a2), .val (.int (0 : Int32)), .val (.int (2 : Int32))] [(.ref a1)])) _
          refine XS.iloadN X0.here hx rfl (hb hby d4_11) rfl ?_
          exact kt
        obtain ⟨cl185, Ar185, qk185, Sz185, Nn185, Hh185, Gg185⟩ := id V1
        have hin185 : ¬ ((2 : Int32) < 0 ∨ cl185.slots.size ≤ ((2 : Int32)).toNatClampNeg) := inb_of Sz185 ⟨by decide, by decide⟩
        have hat185 : cl185.slots[((2 : Int32)).toNatClampNeg]? = some (.double (FP.i2d x2)) := Hh185.at hin185 rfl
        have pre186 : ∀ t, Steps p.tables e below (s₁.setTop (mkF m 15 #[.val (.ref a1), .val (.ref a2), .val (.int (0 : Int32)), .val (.int (2 : Int32))] [(.int (2 : Int32)), (.ref a2), (.double (FP.i2d x2))])) t → Steps p.tables e below (s₁.setTop (entryFrame m #[(.ref a1), (.ref a2)] 4)) t := fun t kt => by
          refine pre184 _ ?_
          show Steps p.tables e below (s₁.setTop (mkF m 12 #[.val (.ref a1), .val (.ref a2), .val (.int (0 : Int32)), .val (.int (2 : Int32))] [(.int (2 : Int32)), (.ref a1)])) _
          refine X0.daload hx (j := (2 : Int32)) (v := (.double (FP.i2d x2))) (by rw [e0]; exact Ar185.1) (State.isArrayOf_alike hZ.alike Ar185.2.1) Ar185.2.2 hin185 hat185 (g := (mkF m 12 #[.val (.ref a1), .val (.ref a2), .val (.int (0 : Int32)), .val (.int (2 : Int32))] [(.int (2 : Int32)), (.ref a1)])) rfl rfl (hb hby d4_12) _ ?_
          show Steps p.tables e below (s₁.setTop (mkF m 13 #[.val (.ref a1), .val (.ref a2), .val (.int (0 : Int32)), .val (.int (2 : Int32))] [(.double (FP.i2d x2))])) _
          refine XS.aloadN X0.here hx rfl (hb hby d4_13) rfl rfl ?_
          show Steps p.tables e below (s₁.setTop (mkF m 14 #[.val (.ref a1), .val (.ref a2), .val (.int (0 : Int32)), .val (.int (2 : Int32))] [(.ref a2), (.double (FP.i2d x2))])) _
          refine XS.iloadN X0.here hx rfl (hb hby d4_14) rfl ?_
          exact kt
        obtain ⟨cl187, Ar187, qk187, Sz187, Nn187, Hh187, Gg187⟩ := id V2
        have hin187 : ¬ ((2 : Int32) < 0 ∨ cl187.slots.size ≤ ((2 : Int32)).toNatClampNeg) := inb_of Sz187 ⟨by decide, by decide⟩
        have hat187 : cl187.slots[((2 : Int32)).toNatClampNeg]? = some (.double (FP.i2d y2)) := Hh187.at hin187 rfl
        have pre188 : ∀ t, Steps p.tables e below (s₁.setTop (mkF m 21 #[.val (.ref a1), .val (.ref a2), .val (.int (0 : Int32)), .val (.int (2 : Int32))] [(.int (0 : Int32))])) t → Steps p.tables e below (s₁.setTop (entryFrame m #[(.ref a1), (.ref a2)] 4)) t := fun t kt => by
          refine pre186 _ ?_
          show Steps p.tables e below (s₁.setTop (mkF m 15 #[.val (.ref a1), .val (.ref a2), .val (.int (0 : Int32)), .val (.int (2 : Int32))] [(.int (2 : Int32)), (.ref a2), (.double (FP.i2d x2))])) _
          refine X0.daload hx (j := (2 : Int32)) (v := (.double (FP.i2d y2))) (by rw [e0]; exact Ar187.1) (State.isArrayOf_alike hZ.alike Ar187.2.1) Ar187.2.2 hin187 hat187 (g := (mkF m 15 #[.val (.ref a1), .val (.ref a2), .val (.int (0 : Int32)), .val (.int (2 : Int32))] [(.int (2 : Int32)), (.ref a2), (.double (FP.i2d x2))])) rfl rfl (hb hby d4_15) _ ?_
          show Steps p.tables e below (s₁.setTop (mkF m 16 #[.val (.ref a1), .val (.ref a2), .val (.int (0 : Int32)), .val (.int (2 : Int32))] [(.double (FP.i2d y2)), (.double (FP.i2d x2))])) _
          refine XS.dcmpS X0.here hx rfl (hb hby d4_16) rfl (own_d2 h172c _) ?_
          show Steps p.tables e below (s₁.setTop (mkF m 17 #[.val (.ref a1), .val (.ref a2), .val (.int (0 : Int32)), .val (.int (2 : Int32))] [(.int (1 : Int32))])) _
          refine XS.ifNo X0.here hx rfl (hb hby d4_17) rfl ((if0 _ _).trans (tlt (by decide : (0 : Int32) < (1 : Int32))).2.2.2) ?_
          show Steps p.tables e below (s₁.setTop (mkF m 20 #[.val (.ref a1), .val (.ref a2), .val (.int (0 : Int32)), .val (.int (2 : Int32))] [])) _
          refine XS.iconst X0.here hx rfl (hb hby d4_20) ?_
          exact kt
        have ev : own_dom [(x0, y0), (x1, y1), (x2, y2)] (0 : Int32) = (0 : Int32) := by simp only [own_dom, h4e, h4f, h116e, h116f, h172c, if_true, if_false]; try decide
        obtain ⟨fs, hr, hrun, hended, hW, hsame⟩ := X0.leave (v := (some (.int (0 : Int32)))) (fun h => by rw [Bd.returns] at h; cases h)
        refine ⟨_, _, pre188 _ ?_, hrun, hended, _, _, rfl, ?_, ⟨_, rfl⟩, hW, hsame.mono (by decide) (by decide)⟩
        · show Steps p.tables e below (s₁.setTop (mkF m 21 #[.val (.ref a1), .val (.ref a2), .val (.int (0 : Int32)), .val (.int (2 : Int32))] [(.int (0 : Int32))])) _
          exact retN X0 hx (t := .boolean) Bd.returns (by simp) (hb hby d4_21) hr
        · show Q4m3 Z a1 a2 k1 k2 x0 x1 x2 y0 y1 y2 h0 n0 _ s₁.heap _
          rw [e0]
          exact ⟨by rw [ev], N0, rfl⟩
      · have pre189 : ∀ t, Steps p.tables e below (s₁.setTop (mkF m 12 #[.val (.ref a1), .val (.ref a2), .val (.int (0 : Int32)), .val (.int (2 : Int32))] [(.int (2 : Int32)), (.ref a1)])) t → Steps p.tables e below (s₁.setTop (entryFrame m #[(.ref a1), (.ref a2)] 4)) t := fun t kt => by
          refine pre171 _ ?_
          show Steps p.tables e below (s₁.setTop (mkF m 10 #[.val (.ref a1), .val (.ref a2), .val (.int (0 : Int32)), .val (.int (2 : Int32))] [])) _
          refine XS.aloadN X0.here hx rfl (hb hby d4_10) rfl rfl ?_
          show Steps p.tables e below (s₁.setTop (mkF m 11 #[.val (.ref a1), .val (.ref a2), .val (.int (0 : Int32)), .val (.int (2 : Int32))] [(.ref a1)])) _
          refine XS.iloadN X0.here hx rfl (hb hby d4_11) rfl ?_
          exact kt
        obtain ⟨cl190, Ar190, qk190, Sz190, Nn190, Hh190, Gg190⟩ := id V1
        have hin190 : ¬ ((2 : Int32) < 0 ∨ cl190.slots.size ≤ ((2 : Int32)).toNatClampNeg) := inb_of Sz190 ⟨by decide, by decide⟩
        have hat190 : cl190.slots[((2 : Int32)).toNatClampNeg]? = some (.double (FP.i2d x2)) := Hh190.at hin190 rfl
        have pre191 : ∀ t, Steps p.tables e below (s₁.setTop (mkF m 15 #[.val (.ref a1), .val (.ref a2), .val (.int (0 : Int32)), .val (.int (2 : Int32))] [(.int (2 : Int32)), (.ref a2), (.double (FP.i2d x2))])) t → Steps p.tables e below (s₁.setTop (entryFrame m #[(.ref a1), (.ref a2)] 4)) t := fun t kt => by
          refine pre189 _ ?_
          show Steps p.tables e below (s₁.setTop (mkF m 12 #[.val (.ref a1), .val (.ref a2), .val (.int (0 : Int32)), .val (.int (2 : Int32))] [(.int (2 : Int32)), (.ref a1)])) _
          refine X0.daload hx (j := (2 : Int32)) (v := (.double (FP.i2d x2))) (by rw [e0]; exact Ar190.1) (State.isArrayOf_alike hZ.alike Ar190.2.1) Ar190.2.2 hin190 hat190 (g := (mkF m 12 #[.val (.ref a1), .val (.ref a2), .val (.int (0 : Int32)), .val (.int (2 : Int32))] [(.int (2 : Int32)), (.ref a1)])) rfl rfl (hb hby d4_12) _ ?_
          show Steps p.tables e below (s₁.setTop (mkF m 13 #[.val (.ref a1), .val (.ref a2), .val (.int (0 : Int32)), .val (.int (2 : Int32))] [(.double (FP.i2d x2))])) _
          refine XS.aloadN X0.here hx rfl (hb hby d4_13) rfl rfl ?_
          show Steps p.tables e below (s₁.setTop (mkF m 14 #[.val (.ref a1), .val (.ref a2), .val (.int (0 : Int32)), .val (.int (2 : Int32))] [(.ref a2), (.double (FP.i2d x2))])) _
          refine XS.iloadN X0.here hx rfl (hb hby d4_14) rfl ?_
          exact kt
        obtain ⟨cl192, Ar192, qk192, Sz192, Nn192, Hh192, Gg192⟩ := id V2
        have hin192 : ¬ ((2 : Int32) < 0 ∨ cl192.slots.size ≤ ((2 : Int32)).toNatClampNeg) := inb_of Sz192 ⟨by decide, by decide⟩
        have hat192 : cl192.slots[((2 : Int32)).toNatClampNeg]? = some (.double (FP.i2d y2)) := Hh192.at hin192 rfl
        have pre193 : ∀ t, Steps p.tables e below (s₁.setTop (mkF m 25 #[.val (.ref a1), .val (.ref a2), .val (.int (0 : Int32)), .val (.int (2 : Int32))] [(.int (2 : Int32)), (.ref a1), (.int (0 : Int32))])) t → Steps p.tables e below (s₁.setTop (entryFrame m #[(.ref a1), (.ref a2)] 4)) t := fun t kt => by
          refine pre191 _ ?_
          show Steps p.tables e below (s₁.setTop (mkF m 15 #[.val (.ref a1), .val (.ref a2), .val (.int (0 : Int32)), .val (.int (2 : Int32))] [(.int (2 : Int32)), (.ref a2), (.double (FP.i2d x2))])) _
          refine X0.daload hx (j := (2 : Int32)) (v := (.double (FP.i2d y2))) (by rw [e0]; exact Ar192.1) (State.isArrayOf_alike hZ.alike Ar192.2.1) Ar192.2.2 hin192 hat192 (g := (mkF m 15 #[.val (.ref a1), .val (.ref a2), .val (.int (0 : Int32)), .val (.int (2 : Int32))] [(.int (2 : Int32)), (.ref a2), (.double (FP.i2d x2))])) rfl rfl (hb hby d4_15) _ ?_
          show Steps p.tables e below (s₁.setTop (mkF m 16 #[.val (.ref a1), .val (.ref a2), .val (.int (0 : Int32)), .val (.int (2 : Int32))] [(.double (FP.i2d y2)), (.double (FP.i2d x2))])) _
          refine XS.dcmpS X0.here hx rfl (hb hby d4_16) rfl (own_d0 h172d _) ?_
          show Steps p.tables e below (s₁.setTop (mkF m 17 #[.val (.ref a1), .val (.ref a2), .val (.int (0 : Int32)), .val (.int (2 : Int32))] [(.int (0 : Int32))])) _
          refine XS.ifYes X0.here hx rfl (pc0 := 17) (pc' := 22) rfl (hb hby d4_17) rfl ((if0 _ _).trans (flt (by decide : ¬ ((0 : Int32) < (0 : Int32)))).2.2.2) (by decide) (by decide) ?_
          show Steps p.tables e below (s₁.setTop (mkF m 22 #[.val (.ref a1), .val (.ref a2), .val (.int (0 : Int32)), .val (.int (2 : Int32))] [])) _
          refine XS.iloadN X0.here hx rfl (hb hby d4_22) rfl ?_
          show Steps p.tables e below (s₁.setTop (mkF m 23 #[.val (.ref a1), .val (.ref a2), .val (.int (0 : Int32)), .val (.int (2 : Int32))] [(.int (0 : Int32))])) _
          refine XS.aloadN X0.here hx rfl (hb hby d4_23) rfl rfl ?_
          show Steps p.tables e below (s₁.setTop (mkF m 24 #[.val (.ref a1), .val (.ref a2), .val (.int (0 : Int32)), .val (.int (2 : Int32))] [(.ref a1), (.int (0 : Int32))])) _
          refine XS.iloadN X0.here hx rfl (hb hby d4_24) rfl ?_
          exact kt
        obtain ⟨cl194, Ar194, qk194, Sz194, Nn194, Hh194, Gg194⟩ := id V1
        have hin194 : ¬ ((2 : Int32) < 0 ∨ cl194.slots.size ≤ ((2 : Int32)).toNatClampNeg) := inb_of Sz194 ⟨by decide, by decide⟩
        have hat194 : cl194.slots[((2 : Int32)).toNatClampNeg]? = some (.double (FP.i2d x2)) := Hh194.at hin194 rfl
        have pre195 : ∀ t, Steps p.tables e below (s₁.setTop (mkF m 28 #[.val (.ref a1), .val (.ref a2), .val (.int (0 : Int32)), .val (.int (2 : Int32))] [(.int (2 : Int32)), (.ref a2), (.double (FP.i2d x2)), (.int (0 : Int32))])) t → Steps p.tables e below (s₁.setTop (entryFrame m #[(.ref a1), (.ref a2)] 4)) t := fun t kt => by
          refine pre193 _ ?_
          show Steps p.tables e below (s₁.setTop (mkF m 25 #[.val (.ref a1), .val (.ref a2), .val (.int (0 : Int32)), .val (.int (2 : Int32))] [(.int (2 : Int32)), (.ref a1), (.int (0 : Int32))])) _
          refine X0.daload hx (j := (2 : Int32)) (v := (.double (FP.i2d x2))) (by rw [e0]; exact Ar194.1) (State.isArrayOf_alike hZ.alike Ar194.2.1) Ar194.2.2 hin194 hat194 (g := (mkF m 25 #[.val (.ref a1), .val (.ref a2), .val (.int (0 : Int32)), .val (.int (2 : Int32))] [(.int (2 : Int32)), (.ref a1), (.int (0 : Int32))])) rfl rfl (hb hby d4_25) _ ?_
          show Steps p.tables e below (s₁.setTop (mkF m 26 #[.val (.ref a1), .val (.ref a2), .val (.int (0 : Int32)), .val (.int (2 : Int32))] [(.double (FP.i2d x2)), (.int (0 : Int32))])) _
          refine XS.aloadN X0.here hx rfl (hb hby d4_26) rfl rfl ?_
          show Steps p.tables e below (s₁.setTop (mkF m 27 #[.val (.ref a1), .val (.ref a2), .val (.int (0 : Int32)), .val (.int (2 : Int32))] [(.ref a2), (.double (FP.i2d x2)), (.int (0 : Int32))])) _
          refine XS.iloadN X0.here hx rfl (hb hby d4_27) rfl ?_
          exact kt
        obtain ⟨cl196, Ar196, qk196, Sz196, Nn196, Hh196, Gg196⟩ := id V2
        have hin196 : ¬ ((2 : Int32) < 0 ∨ cl196.slots.size ≤ ((2 : Int32)).toNatClampNeg) := inb_of Sz196 ⟨by decide, by decide⟩
        have hat196 : cl196.slots[((2 : Int32)).toNatClampNeg]? = some (.double (FP.i2d y2)) := Hh196.at hin196 rfl
        have pre197 : ∀ t, Steps p.tables e below (s₁.setTop (mkF m 6 #[.val (.ref a1), .val (.ref a2), .val (.int (0 : Int32)), .val (.int (3 : Int32))] [(.ref a1), (.int (3 : Int32))])) t → Steps p.tables e below (s₁.setTop (entryFrame m #[(.ref a1), (.ref a2)] 4)) t := fun t kt => by
          refine pre195 _ ?_
          show Steps p.tables e below (s₁.setTop (mkF m 28 #[.val (.ref a1), .val (.ref a2), .val (.int (0 : Int32)), .val (.int (2 : Int32))] [(.int (2 : Int32)), (.ref a2), (.double (FP.i2d x2)), (.int (0 : Int32))])) _
          refine X0.daload hx (j := (2 : Int32)) (v := (.double (FP.i2d y2))) (by rw [e0]; exact Ar196.1) (State.isArrayOf_alike hZ.alike Ar196.2.1) Ar196.2.2 hin196 hat196 (g := (mkF m 28 #[.val (.ref a1), .val (.ref a2), .val (.int (0 : Int32)), .val (.int (2 : Int32))] [(.int (2 : Int32)), (.ref a2), (.double (FP.i2d x2)), (.int (0 : Int32))])) rfl rfl (hb hby d4_28) _ ?_
          show Steps p.tables e below (s₁.setTop (mkF m 29 #[.val (.ref a1), .val (.ref a2), .val (.int (0 : Int32)), .val (.int (2 : Int32))] [(.double (FP.i2d y2)), (.double (FP.i2d x2)), (.int (0 : Int32))])) _
          refine XS.dcmpS X0.here hx rfl (hb hby d4_29) rfl (own_d0 h172d _) ?_
          show Steps p.tables e below (s₁.setTop (mkF m 30 #[.val (.ref a1), .val (.ref a2), .val (.int (0 : Int32)), .val (.int (2 : Int32))] [(.int (0 : Int32)), (.int (0 : Int32))])) _
          refine XS.ifYes X0.here hx rfl (pc0 := 30) (pc' := 37) rfl (hb hby d4_30) rfl ((if0 _ _).trans (flt (by decide : ¬ ((0 : Int32) < (0 : Int32)))).2.1) (by decide) (by decide) ?_
          show Steps p.tables e below (s₁.setTop (mkF m 37 #[.val (.ref a1), .val (.ref a2), .val (.int (0 : Int32)), .val (.int (2 : Int32))] [(.int (0 : Int32))])) _
          refine XS.iconst X0.here hx rfl (hb hby d4_37) ?_
          show Steps p.tables e below (s₁.setTop (mkF m 38 #[.val (.ref a1), .val (.ref a2), .val (.int (0 : Int32)), .val (.int (2 : Int32))] [(.int (0 : Int32)), (.int (0 : Int32))])) _
          refine XS.ior X0.here hx rfl (hb hby d4_38) rfl ?_
          show Steps p.tables e below (s₁.setTop (mkF m 39 #[.val (.ref a1), .val (.ref a2), .val (.int (0 : Int32)), .val (.int (2 : Int32))] [(.int ((0 : Int32) ||| (0 : Int32)))])) _
          show Steps p.tables e below (s₁.setTop (mkF m 39 #[.val (.ref a1), .val (.ref a2), .val (.int (0 : Int32)), .val (.int (2 : Int32))] [(.int (0 : Int32))])) _
          refine XS.istoreN X0.here hx rfl (hb hby d4_39) rfl (l' := #[.val (.ref a1), .val (.ref a2), .val (.int (0 : Int32)), .val (.int (2 : Int32))]) rfl ?_
          show Steps p.tables e below (s₁.setTop (mkF m 40 #[.val (.ref a1), .val (.ref a2), .val (.int (0 : Int32)), .val (.int (2 : Int32))] [])) _
          refine XS.iinc X0.here hx rfl (hb hby d4_40) rfl (l' := #[.val (.ref a1), .val (.ref a2), .val (.int (0 : Int32)), .val (.int ((2 : Int32) + (1 : Int32)))]) rfl ?_
          show Steps p.tables e below (s₁.setTop (mkF m 43 #[.val (.ref a1), .val (.ref a2), .val (.int (0 : Int32)), .val (.int ((2 : Int32) + (1 : Int32)))] [])) _
          show Steps p.tables e below (s₁.setTop (mkF m 43 #[.val (.ref a1), .val (.ref a2), .val (.int (0 : Int32)), .val (.int (3 : Int32))] [])) _
          refine XS.goto X0.here hx rfl (pc0 := 43) (pc' := 4) rfl (hb hby d4_43) (by decide) (by decide) ?_
          show Steps p.tables e below (s₁.setTop (mkF m 4 #[.val (.ref a1), .val (.ref a2), .val (.int (0 : Int32)), .val (.int (3 : Int32))] [])) _
          refine XS.iloadN X0.here hx rfl (hb hby d4_4) rfl ?_
          show Steps p.tables e below (s₁.setTop (mkF m 5 #[.val (.ref a1), .val (.ref a2), .val (.int (0 : Int32)), .val (.int (3 : Int32))] [(.int (3 : Int32))])) _
          refine XS.aloadN X0.here hx rfl (hb hby d4_5) rfl rfl ?_
          exact kt
        obtain ⟨cl198, Ar198, qk198, Sz198, Nn198, Hh198, Gg198⟩ := id V1
        have pre199 : ∀ t, Steps p.tables e below (s₁.setTop (mkF m 47 #[.val (.ref a1), .val (.ref a2), .val (.int (0 : Int32)), .val (.int (3 : Int32))] [(.int (0 : Int32))])) t → Steps p.tables e below (s₁.setTop (entryFrame m #[(.ref a1), (.ref a2)] 4)) t := fun t kt => by
          refine pre197 _ ?_
          show Steps p.tables e below (s₁.setTop (mkF m 6 #[.val (.ref a1), .val (.ref a2), .val (.int (0 : Int32)), .val (.int (3 : Int32))] [(.ref a1), (.int (3 : Int32))])) _
          refine X0.arraylength hx (by rw [e0]; exact Ar198.1) (State.isArrayOf_alike hZ.alike Ar198.2.1) (g := (mkF m 6 #[.val (.ref a1), .val (.ref a2), .val (.int (0 : Int32)), .val (.int (3 : Int32))] [(.ref a1), (.int (3 : Int32))])) rfl rfl (hb hby d4_6) _ ?_
          rw [len_of Sz198 Nn198]
          show Steps p.tables e below (s₁.setTop (mkF m 7 #[.val (.ref a1), .val (.ref a2), .val (.int (0 : Int32)), .val (.int (3 : Int32))] [(.int (3 : Int32)), (.int (3 : Int32))])) _
          refine XS.icmpYes X0.here hx rfl (pc0 := 7) (pc' := 46) rfl (hb hby d4_7) rfl (flt (by decide : ¬ ((3 : Int32) < (3 : Int32)))).2.1 (by decide) (by decide) ?_
          show Steps p.tables e below (s₁.setTop (mkF m 46 #[.val (.ref a1), .val (.ref a2), .val (.int (0 : Int32)), .val (.int (3 : Int32))] [])) _
          refine XS.iloadN X0.here hx rfl (hb hby d4_46) rfl ?_
          exact kt
        have ev : own_dom [(x0, y0), (x1, y1), (x2, y2)] (0 : Int32) = (0 : Int32) := by simp only [own_dom, h4e, h4f, h116e, h116f, h172e, h172f, if_true, if_false]; try decide
        obtain ⟨fs, hr, hrun, hended, hW, hsame⟩ := X0.leave (v := (some (.int (0 : Int32)))) (fun h => by rw [Bd.returns] at h; cases h)
        refine ⟨_, _, pre199 _ ?_, hrun, hended, _, _, rfl, ?_, ⟨_, rfl⟩, hW, hsame.mono (by decide) (by decide)⟩
        · show Steps p.tables e below (s₁.setTop (mkF m 47 #[.val (.ref a1), .val (.ref a2), .val (.int (0 : Int32)), .val (.int (3 : Int32))] [(.int (0 : Int32))])) _
          exact retN X0 hx (t := .boolean) Bd.returns (by simp) (hb hby d4_47) hr
        · show Q4m3 Z a1 a2 k1 k2 x0 x1 x2 y0 y1 y2 h0 n0 _ s₁.heap _
          rw [e0]
          exact ⟨by rw [ev], N0, rfl⟩
theorem ef_0 (m : MethodId) (p0 : Int32) (q1 : Int64) (q2 : Int64) (q3 : Int64) : entryFrame m #[(.int p0), (.long q1), (.long q2), (.long q3)] maxLocals = (mkF m 0 #[.val (.int p0), .val (.long q1), .second, .val (.long q2), .second, .val (.long q3), .second, .unset, .unset, .unset, .unset, .unset, .unset, .unset, .unset, .unset, .unset, .unset, .unset] []) := by first | (simp [entryFrame, mkF, argsToLocals, Value.category, maxLocals]; done) | rfl
theorem pd_0 : parseMethodDescriptor "(J)I" = some ⟨[.long], some .int⟩ := by decide +kernel
theorem pd_1 : parseMethodDescriptor "(IIII)[D" = some ⟨[.int, .int, .int, .int], some (.array .double)⟩ := by decide +kernel
theorem pd_2 : parseMethodDescriptor "([D[D)Z" = some ⟨[(.array .double), (.array .double)], some .boolean⟩ := by decide +kernel
def Q0 (Z : State) (p0 : Int32) (q1 : Int64) (q2 : Int64) (q3 : Int64) (h0 : Heap) (n0 : Nat) (v : Option Value) (h : Heap) (L : List Loc) : Prop := v = some (.int (1 : Int32)) ∧ Fr n0 L
set_option maxRecDepth 65536 in
set_option maxHeartbeats 40000000 in
theorem rm0 (l : Launch) (Z : State) (a0 : Array Value) (hw : ∀ d ∈ tables_1, d.before a0 Z = true) (ws : List Jvm.Cond) (p0 : Int32) (q1 : Int64) (q2 : Int64) (q3 : Int64) (h0 : Heap) (n0 : Nat) (Z0 : n0 ≤ h0.size) :
    MetFree l x (head1 (Jvm.Cond.code x code maxLocals ret :: ws) room_1) (fun a U => a = #[(.int p0), (.long q1), (.long q2), (.long q3)] ∧ Z.Warmed39 U.vm ∧ U.heap = h0) (fun _ _ _ _ _ => True) (fun _ U o U' => ∃ v L, o = .returned v ∧ Q0 Z p0 q1 q2 q3 h0 n0 v U'.heap L ∧ FrameEnd U o U' L room_1.cells room_1.slots) := by
  refine MetFree.of_bodySF (plainFor_of_name pn_0) hisR ?_
  intro p e s m args below meth c s₁ Bd hml0 hP hK
  obtain ⟨rfl, hZ, hh⟩ := hP
  have hx := Bd.exec
  have hby := Bd.bytes
  have hml : c.maxLocals = 19 := hml0
  have hown : s.vm.findClass "com/example/tesserae/tesserae/core/VectorsDominatesPinLaw" = some m.cls := findClass_of_methodNamed Bd.named
  have hnm := (name_of_methodNamed Bd.named Bd.method).1
  have X0 : Stand p l e room_1 s m #[(.int p0), (.long q1), (.long q2), (.long q3)] below meth c s₁ [] 0 0 := Stand.of_body Bd
  have e0 : s₁.heap = h0 := by rw [← hh, Bd.state]; rfl
  have N0 := Fr.nil n0
  have pre0 : ∀ t, Steps p.tables e below (s₁.setTop (mkF m 0 #[.val (.int p0), .val (.long q1), .second, .val (.long q2), .second, .val (.long q3), .second, .unset, .unset, .unset, .unset, .unset, .unset, .unset, .unset, .unset, .unset, .unset, .unset] [])) t → Steps p.tables e below (s₁.setTop (entryFrame m #[(.int p0), (.long q1), (.long q2), (.long q3)] maxLocals)) t := fun t k => castTop (ef_0 m p0 q1 q2 q3) k
  have pre1 : ∀ t, Steps p.tables e below (s₁.setTop (mkF m 3 #[.val (.int p0), .val (.long q1), .second, .val (.long q2), .second, .val (.long q3), .second, .unset, .unset, .unset, .unset, .unset, .unset, .unset, .unset, .unset, .unset, .unset, .unset] [(.int (own_n p0))])) t → Steps p.tables e below (s₁.setTop (entryFrame m #[(.int p0), (.long q1), (.long q2), (.long q3)] maxLocals)) t := fun t kt => by
    refine pre0 _ ?_
    show Steps p.tables e below (s₁.setTop (mkF m 0 #[.val (.int p0), .val (.long q1), .second, .val (.long q2), .second, .val (.long q3), .second, .unset, .unset, .unset, .unset, .unset, .unset, .unset, .unset, .unset, .unset, .unset, .unset] [])) _
    refine XS.iloadN X0.here hx rfl (hb hby at_0) rfl ?_
    show Steps p.tables e below (s₁.setTop (mkF m 1 #[.val (.int p0), .val (.long q1), .second, .val (.long q2), .second, .val (.long q3), .second, .unset, .unset, .unset, .unset, .unset, .unset, .unset, .unset, .unset, .unset, .unset, .unset] [(.int p0)])) _
    refine XS.iconst X0.here hx rfl (hb hby at_1) ?_
    show Steps p.tables e below (s₁.setTop (mkF m 2 #[.val (.int p0), .val (.long q1), .second, .val (.long q2), .second, .val (.long q3), .second, .unset, .unset, .unset, .unset, .unset, .unset, .unset, .unset, .unset, .unset, .unset, .unset] [(.int (3 : Int32)), (.int p0)])) _
    refine XS.iand X0.here hx rfl (hb hby at_2) rfl ?_
    show Steps p.tables e below (s₁.setTop (mkF m 3 #[.val (.int p0), .val (.long q1), .second, .val (.long q2), .second, .val (.long q3), .second, .unset, .unset, .unset, .unset, .unset, .unset, .unset, .unset, .unset, .unset, .unset, .unset] [(.int (own_n p0))])) _
    exact kt
  rcases own_nf p0 with hn | hn | hn | hn
  · have pre2 : ∀ t, Steps p.tables e below (s₁.setTop (mkF m 6 #[.val (.int p0), .val (.long q1), .second, .val (.long q2), .second, .val (.long q3), .second, .val (.int (0 : Int32)), .unset, .unset, .unset, .unset, .unset, .unset, .unset, .unset, .unset, .unset, .unset] [(.long q1)])) t → Steps p.tables e below (s₁.setTop (entryFrame m #[(.int p0), (.long q1), (.long q2), (.long q3)] maxLocals)) t := fun t kt => by
      refine pre1 _ ?_
      show Steps p.tables e below (s₁.setTop (mkF m 3 #[.val (.int p0), .val (.long q1), .second, .val (.long q2), .second, .val (.long q3), .second, .unset, .unset, .unset, .unset, .unset, .unset, .unset, .unset, .unset, .unset, .unset, .unset] [(.int (own_n p0))])) _
      rw [show (own_n p0) = (0 : Int32) from hn]
      show Steps p.tables e below (s₁.setTop (mkF m 3 #[.val (.int p0), .val (.long q1), .second, .val (.long q2), .second, .val (.long q3), .second, .unset, .unset, .unset, .unset, .unset, .unset, .unset, .unset, .unset, .unset, .unset, .unset] [(.int (0 : Int32))])) _
      refine XS.istore X0.here hx rfl (hb hby at_3) rfl (l' := #[.val (.int p0), .val (.long q1), .second, .val (.long q2), .second, .val (.long q3), .second, .val (.int (0 : Int32)), .unset, .unset, .unset, .unset, .unset, .unset, .unset, .unset, .unset, .unset, .unset]) rfl ?_
      show Steps p.tables e below (s₁.setTop (mkF m 5 #[.val (.int p0), .val (.long q1), .second, .val (.long q2), .second, .val (.long q3), .second, .val (.int (0 : Int32)), .unset, .unset, .unset, .unset, .unset, .unset, .unset, .unset, .unset, .unset, .unset] [])) _
      refine XS.lloadN X0.here hx rfl (hb hby at_5) rfl ?_
      exact kt
    obtain ⟨_, _, ⟨T3, L3, kc3, nc3⟩, -, X3, ⟨Lc3, hQ3, l3, y3, z3⟩, st3⟩ := Jvm.LawKit.callS X0 hx (y := (⟨"com/example/tesserae/tesserae/core/VectorsDominatesPinLaw", "hi", "(J)I"⟩ : MethodName)) hown (mvT hZ (hw _ (List.mem_of_getElem? (i := 0) rfl))) (mvT hZ (hw _ (List.mem_of_getElem? (i := 1) rfl))) (mvT hZ (hw _ (List.mem_of_getElem? (i := 2) rfl))) (mvT hZ (hw _ (List.mem_of_getElem? (i := 3) rfl))) (by decide) (backOf (W := 0) (rm1 l Z a0 hw [] q1 h0 n0 Z0) hZ (hw _ (List.mem_of_getElem? (i := 3) rfl)) (hw _ (List.mem_of_getElem? (i := 2) rfl)) (by decide) (by decide)) (g := (mkF m 6 #[.val (.int p0), .val (.long q1), .second, .val (.long q2), .second, .val (.long q3), .second, .val (.int (0 : Int32)), .unset, .unset, .unset, .unset, .unset, .unset, .unset, .unset, .unset, .unset, .unset] [(.long q1)])) rfl (by rw [hml]; rfl) (argsL := [(.long q1)]) (rest := []) (lenOf pd_0 rfl) rfl (by show 2 * 0 + _ ≤ _; exact Nat.le_of_eq rfl) (hb hby at_6) (fun _ _ => ⟨rfl, e0, (by decide : 0 + 0 ≤ _), (by decide : 0 + 0 ≤ _)⟩)
    dsimp only [Pt.U, Pt.locs, Pt.cells, Pt.slots] at X3 l3 y3 z3 st3 hQ3
    subst l3 y3 z3
    obtain ⟨rfl, N3q, he3⟩ := hQ3
    have N3 := Fr.app N0 N3q
    have pre4 : ∀ t, Steps p.tables e below (T3.setTop (mkF m 9 #[.val (.int p0), .val (.long q1), .second, .val (.long q2), .second, .val (.long q3), .second, .val (.int (0 : Int32)), .unset, .unset, .unset, .unset, .unset, .unset, .unset, .unset, .unset, .unset, .unset] [(.int (own_hi q1))])) t → Steps p.tables e below (s₁.setTop (entryFrame m #[(.int p0), (.long q1), (.long q2), (.long q3)] maxLocals)) t := fun t kt => pre2 _ (st3 _ kt)
    have pre5 : ∀ t, Steps p.tables e below (T3.setTop (mkF m 12 #[.val (.int p0), .val (.long q1), .second, .val (.long q2), .second, .val (.long q3), .second, .val (.int (0 : Int32)), .val (.int (own_hi q1)), .unset, .unset, .unset, .unset, .unset, .unset, .unset, .unset, .unset, .unset] [(.long q1)])) t → Steps p.tables e below (s₁.setTop (entryFrame m #[(.int p0), (.long q1), (.long q2), (.long q3)] maxLocals)) t := fun t kt => by
      refine pre4 _ ?_
      show Steps p.tables e below (T3.setTop (mkF m 9 #[.val (.int p0), .val (.long q1), .second, .val (.long q2), .second, .val (.long q3), .second, .val (.int (0 : Int32)), .unset, .unset, .unset, .unset, .unset, .unset, .unset, .unset, .unset, .unset, .unset] [(.int (own_hi q1))])) _
      refine XS.istore X3.here hx rfl (hb hby at_9) rfl (l' := #[.val (.int p0), .val (.long q1), .second, .val (.long q2), .second, .val (.long q3), .second, .val (.int (0 : Int32)), .val (.int (own_hi q1)), .unset, .unset, .unset, .unset, .unset, .unset, .unset, .unset, .unset, .unset]) rfl ?_
      show Steps p.tables e below (T3.setTop (mkF m 11 #[.val (.int p0), .val (.long q1), .second, .val (.long q2), .second, .val (.long q3), .second, .val (.int (0 : Int32)), .val (.int (own_hi q1)), .unset, .unset, .unset, .unset, .unset, .unset, .unset, .unset, .unset, .unset] [])) _
      refine XS.lloadN X3.here hx rfl (hb hby at_11) rfl ?_
      exact kt
    obtain ⟨_, _, ⟨T6, L6, kc6, nc6⟩, -, X6, ⟨Lc6, hQ6, l6, y6, z6⟩, st6⟩ := Jvm.LawKit.callS X3 hx (y := (⟨"com/example/tesserae/tesserae/core/VectorsDominatesPinLaw", "lo", "(J)I"⟩ : MethodName)) hown (mvT hZ (hw _ (List.mem_of_getElem? (i := 4) rfl))) (mvT hZ (hw _ (List.mem_of_getElem? (i := 5) rfl))) (mvT hZ (hw _ (List.mem_of_getElem? (i := 2) rfl))) (mvT hZ (hw _ (List.mem_of_getElem? (i := 6) rfl))) (by decide) (backOf (W := 0) (rm2 l Z a0 hw [] q1 h0 n0 Z0) hZ (hw _ (List.mem_of_getElem? (i := 6) rfl)) (hw _ (List.mem_of_getElem? (i := 2) rfl)) (by decide) (by decide)) (g := (mkF m 12 #[.val (.int p0), .val (.long q1), .second, .val (.long q2), .second, .val (.long q3), .second, .val (.int (0 : Int32)), .val (.int (own_hi q1)), .unset, .unset, .unset, .unset, .unset, .unset, .unset, .unset, .unset, .unset] [(.long q1)])) rfl (by rw [hml]; rfl) (argsL := [(.long q1)]) (rest := []) (lenOf pd_0 rfl) rfl (by show 2 * 0 + _ ≤ _; exact Nat.le_of_eq rfl) (hb hby at_12) (fun _ _ => ⟨rfl, he3, (by decide : 0 + 0 ≤ _), (by decide : 0 + 0 ≤ _)⟩)
    dsimp only [Pt.U, Pt.locs, Pt.cells, Pt.slots] at X6 l6 y6 z6 st6 hQ6
    subst l6 y6 z6
    obtain ⟨rfl, N6q, he6⟩ := hQ6
    have N6 := Fr.app N3 N6q
    have pre7 : ∀ t, Steps p.tables e below (T6.setTop (mkF m 15 #[.val (.int p0), .val (.long q1), .second, .val (.long q2), .second, .val (.long q3), .second, .val (.int (0 : Int32)), .val (.int (own_hi q1)), .unset, .unset, .unset, .unset, .unset, .unset, .unset, .unset, .unset, .unset] [(.int (own_lo q1))])) t → Steps p.tables e below (s₁.setTop (entryFrame m #[(.int p0), (.long q1), (.long q2), (.long q3)] maxLocals)) t := fun t kt => pre5 _ (st6 _ kt)
    have pre8 : ∀ t, Steps p.tables e below (T6.setTop (mkF m 18 #[.val (.int p0), .val (.long q1), .second, .val (.long q2), .second, .val (.long q3), .second, .val (.int (0 : Int32)), .val (.int (own_hi q1)), .val (.int (own_lo q1)), .unset, .unset, .unset, .unset, .unset, .unset, .unset, .unset, .unset] [(.long q2)])) t → Steps p.tables e below (s₁.setTop (entryFrame m #[(.int p0), (.long q1), (.long q2), (.long q3)] maxLocals)) t := fun t kt => by
      refine pre7 _ ?_
      show Steps p.tables e below (T6.setTop (mkF m 15 #[.val (.int p0), .val (.long q1), .second, .val (.long q2), .second, .val (.long q3), .second, .val (.int (0 : Int32)), .val (.int (own_hi q1)), .unset, .unset, .unset, .unset, .unset, .unset, .unset, .unset, .unset, .unset] [(.int (own_lo q1))])) _
      refine XS.istore X6.here hx rfl (hb hby at_15) rfl (l' := #[.val (.int p0), .val (.long q1), .second, .val (.long q2), .second, .val (.long q3), .second, .val (.int (0 : Int32)), .val (.int (own_hi q1)), .val (.int (own_lo q1)), .unset, .unset, .unset, .unset, .unset, .unset, .unset, .unset, .unset]) rfl ?_
      show Steps p.tables e below (T6.setTop (mkF m 17 #[.val (.int p0), .val (.long q1), .second, .val (.long q2), .second, .val (.long q3), .second, .val (.int (0 : Int32)), .val (.int (own_hi q1)), .val (.int (own_lo q1)), .unset, .unset, .unset, .unset, .unset, .unset, .unset, .unset, .unset] [])) _
      refine XS.lloadN X6.here hx rfl (hb hby at_17) rfl ?_
      exact kt
    obtain ⟨_, _, ⟨T9, L9, kc9, nc9⟩, -, X9, ⟨Lc9, hQ9, l9, y9, z9⟩, st9⟩ := Jvm.LawKit.callS X6 hx (y := (⟨"com/example/tesserae/tesserae/core/VectorsDominatesPinLaw", "hi", "(J)I"⟩ : MethodName)) hown (mvT hZ (hw _ (List.mem_of_getElem? (i := 0) rfl))) (mvT hZ (hw _ (List.mem_of_getElem? (i := 1) rfl))) (mvT hZ (hw _ (List.mem_of_getElem? (i := 2) rfl))) (mvT hZ (hw _ (List.mem_of_getElem? (i := 3) rfl))) (by decide) (backOf (W := 0) (rm1 l Z a0 hw [] q2 h0 n0 Z0) hZ (hw _ (List.mem_of_getElem? (i := 3) rfl)) (hw _ (List.mem_of_getElem? (i := 2) rfl)) (by decide) (by decide)) (g := (mkF m 18 #[.val (.int p0), .val (.long q1), .second, .val (.long q2), .second, .val (.long q3), .second, .val (.int (0 : Int32)), .val (.int (own_hi q1)), .val (.int (own_lo q1)), .unset, .unset, .unset, .unset, .unset, .unset, .unset, .unset, .unset] [(.long q2)])) rfl (by rw [hml]; rfl) (argsL := [(.long q2)]) (rest := []) (lenOf pd_0 rfl) rfl (by show 2 * 0 + _ ≤ _; exact Nat.le_of_eq rfl) (hb hby at_18) (fun _ _ => ⟨rfl, he6, (by decide : 0 + 0 ≤ _), (by decide : 0 + 0 ≤ _)⟩)
    dsimp only [Pt.U, Pt.locs, Pt.cells, Pt.slots] at X9 l9 y9 z9 st9 hQ9
    subst l9 y9 z9
    obtain ⟨rfl, N9q, he9⟩ := hQ9
    have N9 := Fr.app N6 N9q
    have pre10 : ∀ t, Steps p.tables e below (T9.setTop (mkF m 21 #[.val (.int p0), .val (.long q1), .second, .val (.long q2), .second, .val (.long q3), .second, .val (.int (0 : Int32)), .val (.int (own_hi q1)), .val (.int (own_lo q1)), .unset, .unset, .unset, .unset, .unset, .unset, .unset, .unset, .unset] [(.int (own_hi q2))])) t → Steps p.tables e below (s₁.setTop (entryFrame m #[(.int p0), (.long q1), (.long q2), (.long q3)] maxLocals)) t := fun t kt => pre8 _ (st9 _ kt)
    have pre11 : ∀ t, Steps p.tables e below (T9.setTop (mkF m 24 #[.val (.int p0), .val (.long q1), .second, .val (.long q2), .second, .val (.long q3), .second, .val (.int (0 : Int32)), .val (.int (own_hi q1)), .val (.int (own_lo q1)), .val (.int (own_hi q2)), .unset, .unset, .unset, .unset, .unset, .unset, .unset, .unset] [(.long q2)])) t → Steps p.tables e below (s₁.setTop (entryFrame m #[(.int p0), (.long q1), (.long q2), (.long q3)] maxLocals)) t := fun t kt => by
      refine pre10 _ ?_
      show Steps p.tables e below (T9.setTop (mkF m 21 #[.val (.int p0), .val (.long q1), .second, .val (.long q2), .second, .val (.long q3), .second, .val (.int (0 : Int32)), .val (.int (own_hi q1)), .val (.int (own_lo q1)), .unset, .unset, .unset, .unset, .unset, .unset, .unset, .unset, .unset] [(.int (own_hi q2))])) _
      refine XS.istore X9.here hx rfl (hb hby at_21) rfl (l' := #[.val (.int p0), .val (.long q1), .second, .val (.long q2), .second, .val (.long q3), .second, .val (.int (0 : Int32)), .val (.int (own_hi q1)), .val (.int (own_lo q1)), .val (.int (own_hi q2)), .unset, .unset, .unset, .unset, .unset, .unset, .unset, .unset]) rfl ?_
      show Steps p.tables e below (T9.setTop (mkF m 23 #[.val (.int p0), .val (.long q1), .second, .val (.long q2), .second, .val (.long q3), .second, .val (.int (0 : Int32)), .val (.int (own_hi q1)), .val (.int (own_lo q1)), .val (.int (own_hi q2)), .unset, .unset, .unset, .unset, .unset, .unset, .unset, .unset] [])) _
      refine XS.lloadN X9.here hx rfl (hb hby at_23) rfl ?_
      exact kt
    obtain ⟨_, _, ⟨T12, L12, kc12, nc12⟩, -, X12, ⟨Lc12, hQ12, l12, y12, z12⟩, st12⟩ := Jvm.LawKit.callS X9 hx (y := (⟨"com/example/tesserae/tesserae/core/VectorsDominatesPinLaw", "lo", "(J)I"⟩ : MethodName)) hown (mvT hZ (hw _ (List.mem_of_getElem? (i := 4) rfl))) (mvT hZ (hw _ (List.mem_of_getElem? (i := 5) rfl))) (mvT hZ (hw _ (List.mem_of_getElem? (i := 2) rfl))) (mvT hZ (hw _ (List.mem_of_getElem? (i := 6) rfl))) (by decide) (backOf (W := 0) (rm2 l Z a0 hw [] q2 h0 n0 Z0) hZ (hw _ (List.mem_of_getElem? (i := 6) rfl)) (hw _ (List.mem_of_getElem? (i := 2) rfl)) (by decide) (by decide)) (g := (mkF m 24 #[.val (.int p0), .val (.long q1), .second, .val (.long q2), .second, .val (.long q3), .second, .val (.int (0 : Int32)), .val (.int (own_hi q1)), .val (.int (own_lo q1)), .val (.int (own_hi q2)), .unset, .unset, .unset, .unset, .unset, .unset, .unset, .unset] [(.long q2)])) rfl (by rw [hml]; rfl) (argsL := [(.long q2)]) (rest := []) (lenOf pd_0 rfl) rfl (by show 2 * 0 + _ ≤ _; exact Nat.le_of_eq rfl) (hb hby at_24) (fun _ _ => ⟨rfl, he9, (by decide : 0 + 0 ≤ _), (by decide : 0 + 0 ≤ _)⟩)
    dsimp only [Pt.U, Pt.locs, Pt.cells, Pt.slots] at X12 l12 y12 z12 st12 hQ12
    subst l12 y12 z12
    obtain ⟨rfl, N12q, he12⟩ := hQ12
    have N12 := Fr.app N9 N12q
    have pre13 : ∀ t, Steps p.tables e below (T12.setTop (mkF m 27 #[.val (.int p0), .val (.long q1), .second, .val (.long q2), .second, .val (.long q3), .second, .val (.int (0 : Int32)), .val (.int (own_hi q1)), .val (.int (own_lo q1)), .val (.int (own_hi q2)), .unset, .unset, .unset, .unset, .unset, .unset, .unset, .unset] [(.int (own_lo q2))])) t → Steps p.tables e below (s₁.setTop (entryFrame m #[(.int p0), (.long q1), (.long q2), (.long q3)] maxLocals)) t := fun t kt => pre11 _ (st12 _ kt)
    have pre14 : ∀ t, Steps p.tables e below (T12.setTop (mkF m 31 #[.val (.int p0), .val (.long q1), .second, .val (.long q2), .second, .val (.long q3), .second, .val (.int (0 : Int32)), .val (.int (own_hi q1)), .val (.int (own_lo q1)), .val (.int (own_hi q2)), .val (.int (own_lo q2)), .unset, .unset, .unset, .unset, .unset, .unset, .unset] [(.long q3)])) t → Steps p.tables e below (s₁.setTop (entryFrame m #[(.int p0), (.long q1), (.long q2), (.long q3)] maxLocals)) t := fun t kt => by
      refine pre13 _ ?_
      show Steps p.tables e below (T12.setTop (mkF m 27 #[.val (.int p0), .val (.long q1), .second, .val (.long q2), .second, .val (.long q3), .second, .val (.int (0 : Int32)), .val (.int (own_hi q1)), .val (.int (own_lo q1)), .val (.int (own_hi q2)), .unset, .unset, .unset, .unset, .unset, .unset, .unset, .unset] [(.int (own_lo q2))])) _
      refine XS.istore X12.here hx rfl (hb hby at_27) rfl (l' := #[.val (.int p0), .val (.long q1), .second, .val (.long q2), .second, .val (.long q3), .second, .val (.int (0 : Int32)), .val (.int (own_hi q1)), .val (.int (own_lo q1)), .val (.int (own_hi q2)), .val (.int (own_lo q2)), .unset, .unset, .unset, .unset, .unset, .unset, .unset]) rfl ?_
      show Steps p.tables e below (T12.setTop (mkF m 29 #[.val (.int p0), .val (.long q1), .second, .val (.long q2), .second, .val (.long q3), .second, .val (.int (0 : Int32)), .val (.int (own_hi q1)), .val (.int (own_lo q1)), .val (.int (own_hi q2)), .val (.int (own_lo q2)), .unset, .unset, .unset, .unset, .unset, .unset, .unset] [])) _
      refine XS.lload X12.here hx rfl (hb hby at_29) rfl ?_
      exact kt
    obtain ⟨_, _, ⟨T15, L15, kc15, nc15⟩, -, X15, ⟨Lc15, hQ15, l15, y15, z15⟩, st15⟩ := Jvm.LawKit.callS X12 hx (y := (⟨"com/example/tesserae/tesserae/core/VectorsDominatesPinLaw", "hi", "(J)I"⟩ : MethodName)) hown (mvT hZ (hw _ (List.mem_of_getElem? (i := 0) rfl))) (mvT hZ (hw _ (List.mem_of_getElem? (i := 1) rfl))) (mvT hZ (hw _ (List.mem_of_getElem? (i := 2) rfl))) (mvT hZ (hw _ (List.mem_of_getElem? (i := 3) rfl))) (by decide) (backOf (W := 0) (rm1 l Z a0 hw [] q3 h0 n0 Z0) hZ (hw _ (List.mem_of_getElem? (i := 3) rfl)) (hw _ (List.mem_of_getElem? (i := 2) rfl)) (by decide) (by decide)) (g := (mkF m 31 #[.val (.int p0), .val (.long q1), .second, .val (.long q2), .second, .val (.long q3), .second, .val (.int (0 : Int32)), .val (.int (own_hi q1)), .val (.int (own_lo q1)), .val (.int (own_hi q2)), .val (.int (own_lo q2)), .unset, .unset, .unset, .unset, .unset, .unset, .unset] [(.long q3)])) rfl (by rw [hml]; rfl) (argsL := [(.long q3)]) (rest := []) (lenOf pd_0 rfl) rfl (by show 2 * 0 + _ ≤ _; exact Nat.le_of_eq rfl) (hb hby at_31) (fun _ _ => ⟨rfl, he12, (by decide : 0 + 0 ≤ _), (by decide : 0 + 0 ≤ _)⟩)
    dsimp only [Pt.U, Pt.locs, Pt.cells, Pt.slots] at X15 l15 y15 z15 st15 hQ15
    subst l15 y15 z15
    obtain ⟨rfl, N15q, he15⟩ := hQ15
    have N15 := Fr.app N12 N15q
    have pre16 : ∀ t, Steps p.tables e below (T15.setTop (mkF m 34 #[.val (.int p0), .val (.long q1), .second, .val (.long q2), .second, .val (.long q3), .second, .val (.int (0 : Int32)), .val (.int (own_hi q1)), .val (.int (own_lo q1)), .val (.int (own_hi q2)), .val (.int (own_lo q2)), .unset, .unset, .unset, .unset, .unset, .unset, .unset] [(.int (own_hi q3))])) t → Steps p.tables e below (s₁.setTop (entryFrame m #[(.int p0), (.long q1), (.long q2), (.long q3)] maxLocals)) t := fun t kt => pre14 _ (st15 _ kt)
    have pre17 : ∀ t, Steps p.tables e below (T15.setTop (mkF m 38 #[.val (.int p0), .val (.long q1), .second, .val (.long q2), .second, .val (.long q3), .second, .val (.int (0 : Int32)), .val (.int (own_hi q1)), .val (.int (own_lo q1)), .val (.int (own_hi q2)), .val (.int (own_lo q2)), .val (.int (own_hi q3)), .unset, .unset, .unset, .unset, .unset, .unset] [(.long q3)])) t → Steps p.tables e below (s₁.setTop (entryFrame m #[(.int p0), (.long q1), (.long q2), (.long q3)] maxLocals)) t := fun t kt => by
      refine pre16 _ ?_
      show Steps p.tables e below (T15.setTop (mkF m 34 #[.val (.int p0), .val (.long q1), .second, .val (.long q2), .second, .val (.long q3), .second, .val (.int (0 : Int32)), .val (.int (own_hi q1)), .val (.int (own_lo q1)), .val (.int (own_hi q2)), .val (.int (own_lo q2)), .unset, .unset, .unset, .unset, .unset, .unset, .unset] [(.int (own_hi q3))])) _
      refine XS.istore X15.here hx rfl (hb hby at_34) rfl (l' := #[.val (.int p0), .val (.long q1), .second, .val (.long q2), .second, .val (.long q3), .second, .val (.int (0 : Int32)), .val (.int (own_hi q1)), .val (.int (own_lo q1)), .val (.int (own_hi q2)), .val (.int (own_lo q2)), .val (.int (own_hi q3)), .unset, .unset, .unset, .unset, .unset, .unset]) rfl ?_
      show Steps p.tables e below (T15.setTop (mkF m 36 #[.val (.int p0), .val (.long q1), .second, .val (.long q2), .second, .val (.long q3), .second, .val (.int (0 : Int32)), .val (.int (own_hi q1)), .val (.int (own_lo q1)), .val (.int (own_hi q2)), .val (.int (own_lo q2)), .val (.int (own_hi q3)), .unset, .unset, .unset, .unset, .unset, .unset] [])) _
      refine XS.lload X15.here hx rfl (hb hby at_36) rfl ?_
      exact kt
    obtain ⟨_, _, ⟨T18, L18, kc18, nc18⟩, -, X18, ⟨Lc18, hQ18, l18, y18, z18⟩, st18⟩ := Jvm.LawKit.callS X15 hx (y := (⟨"com/example/tesserae/tesserae/core/VectorsDominatesPinLaw", "lo", "(J)I"⟩ : MethodName)) hown (mvT hZ (hw _ (List.mem_of_getElem? (i := 4) rfl))) (mvT hZ (hw _ (List.mem_of_getElem? (i := 5) rfl))) (mvT hZ (hw _ (List.mem_of_getElem? (i := 2) rfl))) (mvT hZ (hw _ (List.mem_of_getElem? (i := 6) rfl))) (by decide) (backOf (W := 0) (rm2 l Z a0 hw [] q3 h0 n0 Z0) hZ (hw _ (List.mem_of_getElem? (i := 6) rfl)) (hw _ (List.mem_of_getElem? (i := 2) rfl)) (by decide) (by decide)) (g := (mkF m 38 #[.val (.int p0), .val (.long q1), .second, .val (.long q2), .second, .val (.long q3), .second, .val (.int (0 : Int32)), .val (.int (own_hi q1)), .val (.int (own_lo q1)), .val (.int (own_hi q2)), .val (.int (own_lo q2)), .val (.int (own_hi q3)), .unset, .unset, .unset, .unset, .unset, .unset] [(.long q3)])) rfl (by rw [hml]; rfl) (argsL := [(.long q3)]) (rest := []) (lenOf pd_0 rfl) rfl (by show 2 * 0 + _ ≤ _; exact Nat.le_of_eq rfl) (hb hby at_38) (fun _ _ => ⟨rfl, he15, (by decide : 0 + 0 ≤ _), (by decide : 0 + 0 ≤ _)⟩)
    dsimp only [Pt.U, Pt.locs, Pt.cells, Pt.slots] at X18 l18 y18 z18 st18 hQ18
    subst l18 y18 z18
    obtain ⟨rfl, N18q, he18⟩ := hQ18
    have N18 := Fr.app N15 N18q
    have pre19 : ∀ t, Steps p.tables e below (T18.setTop (mkF m 41 #[.val (.int p0), .val (.long q1), .second, .val (.long q2), .second, .val (.long q3), .second, .val (.int (0 : Int32)), .val (.int (own_hi q1)), .val (.int (own_lo q1)), .val (.int (own_hi q2)), .val (.int (own_lo q2)), .val (.int (own_hi q3)), .unset, .unset, .unset, .unset, .unset, .unset] [(.int (own_lo q3))])) t → Steps p.tables e below (s₁.setTop (entryFrame m #[(.int p0), (.long q1), (.long q2), (.long q3)] maxLocals)) t := fun t kt => pre17 _ (st18 _ kt)
    have pre20 : ∀ t, Steps p.tables e below (T18.setTop (mkF m 51 #[.val (.int p0), .val (.long q1), .second, .val (.long q2), .second, .val (.long q3), .second, .val (.int (0 : Int32)), .val (.int (own_hi q1)), .val (.int (own_lo q1)), .val (.int (own_hi q2)), .val (.int (own_lo q2)), .val (.int (own_hi q3)), .val (.int (own_lo q3)), .unset, .unset, .unset, .unset, .unset] [(.int (own_hi q3)), (.int (own_hi q2)), (.int (own_hi q1)), (.int (0 : Int32))])) t → Steps p.tables e below (s₁.setTop (entryFrame m #[(.int p0), (.long q1), (.long q2), (.long q3)] maxLocals)) t := fun t kt => by
      refine pre19 _ ?_
      show Steps p.tables e below (T18.setTop (mkF m 41 #[.val (.int p0), .val (.long q1), .second, .val (.long q2), .second, .val (.long q3), .second, .val (.int (0 : Int32)), .val (.int (own_hi q1)), .val (.int (own_lo q1)), .val (.int (own_hi q2)), .val (.int (own_lo q2)), .val (.int (own_hi q3)), .unset, .unset, .unset, .unset, .unset, .unset] [(.int (own_lo q3))])) _
      refine XS.istore X18.here hx rfl (hb hby at_41) rfl (l' := #[.val (.int p0), .val (.long q1), .second, .val (.long q2), .second, .val (.long q3), .second, .val (.int (0 : Int32)), .val (.int (own_hi q1)), .val (.int (own_lo q1)), .val (.int (own_hi q2)), .val (.int (own_lo q2)), .val (.int (own_hi q3)), .val (.int (own_lo q3)), .unset, .unset, .unset, .unset, .unset]) rfl ?_
      show Steps p.tables e below (T18.setTop (mkF m 43 #[.val (.int p0), .val (.long q1), .second, .val (.long q2), .second, .val (.long q3), .second, .val (.int (0 : Int32)), .val (.int (own_hi q1)), .val (.int (own_lo q1)), .val (.int (own_hi q2)), .val (.int (own_lo q2)), .val (.int (own_hi q3)), .val (.int (own_lo q3)), .unset, .unset, .unset, .unset, .unset] [])) _
      refine XS.iload X18.here hx rfl (hb hby at_43) rfl ?_
      show Steps p.tables e below (T18.setTop (mkF m 45 #[.val (.int p0), .val (.long q1), .second, .val (.long q2), .second, .val (.long q3), .second, .val (.int (0 : Int32)), .val (.int (own_hi q1)), .val (.int (own_lo q1)), .val (.int (own_hi q2)), .val (.int (own_lo q2)), .val (.int (own_hi q3)), .val (.int (own_lo q3)), .unset, .unset, .unset, .unset, .unset] [(.int (0 : Int32))])) _
      refine XS.iload X18.here hx rfl (hb hby at_45) rfl ?_
      show Steps p.tables e below (T18.setTop (mkF m 47 #[.val (.int p0), .val (.long q1), .second, .val (.long q2), .second, .val (.long q3), .second, .val (.int (0 : Int32)), .val (.int (own_hi q1)), .val (.int (own_lo q1)), .val (.int (own_hi q2)), .val (.int (own_lo q2)), .val (.int (own_hi q3)), .val (.int (own_lo q3)), .unset, .unset, .unset, .unset, .unset] [(.int (own_hi q1)), (.int (0 : Int32))])) _
      refine XS.iload X18.here hx rfl (hb hby at_47) rfl ?_
      show Steps p.tables e below (T18.setTop (mkF m 49 #[.val (.int p0), .val (.long q1), .second, .val (.long q2), .second, .val (.long q3), .second, .val (.int (0 : Int32)), .val (.int (own_hi q1)), .val (.int (own_lo q1)), .val (.int (own_hi q2)), .val (.int (own_lo q2)), .val (.int (own_hi q3)), .val (.int (own_lo q3)), .unset, .unset, .unset, .unset, .unset] [(.int (own_hi q2)), (.int (own_hi q1)), (.int (0 : Int32))])) _
      refine XS.iload X18.here hx rfl (hb hby at_49) rfl ?_
      exact kt
    obtain ⟨_, _, ⟨T21, L21, kc21, nc21⟩, -, X21, ⟨Lc21, hQ21, l21, y21, z21⟩, st21⟩ := Jvm.LawKit.callS X18 hx (y := (⟨"com/example/tesserae/tesserae/core/VectorsDominatesPinLaw", "make", "(IIII)[D"⟩ : MethodName)) hown (mvT hZ (hw _ (List.mem_of_getElem? (i := 7) rfl))) (mvT hZ (hw _ (List.mem_of_getElem? (i := 8) rfl))) (mvT hZ (hw _ (List.mem_of_getElem? (i := 2) rfl))) (mvT hZ (hw _ (List.mem_of_getElem? (i := 9) rfl))) (by decide) (backOf (W := 0) (rm3m0 l Z a0 hw [] (own_hi q1) (own_hi q2) (own_hi q3) h0 n0 Z0) hZ (hw _ (List.mem_of_getElem? (i := 9) rfl)) (hw _ (List.mem_of_getElem? (i := 2) rfl)) (by decide) (by decide)) (g := (mkF m 51 #[.val (.int p0), .val (.long q1), .second, .val (.long q2), .second, .val (.long q3), .second, .val (.int (0 : Int32)), .val (.int (own_hi q1)), .val (.int (own_lo q1)), .val (.int (own_hi q2)), .val (.int (own_lo q2)), .val (.int (own_hi q3)), .val (.int (own_lo q3)), .unset, .unset, .unset, .unset, .unset] [(.int (own_hi q3)), (.int (own_hi q2)), (.int (own_hi q1)), (.int (0 : Int32))])) rfl (by rw [hml]; rfl) (argsL := [(.int (0 : Int32)), (.int (own_hi q1)), (.int (own_hi q2)), (.int (own_hi q3))]) (rest := []) (lenOf pd_1 rfl) rfl (by show 2 * 0 + _ ≤ _; exact Nat.le_of_eq rfl) (hb hby at_51) (fun _ _ => ⟨rfl, he18, (by decide : 0 + 1 ≤ _), (by decide : 0 + 0 ≤ _)⟩)
    dsimp only [Pt.U, Pt.locs, Pt.cells, Pt.slots] at X21 l21 y21 z21 st21 hQ21
    subst l21 y21 z21
    obtain ⟨rfl, N21q, K21, ⟨kk21, Va21⟩⟩ := hQ21
    have N21 := Fr.app N18 N21q
    obtain ⟨b21, gq21⟩ : ∃ z, z = h0.size := ⟨_, rfl⟩
    rw [← gq21] at Va21 st21
    have gg_b21 : n0 ≤ b21 := Nat.le_trans Z0 (Nat.le_of_eq gq21.symm)
    have pre22 : ∀ t, Steps p.tables e below (T21.setTop (mkF m 54 #[.val (.int p0), .val (.long q1), .second, .val (.long q2), .second, .val (.long q3), .second, .val (.int (0 : Int32)), .val (.int (own_hi q1)), .val (.int (own_lo q1)), .val (.int (own_hi q2)), .val (.int (own_lo q2)), .val (.int (own_hi q3)), .val (.int (own_lo q3)), .unset, .unset, .unset, .unset, .unset] [(.ref b21)])) t → Steps p.tables e below (s₁.setTop (entryFrame m #[(.int p0), (.long q1), (.long q2), (.long q3)] maxLocals)) t := fun t kt => pre20 _ (st21 _ kt)
    have z23 : n0 ≤ T21.heap.size := (Nat.le_trans Z0 K21.1)
    have pre24 : ∀ t, Steps p.tables e below (T21.setTop (mkF m 64 #[.val (.int p0), .val (.long q1), .second, .val (.long q2), .second, .val (.long q3), .second, .val (.int (0 : Int32)), .val (.int (own_hi q1)), .val (.int (own_lo q1)), .val (.int (own_hi q2)), .val (.int (own_lo q2)), .val (.int (own_hi q3)), .val (.int (own_lo q3)), .val (.ref b21), .unset, .unset, .unset, .unset] [(.int (own_lo q3)), (.int (own_lo q2)), (.int (own_lo q1)), (.int (0 : Int32))])) t → Steps p.tables e below (s₁.setTop (entryFrame m #[(.int p0), (.long q1), (.long q2), (.long q3)] maxLocals)) t := fun t kt => by
      refine pre22 _ ?_
      show Steps p.tables e below (T21.setTop (mkF m 54 #[.val (.int p0), .val (.long q1), .second, .val (.long q2), .second, .val (.long q3), .second, .val (.int (0 : Int32)), .val (.int (own_hi q1)), .val (.int (own_lo q1)), .val (.int (own_hi q2)), .val (.int (own_lo q2)), .val (.int (own_hi q3)), .val (.int (own_lo q3)), .unset, .unset, .unset, .unset, .unset] [(.ref b21)])) _
      refine XS.astore X21.here hx rfl (hb hby at_54) rfl rfl (l' := #[.val (.int p0), .val (.long q1), .second, .val (.long q2), .second, .val (.long q3), .second, .val (.int (0 : Int32)), .val (.int (own_hi q1)), .val (.int (own_lo q1)), .val (.int (own_hi q2)), .val (.int (own_lo q2)), .val (.int (own_hi q3)), .val (.int (own_lo q3)), .val (.ref b21), .unset, .unset, .unset, .unset]) rfl ?_
      show Steps p.tables e below (T21.setTop (mkF m 56 #[.val (.int p0), .val (.long q1), .second, .val (.long q2), .second, .val (.long q3), .second, .val (.int (0 : Int32)), .val (.int (own_hi q1)), .val (.int (own_lo q1)), .val (.int (own_hi q2)), .val (.int (own_lo q2)), .val (.int (own_hi q3)), .val (.int (own_lo q3)), .val (.ref b21), .unset, .unset, .unset, .unset] [])) _
      refine XS.iload X21.here hx rfl (hb hby at_56) rfl ?_
      show Steps p.tables e below (T21.setTop (mkF m 58 #[.val (.int p0), .val (.long q1), .second, .val (.long q2), .second, .val (.long q3), .second, .val (.int (0 : Int32)), .val (.int (own_hi q1)), .val (.int (own_lo q1)), .val (.int (own_hi q2)), .val (.int (own_lo q2)), .val (.int (own_hi q3)), .val (.int (own_lo q3)), .val (.ref b21), .unset, .unset, .unset, .unset] [(.int (0 : Int32))])) _
      refine XS.iload X21.here hx rfl (hb hby at_58) rfl ?_
      show Steps p.tables e below (T21.setTop (mkF m 60 #[.val (.int p0), .val (.long q1), .second, .val (.long q2), .second, .val (.long q3), .second, .val (.int (0 : Int32)), .val (.int (own_hi q1)), .val (.int (own_lo q1)), .val (.int (own_hi q2)), .val (.int (own_lo q2)), .val (.int (own_hi q3)), .val (.int (own_lo q3)), .val (.ref b21), .unset, .unset, .unset, .unset] [(.int (own_lo q1)), (.int (0 : Int32))])) _
      refine XS.iload X21.here hx rfl (hb hby at_60) rfl ?_
      show Steps p.tables e below (T21.setTop (mkF m 62 #[.val (.int p0), .val (.long q1), .second, .val (.long q2), .second, .val (.long q3), .second, .val (.int (0 : Int32)), .val (.int (own_hi q1)), .val (.int (own_lo q1)), .val (.int (own_hi q2)), .val (.int (own_lo q2)), .val (.int (own_hi q3)), .val (.int (own_lo q3)), .val (.ref b21), .unset, .unset, .unset, .unset] [(.int (own_lo q2)), (.int (own_lo q1)), (.int (0 : Int32))])) _
      refine XS.iload X21.here hx rfl (hb hby at_62) rfl ?_
      exact kt
    obtain ⟨_, _, ⟨T25, L25, kc25, nc25⟩, -, X25, ⟨Lc25, hQ25, l25, y25, z25⟩, st25⟩ := Jvm.LawKit.callS X21 hx (y := (⟨"com/example/tesserae/tesserae/core/VectorsDominatesPinLaw", "make", "(IIII)[D"⟩ : MethodName)) hown (mvT hZ (hw _ (List.mem_of_getElem? (i := 7) rfl))) (mvT hZ (hw _ (List.mem_of_getElem? (i := 8) rfl))) (mvT hZ (hw _ (List.mem_of_getElem? (i := 2) rfl))) (mvT hZ (hw _ (List.mem_of_getElem? (i := 9) rfl))) (by decide) (backOf (W := 0) (rm3m0 l Z a0 hw [] (own_lo q1) (own_lo q2) (own_lo q3) T21.heap n0 z23) hZ (hw _ (List.mem_of_getElem? (i := 9) rfl)) (hw _ (List.mem_of_getElem? (i := 2) rfl)) (by decide) (by decide)) (g := (mkF m 64 #[.val (.int p0), .val (.long q1), .second, .val (.long q2), .second, .val (.long q3), .second, .val (.int (0 : Int32)), .val (.int (own_hi q1)), .val (.int (own_lo q1)), .val (.int (own_hi q2)), .val (.int (own_lo q2)), .val (.int (own_hi q3)), .val (.int (own_lo q3)), .val (.ref b21), .unset, .unset, .unset, .unset] [(.int (own_lo q3)), (.int (own_lo q2)), (.int (own_lo q1)), (.int (0 : Int32))])) rfl (by rw [hml]; rfl) (argsL := [(.int (0 : Int32)), (.int (own_lo q1)), (.int (own_lo q2)), (.int (own_lo q3))]) (rest := []) (lenOf pd_1 rfl) rfl (by show 2 * 0 + _ ≤ _; exact Nat.le_of_eq rfl) (hb hby at_64) (fun _ _ => ⟨rfl, rfl, (by decide : 1 + 1 ≤ _), (by decide : 0 + 0 ≤ _)⟩)
    dsimp only [Pt.U, Pt.locs, Pt.cells, Pt.slots] at X25 l25 y25 z25 st25 hQ25
    subst l25 y25 z25
    obtain ⟨rfl, N25q, K25, ⟨kk25, Va25⟩⟩ := hQ25
    have N25 := Fr.app N21 N25q
    obtain ⟨b25, gq25⟩ : ∃ z, z = T21.heap.size := ⟨_, rfl⟩
    rw [← gq25] at Va25 st25
    have gg_b25 : n0 ≤ b25 := Nat.le_trans z23 (Nat.le_of_eq gq25.symm)
    have pre26 : ∀ t, Steps p.tables e below (T25.setTop (mkF m 67 #[.val (.int p0), .val (.long q1), .second, .val (.long q2), .second, .val (.long q3), .second, .val (.int (0 : Int32)), .val (.int (own_hi q1)), .val (.int (own_lo q1)), .val (.int (own_hi q2)), .val (.int (own_lo q2)), .val (.int (own_hi q3)), .val (.int (own_lo q3)), .val (.ref b21), .unset, .unset, .unset, .unset] [(.ref b25)])) t → Steps p.tables e below (s₁.setTop (entryFrame m #[(.int p0), (.long q1), (.long q2), (.long q3)] maxLocals)) t := fun t kt => pre24 _ (st25 _ kt)
    have pre27 : ∀ t, Steps p.tables e below (T25.setTop (mkF m 69 #[.val (.int p0), .val (.long q1), .second, .val (.long q2), .second, .val (.long q3), .second, .val (.int (0 : Int32)), .val (.int (own_hi q1)), .val (.int (own_lo q1)), .val (.int (own_hi q2)), .val (.int (own_lo q2)), .val (.int (own_hi q3)), .val (.int (own_lo q3)), .val (.ref b21), .val (.ref b25), .unset, .unset, .unset] [])) t → Steps p.tables e below (s₁.setTop (entryFrame m #[(.int p0), (.long q1), (.long q2), (.long q3)] maxLocals)) t := fun t kt => by
      refine pre26 _ ?_
      show Steps p.tables e below (T25.setTop (mkF m 67 #[.val (.int p0), .val (.long q1), .second, .val (.long q2), .second, .val (.long q3), .second, .val (.int (0 : Int32)), .val (.int (own_hi q1)), .val (.int (own_lo q1)), .val (.int (own_hi q2)), .val (.int (own_lo q2)), .val (.int (own_hi q3)), .val (.int (own_lo q3)), .val (.ref b21), .unset, .unset, .unset, .unset] [(.ref b25)])) _
      refine XS.astore X25.here hx rfl (hb hby at_67) rfl rfl (l' := #[.val (.int p0), .val (.long q1), .second, .val (.long q2), .second, .val (.long q3), .second, .val (.int (0 : Int32)), .val (.int (own_hi q1)), .val (.int (own_lo q1)), .val (.int (own_hi q2)), .val (.int (own_lo q2)), .val (.int (own_hi q3)), .val (.int (own_lo q3)), .val (.ref b21), .val (.ref b25), .unset, .unset, .unset]) rfl ?_
      exact kt
    have pre28 : ∀ t, Steps p.tables e below (T25.setTop (mkF m 113 #[.val (.int p0), .val (.long q1), .second, .val (.long q2), .second, .val (.long q3), .second, .val (.int (0 : Int32)), .val (.int (own_hi q1)), .val (.int (own_lo q1)), .val (.int (own_hi q2)), .val (.int (own_lo q2)), .val (.int (own_hi q3)), .val (.int (own_lo q3)), .val (.ref b21), .val (.ref b25), .unset, .unset, .unset] [(.int (own_nw []))])) t → Steps p.tables e below (s₁.setTop (entryFrame m #[(.int p0), (.long q1), (.long q2), (.long q3)] maxLocals)) t := fun t kt => by
      have pre29 : ∀ t, Steps p.tables e below (T25.setTop (mkF m 113 #[.val (.int p0), .val (.long q1), .second, .val (.long q2), .second, .val (.long q3), .second, .val (.int (0 : Int32)), .val (.int (own_hi q1)), .val (.int (own_lo q1)), .val (.int (own_hi q2)), .val (.int (own_lo q2)), .val (.int (own_hi q3)), .val (.int (own_lo q3)), .val (.ref b21), .val (.ref b25), .unset, .unset, .unset] [(.int (1 : Int32))])) t → Steps p.tables e below (s₁.setTop (entryFrame m #[(.int p0), (.long q1), (.long q2), (.long q3)] maxLocals)) t := fun t kt => by
        refine pre27 _ ?_
        show Steps p.tables e below (T25.setTop (mkF m 69 #[.val (.int p0), .val (.long q1), .second, .val (.long q2), .second, .val (.long q3), .second, .val (.int (0 : Int32)), .val (.int (own_hi q1)), .val (.int (own_lo q1)), .val (.int (own_hi q2)), .val (.int (own_lo q2)), .val (.int (own_hi q3)), .val (.int (own_lo q3)), .val (.ref b21), .val (.ref b25), .unset, .unset, .unset] [])) _
        refine XS.iload X25.here hx rfl (hb hby at_69) rfl ?_
        show Steps p.tables e below (T25.setTop (mkF m 71 #[.val (.int p0), .val (.long q1), .second, .val (.long q2), .second, .val (.long q3), .second, .val (.int (0 : Int32)), .val (.int (own_hi q1)), .val (.int (own_lo q1)), .val (.int (own_hi q2)), .val (.int (own_lo q2)), .val (.int (own_hi q3)), .val (.int (own_lo q3)), .val (.ref b21), .val (.ref b25), .unset, .unset, .unset] [(.int (0 : Int32))])) _
        refine XS.iconst X25.here hx rfl (hb hby at_71) ?_
        show Steps p.tables e below (T25.setTop (mkF m 72 #[.val (.int p0), .val (.long q1), .second, .val (.long q2), .second, .val (.long q3), .second, .val (.int (0 : Int32)), .val (.int (own_hi q1)), .val (.int (own_lo q1)), .val (.int (own_hi q2)), .val (.int (own_lo q2)), .val (.int (own_hi q3)), .val (.int (own_lo q3)), .val (.ref b21), .val (.ref b25), .unset, .unset, .unset] [(.int (1 : Int32)), (.int (0 : Int32))])) _
        refine XS.icmpYes X25.here hx rfl (pc0 := 72) (pc' := 82) rfl (hb hby at_72) rfl (tlt (by decide : (0 : Int32) < (1 : Int32))).1 (by decide) (by decide) ?_
        show Steps p.tables e below (T25.setTop (mkF m 82 #[.val (.int p0), .val (.long q1), .second, .val (.long q2), .second, .val (.long q3), .second, .val (.int (0 : Int32)), .val (.int (own_hi q1)), .val (.int (own_lo q1)), .val (.int (own_hi q2)), .val (.int (own_lo q2)), .val (.int (own_hi q3)), .val (.int (own_lo q3)), .val (.ref b21), .val (.ref b25), .unset, .unset, .unset] [])) _
        refine XS.iload X25.here hx rfl (hb hby at_82) rfl ?_
        show Steps p.tables e below (T25.setTop (mkF m 84 #[.val (.int p0), .val (.long q1), .second, .val (.long q2), .second, .val (.long q3), .second, .val (.int (0 : Int32)), .val (.int (own_hi q1)), .val (.int (own_lo q1)), .val (.int (own_hi q2)), .val (.int (own_lo q2)), .val (.int (own_hi q3)), .val (.int (own_lo q3)), .val (.ref b21), .val (.ref b25), .unset, .unset, .unset] [(.int (0 : Int32))])) _
        refine XS.iconst X25.here hx rfl (hb hby at_84) ?_
        show Steps p.tables e below (T25.setTop (mkF m 85 #[.val (.int p0), .val (.long q1), .second, .val (.long q2), .second, .val (.long q3), .second, .val (.int (0 : Int32)), .val (.int (own_hi q1)), .val (.int (own_lo q1)), .val (.int (own_hi q2)), .val (.int (own_lo q2)), .val (.int (own_hi q3)), .val (.int (own_lo q3)), .val (.ref b21), .val (.ref b25), .unset, .unset, .unset] [(.int (2 : Int32)), (.int (0 : Int32))])) _
        refine XS.icmpYes X25.here hx rfl (pc0 := 85) (pc' := 95) rfl (hb hby at_85) rfl (tlt (by decide : (0 : Int32) < (2 : Int32))).1 (by decide) (by decide) ?_
        show Steps p.tables e below (T25.setTop (mkF m 95 #[.val (.int p0), .val (.long q1), .second, .val (.long q2), .second, .val (.long q3), .second, .val (.int (0 : Int32)), .val (.int (own_hi q1)), .val (.int (own_lo q1)), .val (.int (own_hi q2)), .val (.int (own_lo q2)), .val (.int (own_hi q3)), .val (.int (own_lo q3)), .val (.ref b21), .val (.ref b25), .unset, .unset, .unset] [])) _
        refine XS.iload X25.here hx rfl (hb hby at_95) rfl ?_
        show Steps p.tables e below (T25.setTop (mkF m 97 #[.val (.int p0), .val (.long q1), .second, .val (.long q2), .second, .val (.long q3), .second, .val (.int (0 : Int32)), .val (.int (own_hi q1)), .val (.int (own_lo q1)), .val (.int (own_hi q2)), .val (.int (own_lo q2)), .val (.int (own_hi q3)), .val (.int (own_lo q3)), .val (.ref b21), .val (.ref b25), .unset, .unset, .unset] [(.int (0 : Int32))])) _
        refine XS.iconst X25.here hx rfl (hb hby at_97) ?_
        show Steps p.tables e below (T25.setTop (mkF m 98 #[.val (.int p0), .val (.long q1), .second, .val (.long q2), .second, .val (.long q3), .second, .val (.int (0 : Int32)), .val (.int (own_hi q1)), .val (.int (own_lo q1)), .val (.int (own_hi q2)), .val (.int (own_lo q2)), .val (.int (own_hi q3)), .val (.int (own_lo q3)), .val (.ref b21), .val (.ref b25), .unset, .unset, .unset] [(.int (3 : Int32)), (.int (0 : Int32))])) _
        refine XS.icmpYes X25.here hx rfl (pc0 := 98) (pc' := 108) rfl (hb hby at_98) rfl (tlt (by decide : (0 : Int32) < (3 : Int32))).1 (by decide) (by decide) ?_
        show Steps p.tables e below (T25.setTop (mkF m 108 #[.val (.int p0), .val (.long q1), .second, .val (.long q2), .second, .val (.long q3), .second, .val (.int (0 : Int32)), .val (.int (own_hi q1)), .val (.int (own_lo q1)), .val (.int (own_hi q2)), .val (.int (own_lo q2)), .val (.int (own_hi q3)), .val (.int (own_lo q3)), .val (.ref b21), .val (.ref b25), .unset, .unset, .unset] [])) _
        refine XS.iconst X25.here hx rfl (hb hby at_108) ?_
        show Steps p.tables e below (T25.setTop (mkF m 109 #[.val (.int p0), .val (.long q1), .second, .val (.long q2), .second, .val (.long q3), .second, .val (.int (0 : Int32)), .val (.int (own_hi q1)), .val (.int (own_lo q1)), .val (.int (own_hi q2)), .val (.int (own_lo q2)), .val (.int (own_hi q3)), .val (.int (own_lo q3)), .val (.ref b21), .val (.ref b25), .unset, .unset, .unset] [(.int (1 : Int32))])) _
        refine XS.goto X25.here hx rfl (pc0 := 109) (pc' := 113) rfl (hb hby at_109) (by decide) (by decide) ?_
        exact kt
      rw [show (own_nw []) = (1 : Int32) from by simp only [own_nw, if_true, if_false]] at kt
      exact pre29 _ kt
    have pre30 : ∀ t, Steps p.tables e below (T25.setTop (mkF m 115 #[.val (.int p0), .val (.long q1), .second, .val (.long q2), .second, .val (.long q3), .second, .val (.int (0 : Int32)), .val (.int (own_hi q1)), .val (.int (own_lo q1)), .val (.int (own_hi q2)), .val (.int (own_lo q2)), .val (.int (own_hi q3)), .val (.int (own_lo q3)), .val (.ref b21), .val (.ref b25), .val (.int (own_nw [])), .unset, .unset] [])) t → Steps p.tables e below (s₁.setTop (entryFrame m #[(.int p0), (.long q1), (.long q2), (.long q3)] maxLocals)) t := fun t kt => by
      refine pre28 _ ?_
      show Steps p.tables e below (T25.setTop (mkF m 113 #[.val (.int p0), .val (.long q1), .second, .val (.long q2), .second, .val (.long q3), .second, .val (.int (0 : Int32)), .val (.int (own_hi q1)), .val (.int (own_lo q1)), .val (.int (own_hi q2)), .val (.int (own_lo q2)), .val (.int (own_hi q3)), .val (.int (own_lo q3)), .val (.ref b21), .val (.ref b25), .unset, .unset, .unset] [(.int (own_nw []))])) _
      refine XS.istore X25.here hx rfl (hb hby at_113) rfl (l' := #[.val (.int p0), .val (.long q1), .second, .val (.long q2), .second, .val (.long q3), .second, .val (.int (0 : Int32)), .val (.int (own_hi q1)), .val (.int (own_lo q1)), .val (.int (own_hi q2)), .val (.int (own_lo q2)), .val (.int (own_hi q3)), .val (.int (own_lo q3)), .val (.ref b21), .val (.ref b25), .val (.int (own_nw [])), .unset, .unset]) rfl ?_
      exact kt
    have pre31 : ∀ t, Steps p.tables e below (T25.setTop (mkF m 159 #[.val (.int p0), .val (.long q1), .second, .val (.long q2), .second, .val (.long q3), .second, .val (.int (0 : Int32)), .val (.int (own_hi q1)), .val (.int (own_lo q1)), .val (.int (own_hi q2)), .val (.int (own_lo q2)), .val (.int (own_hi q3)), .val (.int (own_lo q3)), .val (.ref b21), .val (.ref b25), .val (.int (own_nw [])), .unset, .unset] [(.int (own_bt []))])) t → Steps p.tables e below (s₁.setTop (entryFrame m #[(.int p0), (.long q1), (.long q2), (.long q3)] maxLocals)) t := fun t kt => by
      have pre32 : ∀ t, Steps p.tables e below (T25.setTop (mkF m 159 #[.val (.int p0), .val (.long q1), .second, .val (.long q2), .second, .val (.long q3), .second, .val (.int (0 : Int32)), .val (.int (own_hi q1)), .val (.int (own_lo q1)), .val (.int (own_hi q2)), .val (.int (own_lo q2)), .val (.int (own_hi q3)), .val (.int (own_lo q3)), .val (.ref b21), .val (.ref b25), .val (.int (own_nw [])), .unset, .unset] [(.int (0 : Int32))])) t → Steps p.tables e below (s₁.setTop (entryFrame m #[(.int p0), (.long q1), (.long q2), (.long q3)] maxLocals)) t := fun t kt => by
        refine pre30 _ ?_
        show Steps p.tables e below (T25.setTop (mkF m 115 #[.val (.int p0), .val (.long q1), .second, .val (.long q2), .second, .val (.long q3), .second, .val (.int (0 : Int32)), .val (.int (own_hi q1)), .val (.int (own_lo q1)), .val (.int (own_hi q2)), .val (.int (own_lo q2)), .val (.int (own_hi q3)), .val (.int (own_lo q3)), .val (.ref b21), .val (.ref b25), .val (.int (own_nw [])), .unset, .unset] [])) _
        refine XS.iload X25.here hx rfl (hb hby at_115) rfl ?_
        show Steps p.tables e below (T25.setTop (mkF m 117 #[.val (.int p0), .val (.long q1), .second, .val (.long q2), .second, .val (.long q3), .second, .val (.int (0 : Int32)), .val (.int (own_hi q1)), .val (.int (own_lo q1)), .val (.int (own_hi q2)), .val (.int (own_lo q2)), .val (.int (own_hi q3)), .val (.int (own_lo q3)), .val (.ref b21), .val (.ref b25), .val (.int (own_nw [])), .unset, .unset] [(.int (0 : Int32))])) _
        refine XS.iconst X25.here hx rfl (hb hby at_117) ?_
        show Steps p.tables e below (T25.setTop (mkF m 118 #[.val (.int p0), .val (.long q1), .second, .val (.long q2), .second, .val (.long q3), .second, .val (.int (0 : Int32)), .val (.int (own_hi q1)), .val (.int (own_lo q1)), .val (.int (own_hi q2)), .val (.int (own_lo q2)), .val (.int (own_hi q3)), .val (.int (own_lo q3)), .val (.ref b21), .val (.ref b25), .val (.int (own_nw [])), .unset, .unset] [(.int (1 : Int32)), (.int (0 : Int32))])) _
        refine XS.icmpYes X25.here hx rfl (pc0 := 118) (pc' := 128) rfl (hb hby at_118) rfl (tlt (by decide : (0 : Int32) < (1 : Int32))).1 (by decide) (by decide) ?_
        show Steps p.tables e below (T25.setTop (mkF m 128 #[.val (.int p0), .val (.long q1), .second, .val (.long q2), .second, .val (.long q3), .second, .val (.int (0 : Int32)), .val (.int (own_hi q1)), .val (.int (own_lo q1)), .val (.int (own_hi q2)), .val (.int (own_lo q2)), .val (.int (own_hi q3)), .val (.int (own_lo q3)), .val (.ref b21), .val (.ref b25), .val (.int (own_nw [])), .unset, .unset] [])) _
        refine XS.iload X25.here hx rfl (hb hby at_128) rfl ?_
        show Steps p.tables e below (T25.setTop (mkF m 130 #[.val (.int p0), .val (.long q1), .second, .val (.long q2), .second, .val (.long q3), .second, .val (.int (0 : Int32)), .val (.int (own_hi q1)), .val (.int (own_lo q1)), .val (.int (own_hi q2)), .val (.int (own_lo q2)), .val (.int (own_hi q3)), .val (.int (own_lo q3)), .val (.ref b21), .val (.ref b25), .val (.int (own_nw [])), .unset, .unset] [(.int (0 : Int32))])) _
        refine XS.iconst X25.here hx rfl (hb hby at_130) ?_
        show Steps p.tables e below (T25.setTop (mkF m 131 #[.val (.int p0), .val (.long q1), .second, .val (.long q2), .second, .val (.long q3), .second, .val (.int (0 : Int32)), .val (.int (own_hi q1)), .val (.int (own_lo q1)), .val (.int (own_hi q2)), .val (.int (own_lo q2)), .val (.int (own_hi q3)), .val (.int (own_lo q3)), .val (.ref b21), .val (.ref b25), .val (.int (own_nw [])), .unset, .unset] [(.int (2 : Int32)), (.int (0 : Int32))])) _
        refine XS.icmpYes X25.here hx rfl (pc0 := 131) (pc' := 141) rfl (hb hby at_131) rfl (tlt (by decide : (0 : Int32) < (2 : Int32))).1 (by decide) (by decide) ?_
        show Steps p.tables e below (T25.setTop (mkF m 141 #[.val (.int p0), .val (.long q1), .second, .val (.long q2), .second, .val (.long q3), .second, .val (.int (0 : Int32)), .val (.int (own_hi q1)), .val (.int (own_lo q1)), .val (.int (own_hi q2)), .val (.int (own_lo q2)), .val (.int (own_hi q3)), .val (.int (own_lo q3)), .val (.ref b21), .val (.ref b25), .val (.int (own_nw [])), .unset, .unset] [])) _
        refine XS.iload X25.here hx rfl (hb hby at_141) rfl ?_
        show Steps p.tables e below (T25.setTop (mkF m 143 #[.val (.int p0), .val (.long q1), .second, .val (.long q2), .second, .val (.long q3), .second, .val (.int (0 : Int32)), .val (.int (own_hi q1)), .val (.int (own_lo q1)), .val (.int (own_hi q2)), .val (.int (own_lo q2)), .val (.int (own_hi q3)), .val (.int (own_lo q3)), .val (.ref b21), .val (.ref b25), .val (.int (own_nw [])), .unset, .unset] [(.int (0 : Int32))])) _
        refine XS.iconst X25.here hx rfl (hb hby at_143) ?_
        show Steps p.tables e below (T25.setTop (mkF m 144 #[.val (.int p0), .val (.long q1), .second, .val (.long q2), .second, .val (.long q3), .second, .val (.int (0 : Int32)), .val (.int (own_hi q1)), .val (.int (own_lo q1)), .val (.int (own_hi q2)), .val (.int (own_lo q2)), .val (.int (own_hi q3)), .val (.int (own_lo q3)), .val (.ref b21), .val (.ref b25), .val (.int (own_nw [])), .unset, .unset] [(.int (3 : Int32)), (.int (0 : Int32))])) _
        refine XS.icmpYes X25.here hx rfl (pc0 := 144) (pc' := 158) rfl (hb hby at_144) rfl (tlt (by decide : (0 : Int32) < (3 : Int32))).1 (by decide) (by decide) ?_
        show Steps p.tables e below (T25.setTop (mkF m 158 #[.val (.int p0), .val (.long q1), .second, .val (.long q2), .second, .val (.long q3), .second, .val (.int (0 : Int32)), .val (.int (own_hi q1)), .val (.int (own_lo q1)), .val (.int (own_hi q2)), .val (.int (own_lo q2)), .val (.int (own_hi q3)), .val (.int (own_lo q3)), .val (.ref b21), .val (.ref b25), .val (.int (own_nw [])), .unset, .unset] [])) _
        refine XS.iconst X25.here hx rfl (hb hby at_158) ?_
        exact kt
      rw [show (own_bt []) = (0 : Int32) from by simp only [own_bt, if_true, if_false]] at kt
      exact pre32 _ kt
    have pre33 : ∀ t, Steps p.tables e below (T25.setTop (mkF m 161 #[.val (.int p0), .val (.long q1), .second, .val (.long q2), .second, .val (.long q3), .second, .val (.int (0 : Int32)), .val (.int (own_hi q1)), .val (.int (own_lo q1)), .val (.int (own_hi q2)), .val (.int (own_lo q2)), .val (.int (own_hi q3)), .val (.int (own_lo q3)), .val (.ref b21), .val (.ref b25), .val (.int (own_nw [])), .val (.int (own_bt [])), .unset] [])) t → Steps p.tables e below (s₁.setTop (entryFrame m #[(.int p0), (.long q1), (.long q2), (.long q3)] maxLocals)) t := fun t kt => by
      refine pre31 _ ?_
      show Steps p.tables e below (T25.setTop (mkF m 159 #[.val (.int p0), .val (.long q1), .second, .val (.long q2), .second, .val (.long q3), .second, .val (.int (0 : Int32)), .val (.int (own_hi q1)), .val (.int (own_lo q1)), .val (.int (own_hi q2)), .val (.int (own_lo q2)), .val (.int (own_hi q3)), .val (.int (own_lo q3)), .val (.ref b21), .val (.ref b25), .val (.int (own_nw [])), .unset, .unset] [(.int (own_bt []))])) _
      refine XS.istore X25.here hx rfl (hb hby at_159) rfl (l' := #[.val (.int p0), .val (.long q1), .second, .val (.long q2), .second, .val (.long q3), .second, .val (.int (0 : Int32)), .val (.int (own_hi q1)), .val (.int (own_lo q1)), .val (.int (own_hi q2)), .val (.int (own_lo q2)), .val (.int (own_hi q3)), .val (.int (own_lo q3)), .val (.ref b21), .val (.ref b25), .val (.int (own_nw [])), .val (.int (own_bt [])), .unset]) rfl ?_
      exact kt
    have pre34 : ∀ t, Steps p.tables e below (T25.setTop (mkF m 176 #[.val (.int p0), .val (.long q1), .second, .val (.long q2), .second, .val (.long q3), .second, .val (.int (0 : Int32)), .val (.int (own_hi q1)), .val (.int (own_lo q1)), .val (.int (own_hi q2)), .val (.int (own_lo q2)), .val (.int (own_hi q3)), .val (.int (own_lo q3)), .val (.ref b21), .val (.ref b25), .val (.int (own_nw [])), .val (.int (own_bt [])), .unset] [(.int (own_ex (own_nw []) (own_bt [])))])) t → Steps p.tables e below (s₁.setTop (entryFrame m #[(.int p0), (.long q1), (.long q2), (.long q3)] maxLocals)) t := fun t kt => by
      have pre36 : ∀ t, Steps p.tables e below (T25.setTop (mkF m 163 #[.val (.int p0), .val (.long q1), .second, .val (.long q2), .second, .val (.long q3), .second, .val (.int (0 : Int32)), .val (.int (own_hi q1)), .val (.int (own_lo q1)), .val (.int (own_hi q2)), .val (.int (own_lo q2)), .val (.int (own_hi q3)), .val (.int (own_lo q3)), .val (.ref b21), .val (.ref b25), .val (.int (own_nw [])), .val (.int (own_bt [])), .unset] [(.int (own_nw []))])) t → Steps p.tables e below (s₁.setTop (entryFrame m #[(.int p0), (.long q1), (.long q2), (.long q3)] maxLocals)) t := fun t kt => by
        refine pre33 _ ?_
        show Steps p.tables e below (T25.setTop (mkF m 161 #[.val (.int p0), .val (.long q1), .second, .val (.long q2), .second, .val (.long q3), .second, .val (.int (0 : Int32)), .val (.int (own_hi q1)), .val (.int (own_lo q1)), .val (.int (own_hi q2)), .val (.int (own_lo q2)), .val (.int (own_hi q3)), .val (.int (own_lo q3)), .val (.ref b21), .val (.ref b25), .val (.int (own_nw [])), .val (.int (own_bt [])), .unset] [])) _
        refine XS.iload X25.here hx rfl (hb hby at_161) rfl ?_
        exact kt
      by_cases c35 : (own_nw []) = (0 : Int32)
      · have pre37 : ∀ t, Steps p.tables e below (T25.setTop (mkF m 176 #[.val (.int p0), .val (.long q1), .second, .val (.long q2), .second, .val (.long q3), .second, .val (.int (0 : Int32)), .val (.int (own_hi q1)), .val (.int (own_lo q1)), .val (.int (own_hi q2)), .val (.int (own_lo q2)), .val (.int (own_hi q3)), .val (.int (own_lo q3)), .val (.ref b21), .val (.ref b25), .val (.int (own_nw [])), .val (.int (own_bt [])), .unset] [(.int (0 : Int32))])) t → Steps p.tables e below (s₁.setTop (entryFrame m #[(.int p0), (.long q1), (.long q2), (.long q3)] maxLocals)) t := fun t kt => by
          refine pre36 _ ?_
          show Steps p.tables e below (T25.setTop (mkF m 163 #[.val (.int p0), .val (.long q1), .second, .val (.long q2), .second, .val (.long q3), .second, .val (.int (0 : Int32)), .val (.int (own_hi q1)), .val (.int (own_lo q1)), .val (.int (own_hi q2)), .val (.int (own_lo q2)), .val (.int (own_hi q3)), .val (.int (own_lo q3)), .val (.ref b21), .val (.ref b25), .val (.int (own_nw [])), .val (.int (own_bt [])), .unset] [(.int (own_nw []))])) _
          refine XS.ifYes X25.here hx rfl (pc0 := 163) (pc' := 175) rfl (hb hby at_163) rfl ((if0 _ _).trans (teq (c35 : (own_nw []) = (0 : Int32))).1) (by decide) (by decide) ?_
          show Steps p.tables e below (T25.setTop (mkF m 175 #[.val (.int p0), .val (.long q1), .second, .val (.long q2), .second, .val (.long q3), .second, .val (.int (0 : Int32)), .val (.int (own_hi q1)), .val (.int (own_lo q1)), .val (.int (own_hi q2)), .val (.int (own_lo q2)), .val (.int (own_hi q3)), .val (.int (own_lo q3)), .val (.ref b21), .val (.ref b25), .val (.int (own_nw [])), .val (.int (own_bt [])), .unset] [])) _
          refine XS.iconst X25.here hx rfl (hb hby at_175) ?_
          exact kt
        rw [show (own_ex (own_nw []) (own_bt [])) = (0 : Int32) from by simp only [own_ex, c35, if_true, if_false]] at kt
        exact pre37 _ kt
      · have pre39 : ∀ t, Steps p.tables e below (T25.setTop (mkF m 168 #[.val (.int p0), .val (.long q1), .second, .val (.long q2), .second, .val (.long q3), .second, .val (.int (0 : Int32)), .val (.int (own_hi q1)), .val (.int (own_lo q1)), .val (.int (own_hi q2)), .val (.int (own_lo q2)), .val (.int (own_hi q3)), .val (.int (own_lo q3)), .val (.ref b21), .val (.ref b25), .val (.int (own_nw [])), .val (.int (own_bt [])), .unset] [(.int (own_bt []))])) t → Steps p.tables e below (s₁.setTop (entryFrame m #[(.int p0), (.long q1), (.long q2), (.long q3)] maxLocals)) t := fun t kt => by
          refine pre36 _ ?_
          show Steps p.tables e below (T25.setTop (mkF m 163 #[.val (.int p0), .val (.long q1), .second, .val (.long q2), .second, .val (.long q3), .second, .val (.int (0 : Int32)), .val (.int (own_hi q1)), .val (.int (own_lo q1)), .val (.int (own_hi q2)), .val (.int (own_lo q2)), .val (.int (own_hi q3)), .val (.int (own_lo q3)), .val (.ref b21), .val (.ref b25), .val (.int (own_nw [])), .val (.int (own_bt [])), .unset] [(.int (own_nw []))])) _
          refine XS.ifNo X25.here hx rfl (hb hby at_163) rfl ((if0 _ _).trans (feq (c35 : ¬ ((own_nw []) = (0 : Int32)))).1) ?_
          show Steps p.tables e below (T25.setTop (mkF m 166 #[.val (.int p0), .val (.long q1), .second, .val (.long q2), .second, .val (.long q3), .second, .val (.int (0 : Int32)), .val (.int (own_hi q1)), .val (.int (own_lo q1)), .val (.int (own_hi q2)), .val (.int (own_lo q2)), .val (.int (own_hi q3)), .val (.int (own_lo q3)), .val (.ref b21), .val (.ref b25), .val (.int (own_nw [])), .val (.int (own_bt [])), .unset] [])) _
          refine XS.iload X25.here hx rfl (hb hby at_166) rfl ?_
          exact kt
        by_cases c38 : (own_bt []) = (0 : Int32)
        · have pre40 : ∀ t, Steps p.tables e below (T25.setTop (mkF m 176 #[.val (.int p0), .val (.long q1), .second, .val (.long q2), .second, .val (.long q3), .second, .val (.int (0 : Int32)), .val (.int (own_hi q1)), .val (.int (own_lo q1)), .val (.int (own_hi q2)), .val (.int (own_lo q2)), .val (.int (own_hi q3)), .val (.int (own_lo q3)), .val (.ref b21), .val (.ref b25), .val (.int (own_nw [])), .val (.int (own_bt [])), .unset] [(.int (0 : Int32))])) t → Steps p.tables e below (s₁.setTop (entryFrame m #[(.int p0), (.long q1), (.long q2), (.long q3)] maxLocals)) t := fun t kt => by
            refine pre39 _ ?_
            show Steps p.tables e below (T25.setTop (mkF m 168 #[.val (.int p0), .val (.long q1), .second, .val (.long q2), .second, .val (.long q3), .second, .val (.int (0 : Int32)), .val (.int (own_hi q1)), .val (.int (own_lo q1)), .val (.int (own_hi q2)), .val (.int (own_lo q2)), .val (.int (own_hi q3)), .val (.int (own_lo q3)), .val (.ref b21), .val (.ref b25), .val (.int (own_nw [])), .val (.int (own_bt [])), .unset] [(.int (own_bt []))])) _
            refine XS.ifYes X25.here hx rfl (pc0 := 168) (pc' := 175) rfl (hb hby at_168) rfl ((if0 _ _).trans (teq (c38 : (own_bt []) = (0 : Int32))).1) (by decide) (by decide) ?_
            show Steps p.tables e below (T25.setTop (mkF m 175 #[.val (.int p0), .val (.long q1), .second, .val (.long q2), .second, .val (.long q3), .second, .val (.int (0 : Int32)), .val (.int (own_hi q1)), .val (.int (own_lo q1)), .val (.int (own_hi q2)), .val (.int (own_lo q2)), .val (.int (own_hi q3)), .val (.int (own_lo q3)), .val (.ref b21), .val (.ref b25), .val (.int (own_nw [])), .val (.int (own_bt [])), .unset] [])) _
            refine XS.iconst X25.here hx rfl (hb hby at_175) ?_
            exact kt
          rw [show (own_ex (own_nw []) (own_bt [])) = (0 : Int32) from by simp only [own_ex, c35, c38, if_true, if_false]] at kt
          exact pre40 _ kt
        · have pre41 : ∀ t, Steps p.tables e below (T25.setTop (mkF m 176 #[.val (.int p0), .val (.long q1), .second, .val (.long q2), .second, .val (.long q3), .second, .val (.int (0 : Int32)), .val (.int (own_hi q1)), .val (.int (own_lo q1)), .val (.int (own_hi q2)), .val (.int (own_lo q2)), .val (.int (own_hi q3)), .val (.int (own_lo q3)), .val (.ref b21), .val (.ref b25), .val (.int (own_nw [])), .val (.int (own_bt [])), .unset] [(.int (1 : Int32))])) t → Steps p.tables e below (s₁.setTop (entryFrame m #[(.int p0), (.long q1), (.long q2), (.long q3)] maxLocals)) t := fun t kt => by
            refine pre39 _ ?_
            show Steps p.tables e below (T25.setTop (mkF m 168 #[.val (.int p0), .val (.long q1), .second, .val (.long q2), .second, .val (.long q3), .second, .val (.int (0 : Int32)), .val (.int (own_hi q1)), .val (.int (own_lo q1)), .val (.int (own_hi q2)), .val (.int (own_lo q2)), .val (.int (own_hi q3)), .val (.int (own_lo q3)), .val (.ref b21), .val (.ref b25), .val (.int (own_nw [])), .val (.int (own_bt [])), .unset] [(.int (own_bt []))])) _
            refine XS.ifNo X25.here hx rfl (hb hby at_168) rfl ((if0 _ _).trans (feq (c38 : ¬ ((own_bt []) = (0 : Int32)))).1) ?_
            show Steps p.tables e below (T25.setTop (mkF m 171 #[.val (.int p0), .val (.long q1), .second, .val (.long q2), .second, .val (.long q3), .second, .val (.int (0 : Int32)), .val (.int (own_hi q1)), .val (.int (own_lo q1)), .val (.int (own_hi q2)), .val (.int (own_lo q2)), .val (.int (own_hi q3)), .val (.int (own_lo q3)), .val (.ref b21), .val (.ref b25), .val (.int (own_nw [])), .val (.int (own_bt [])), .unset] [])) _
            refine XS.iconst X25.here hx rfl (hb hby at_171) ?_
            show Steps p.tables e below (T25.setTop (mkF m 172 #[.val (.int p0), .val (.long q1), .second, .val (.long q2), .second, .val (.long q3), .second, .val (.int (0 : Int32)), .val (.int (own_hi q1)), .val (.int (own_lo q1)), .val (.int (own_hi q2)), .val (.int (own_lo q2)), .val (.int (own_hi q3)), .val (.int (own_lo q3)), .val (.ref b21), .val (.ref b25), .val (.int (own_nw [])), .val (.int (own_bt [])), .unset] [(.int (1 : Int32))])) _
            refine XS.goto X25.here hx rfl (pc0 := 172) (pc' := 176) rfl (hb hby at_172) (by decide) (by decide) ?_
            exact kt
          rw [show (own_ex (own_nw []) (own_bt [])) = (1 : Int32) from by simp only [own_ex, c35, c38, if_true, if_false]] at kt
          exact pre41 _ kt
    have f42 := (Va21.keep K25 nin0)
    have z43 : n0 ≤ T25.heap.size := (Nat.le_trans z23 K25.1)
    have pre44 : ∀ t, Steps p.tables e below (T25.setTop (mkF m 182 #[.val (.int p0), .val (.long q1), .second, .val (.long q2), .second, .val (.long q3), .second, .val (.int (0 : Int32)), .val (.int (own_hi q1)), .val (.int (own_lo q1)), .val (.int (own_hi q2)), .val (.int (own_lo q2)), .val (.int (own_hi q3)), .val (.int (own_lo q3)), .val (.ref b21), .val (.ref b25), .val (.int (own_nw [])), .val (.int (own_bt [])), .val (.int (own_ex (own_nw []) (own_bt [])))] [(.ref b25), (.ref b21)])) t → Steps p.tables e below (s₁.setTop (entryFrame m #[(.int p0), (.long q1), (.long q2), (.long q3)] maxLocals)) t := fun t kt => by
      refine pre34 _ ?_
      show Steps p.tables e below (T25.setTop (mkF m 176 #[.val (.int p0), .val (.long q1), .second, .val (.long q2), .second, .val (.long q3), .second, .val (.int (0 : Int32)), .val (.int (own_hi q1)), .val (.int (own_lo q1)), .val (.int (own_hi q2)), .val (.int (own_lo q2)), .val (.int (own_hi q3)), .val (.int (own_lo q3)), .val (.ref b21), .val (.ref b25), .val (.int (own_nw [])), .val (.int (own_bt [])), .unset] [(.int (own_ex (own_nw []) (own_bt [])))])) _
      refine XS.istore X25.here hx rfl (hb hby at_176) rfl (l' := #[.val (.int p0), .val (.long q1), .second, .val (.long q2), .second, .val (.long q3), .second, .val (.int (0 : Int32)), .val (.int (own_hi q1)), .val (.int (own_lo q1)), .val (.int (own_hi q2)), .val (.int (own_lo q2)), .val (.int (own_hi q3)), .val (.int (own_lo q3)), .val (.ref b21), .val (.ref b25), .val (.int (own_nw [])), .val (.int (own_bt [])), .val (.int (own_ex (own_nw []) (own_bt [])))]) rfl ?_
      show Steps p.tables e below (T25.setTop (mkF m 178 #[.val (.int p0), .val (.long q1), .second, .val (.long q2), .second, .val (.long q3), .second, .val (.int (0 : Int32)), .val (.int (own_hi q1)), .val (.int (own_lo q1)), .val (.int (own_hi q2)), .val (.int (own_lo q2)), .val (.int (own_hi q3)), .val (.int (own_lo q3)), .val (.ref b21), .val (.ref b25), .val (.int (own_nw [])), .val (.int (own_bt [])), .val (.int (own_ex (own_nw []) (own_bt [])))] [])) _
      refine XS.aload X25.here hx rfl (hb hby at_178) rfl rfl ?_
      show Steps p.tables e below (T25.setTop (mkF m 180 #[.val (.int p0), .val (.long q1), .second, .val (.long q2), .second, .val (.long q3), .second, .val (.int (0 : Int32)), .val (.int (own_hi q1)), .val (.int (own_lo q1)), .val (.int (own_hi q2)), .val (.int (own_lo q2)), .val (.int (own_hi q3)), .val (.int (own_lo q3)), .val (.ref b21), .val (.ref b25), .val (.int (own_nw [])), .val (.int (own_bt [])), .val (.int (own_ex (own_nw []) (own_bt [])))] [(.ref b21)])) _
      refine XS.aload X25.here hx rfl (hb hby at_180) rfl rfl ?_
      exact kt
    obtain ⟨_, _, ⟨T45, L45, kc45, nc45⟩, -, X45, ⟨Lc45, hQ45, l45, y45, z45⟩, st45⟩ := Jvm.LawKit.callS X25 hx (y := (⟨"com/example/tesserae/tesserae/core/Vectors", "dominates", "([D[D)Z"⟩ : MethodName)) hown (mvT hZ (hw _ (List.mem_of_getElem? (i := 11) rfl))) (mvT hZ (hw _ (List.mem_of_getElem? (i := 12) rfl))) (mvT hZ (hw _ (List.mem_of_getElem? (i := 13) rfl))) (mvT hZ (hw _ (List.mem_of_getElem? (i := 14) rfl))) (by decide) (backOf (W := 0) (rm4m0 l Z a0 hw [] b21 b25 kk21 kk25  T25.heap n0 z43 f42 Va25) hZ (hw _ (List.mem_of_getElem? (i := 14) rfl)) (hw _ (List.mem_of_getElem? (i := 13) rfl)) (by decide) (by decide)) (g := (mkF m 182 #[.val (.int p0), .val (.long q1), .second, .val (.long q2), .second, .val (.long q3), .second, .val (.int (0 : Int32)), .val (.int (own_hi q1)), .val (.int (own_lo q1)), .val (.int (own_hi q2)), .val (.int (own_lo q2)), .val (.int (own_hi q3)), .val (.int (own_lo q3)), .val (.ref b21), .val (.ref b25), .val (.int (own_nw [])), .val (.int (own_bt [])), .val (.int (own_ex (own_nw []) (own_bt [])))] [(.ref b25), (.ref b21)])) rfl (by rw [hml]; rfl) (argsL := [(.ref b21), (.ref b25)]) (rest := []) (lenOf pd_2 rfl) rfl (by show 2 * 0 + _ ≤ _; exact Nat.le_of_eq rfl) (hb hby at_182) (fun _ _ => ⟨rfl, rfl, (by decide : 2 + 0 ≤ _), (by decide : 0 + 0 ≤ _)⟩)
    dsimp only [Pt.U, Pt.locs, Pt.cells, Pt.slots] at X45 l45 y45 z45 st45 hQ45
    subst l45 y45 z45
    obtain ⟨rfl, N45q, he45⟩ := hQ45
    have N45 := Fr.app N25 N45q
    have pre46 : ∀ t, Steps p.tables e below (T45.setTop (mkF m 185 #[.val (.int p0), .val (.long q1), .second, .val (.long q2), .second, .val (.long q3), .second, .val (.int (0 : Int32)), .val (.int (own_hi q1)), .val (.int (own_lo q1)), .val (.int (own_hi q2)), .val (.int (own_lo q2)), .val (.int (own_hi q3)), .val (.int (own_lo q3)), .val (.ref b21), .val (.ref b25), .val (.int (own_nw [])), .val (.int (own_bt [])), .val (.int (own_ex (own_nw []) (own_bt [])))] [(.int (own_dom [] (0 : Int32)))])) t → Steps p.tables e below (s₁.setTop (entryFrame m #[(.int p0), (.long q1), (.long q2), (.long q3)] maxLocals)) t := fun t kt => pre44 _ (st45 _ kt)
    have pre47 : ∀ t, Steps p.tables e below (T45.setTop (mkF m 195 #[.val (.int p0), .val (.long q1), .second, .val (.long q2), .second, .val (.long q3), .second, .val (.int (0 : Int32)), .val (.int (own_hi q1)), .val (.int (own_lo q1)), .val (.int (own_hi q2)), .val (.int (own_lo q2)), .val (.int (own_hi q3)), .val (.int (own_lo q3)), .val (.ref b21), .val (.ref b25), .val (.int (own_nw [])), .val (.int (own_bt [])), .val (.int (own_ex (own_nw []) (own_bt [])))] [(.int (1 : Int32))])) t → Steps p.tables e below (s₁.setTop (entryFrame m #[(.int p0), (.long q1), (.long q2), (.long q3)] maxLocals)) t := fun t kt => by
      refine pre46 _ ?_
      show Steps p.tables e below (T45.setTop (mkF m 185 #[.val (.int p0), .val (.long q1), .second, .val (.long q2), .second, .val (.long q3), .second, .val (.int (0 : Int32)), .val (.int (own_hi q1)), .val (.int (own_lo q1)), .val (.int (own_hi q2)), .val (.int (own_lo q2)), .val (.int (own_hi q3)), .val (.int (own_lo q3)), .val (.ref b21), .val (.ref b25), .val (.int (own_nw [])), .val (.int (own_bt [])), .val (.int (own_ex (own_nw []) (own_bt [])))] [(.int (own_dom [] (0 : Int32)))])) _
      refine XS.iload X45.here hx rfl (hb hby at_185) rfl ?_
      show Steps p.tables e below (T45.setTop (mkF m 187 #[.val (.int p0), .val (.long q1), .second, .val (.long q2), .second, .val (.long q3), .second, .val (.int (0 : Int32)), .val (.int (own_hi q1)), .val (.int (own_lo q1)), .val (.int (own_hi q2)), .val (.int (own_lo q2)), .val (.int (own_hi q3)), .val (.int (own_lo q3)), .val (.ref b21), .val (.ref b25), .val (.int (own_nw [])), .val (.int (own_bt [])), .val (.int (own_ex (own_nw []) (own_bt [])))] [(.int (own_ex (own_nw []) (own_bt []))), (.int (own_dom [] (0 : Int32)))])) _
      refine XS.icmpNo X45.here hx rfl (hb hby at_187) rfl (teq (own_law0 : (own_dom [] (0 : Int32)) = (own_ex (own_nw []) (own_bt [])))).2 ?_
      show Steps p.tables e below (T45.setTop (mkF m 190 #[.val (.int p0), .val (.long q1), .second, .val (.long q2), .second, .val (.long q3), .second, .val (.int (0 : Int32)), .val (.int (own_hi q1)), .val (.int (own_lo q1)), .val (.int (own_hi q2)), .val (.int (own_lo q2)), .val (.int (own_hi q3)), .val (.int (own_lo q3)), .val (.ref b21), .val (.ref b25), .val (.int (own_nw [])), .val (.int (own_bt [])), .val (.int (own_ex (own_nw []) (own_bt [])))] [])) _
      refine XS.iconst X45.here hx rfl (hb hby at_190) ?_
      show Steps p.tables e below (T45.setTop (mkF m 191 #[.val (.int p0), .val (.long q1), .second, .val (.long q2), .second, .val (.long q3), .second, .val (.int (0 : Int32)), .val (.int (own_hi q1)), .val (.int (own_lo q1)), .val (.int (own_hi q2)), .val (.int (own_lo q2)), .val (.int (own_hi q3)), .val (.int (own_lo q3)), .val (.ref b21), .val (.ref b25), .val (.int (own_nw [])), .val (.int (own_bt [])), .val (.int (own_ex (own_nw []) (own_bt [])))] [(.int (1 : Int32))])) _
      refine XS.goto X45.here hx rfl (pc0 := 191) (pc' := 195) rfl (hb hby at_191) (by decide) (by decide) ?_
      exact kt
    obtain ⟨fs, hr, hrun, hended, hW, hsame⟩ := X45.leave (v := (some (.int (1 : Int32)))) (fun h => by rw [Bd.returns] at h; cases h)
    refine ⟨_, _, pre47 _ ?_, hrun, hended, _, _, rfl, ?_, ⟨_, rfl⟩, hW, hsame.mono (by decide) (by decide)⟩
    · show Steps p.tables e below (T45.setTop (mkF m 195 #[.val (.int p0), .val (.long q1), .second, .val (.long q2), .second, .val (.long q3), .second, .val (.int (0 : Int32)), .val (.int (own_hi q1)), .val (.int (own_lo q1)), .val (.int (own_hi q2)), .val (.int (own_lo q2)), .val (.int (own_hi q3)), .val (.int (own_lo q3)), .val (.ref b21), .val (.ref b25), .val (.int (own_nw [])), .val (.int (own_bt [])), .val (.int (own_ex (own_nw []) (own_bt [])))] [(.int (1 : Int32))])) _
      exact retN X45 hx (t := .boolean) Bd.returns (by simp) (hb hby at_195) hr
    · show Q0 Z p0 q1 q2 q3 h0 n0 _ T45.heap _
      rw [he45]
      exact ⟨rfl, N45⟩
  · have pre48 : ∀ t, Steps p.tables e below (s₁.setTop (mkF m 6 #[.val (.int p0), .val (.long q1), .second, .val (.long q2), .second, .val (.long q3), .second, .val (.int (1 : Int32)), .unset, .unset, .unset, .unset, .unset, .unset, .unset, .unset, .unset, .unset, .unset] [(.long q1)])) t → Steps p.tables e below (s₁.setTop (entryFrame m #[(.int p0), (.long q1), (.long q2), (.long q3)] maxLocals)) t := fun t kt => by
      refine pre1 _ ?_
      show Steps p.tables e below (s₁.setTop (mkF m 3 #[.val (.int p0), .val (.long q1), .second, .val (.long q2), .second, .val (.long q3), .second, .unset, .unset, .unset, .unset, .unset, .unset, .unset, .unset, .unset, .unset, .unset, .unset] [(.int (own_n p0))])) _
      rw [show (own_n p0) = (1 : Int32) from hn]
      show Steps p.tables e below (s₁.setTop (mkF m 3 #[.val (.int p0), .val (.long q1), .second, .val (.long q2), .second, .val (.long q3), .second, .unset, .unset, .unset, .unset, .unset, .unset, .unset, .unset, .unset, .unset, .unset, .unset] [(.int (1 : Int32))])) _
      refine XS.istore X0.here hx rfl (hb hby at_3) rfl (l' := #[.val (.int p0), .val (.long q1), .second, .val (.long q2), .second, .val (.long q3), .second, .val (.int (1 : Int32)), .unset, .unset, .unset, .unset, .unset, .unset, .unset, .unset, .unset, .unset, .unset]) rfl ?_
      show Steps p.tables e below (s₁.setTop (mkF m 5 #[.val (.int p0), .val (.long q1), .second, .val (.long q2), .second, .val (.long q3), .second, .val (.int (1 : Int32)), .unset, .unset, .unset, .unset, .unset, .unset, .unset, .unset, .unset, .unset, .unset] [])) _
      refine XS.lloadN X0.here hx rfl (hb hby at_5) rfl ?_
      exact kt
    obtain ⟨_, _, ⟨T49, L49, kc49, nc49⟩, -, X49, ⟨Lc49, hQ49, l49, y49, z49⟩, st49⟩ := Jvm.LawKit.callS X0 hx (y := (⟨"com/example/tesserae/tesserae/core/VectorsDominatesPinLaw", "hi", "(J)I"⟩ : MethodName)) hown (mvT hZ (hw _ (List.mem_of_getElem? (i := 0) rfl))) (mvT hZ (hw _ (List.mem_of_getElem? (i := 1) rfl))) (mvT hZ (hw _ (List.mem_of_getElem? (i := 2) rfl))) (mvT hZ (hw _ (List.mem_of_getElem? (i := 3) rfl))) (by decide) (backOf (W := 0) (rm1 l Z a0 hw [] q1 h0 n0 Z0) hZ (hw _ (List.mem_of_getElem? (i := 3) rfl)) (hw _ (List.mem_of_getElem? (i := 2) rfl)) (by decide) (by decide)) (g := (mkF m 6 #[.val (.int p0), .val (.long q1), .second, .val (.long q2), .second, .val (.long q3), .second, .val (.int (1 : Int32)), .unset, .unset, .unset, .unset, .unset, .unset, .unset, .unset, .unset, .unset, .unset] [(.long q1)])) rfl (by rw [hml]; rfl) (argsL := [(.long q1)]) (rest := []) (lenOf pd_0 rfl) rfl (by show 2 * 0 + _ ≤ _; exact Nat.le_of_eq rfl) (hb hby at_6) (fun _ _ => ⟨rfl, e0, (by decide : 0 + 0 ≤ _), (by decide : 0 + 0 ≤ _)⟩)
    dsimp only [Pt.U, Pt.locs, Pt.cells, Pt.slots] at X49 l49 y49 z49 st49 hQ49
    subst l49 y49 z49
    obtain ⟨rfl, N49q, he49⟩ := hQ49
    have N49 := Fr.app N0 N49q
    have pre50 : ∀ t, Steps p.tables e below (T49.setTop (mkF m 9 #[.val (.int p0), .val (.long q1), .second, .val (.long q2), .second, .val (.long q3), .second, .val (.int (1 : Int32)), .unset, .unset, .unset, .unset, .unset, .unset, .unset, .unset, .unset, .unset, .unset] [(.int (own_hi q1))])) t → Steps p.tables e below (s₁.setTop (entryFrame m #[(.int p0), (.long q1), (.long q2), (.long q3)] maxLocals)) t := fun t kt => pre48 _ (st49 _ kt)
    have pre51 : ∀ t, Steps p.tables e below (T49.setTop (mkF m 12 #[.val (.int p0), .val (.long q1), .second, .val (.long q2), .second, .val (.long q3), .second, .val (.int (1 : Int32)), .val (.int (own_hi q1)), .unset, .unset, .unset, .unset, .unset, .unset, .unset, .unset, .unset, .unset] [(.long q1)])) t → Steps p.tables e below (s₁.setTop (entryFrame m #[(.int p0), (.long q1), (.long q2), (.long q3)] maxLocals)) t := fun t kt => by
      refine pre50 _ ?_
      show Steps p.tables e below (T49.setTop (mkF m 9 #[.val (.int p0), .val (.long q1), .second, .val (.long q2), .second, .val (.long q3), .second, .val (.int (1 : Int32)), .unset, .unset, .unset, .unset, .unset, .unset, .unset, .unset, .unset, .unset, .unset] [(.int (own_hi q1))])) _
      refine XS.istore X49.here hx rfl (hb hby at_9) rfl (l' := #[.val (.int p0), .val (.long q1), .second, .val (.long q2), .second, .val (.long q3), .second, .val (.int (1 : Int32)), .val (.int (own_hi q1)), .unset, .unset, .unset, .unset, .unset, .unset, .unset, .unset, .unset, .unset]) rfl ?_
      show Steps p.tables e below (T49.setTop (mkF m 11 #[.val (.int p0), .val (.long q1), .second, .val (.long q2), .second, .val (.long q3), .second, .val (.int (1 : Int32)), .val (.int (own_hi q1)), .unset, .unset, .unset, .unset, .unset, .unset, .unset, .unset, .unset, .unset] [])) _
      refine XS.lloadN X49.here hx rfl (hb hby at_11) rfl ?_
      exact kt
    obtain ⟨_, _, ⟨T52, L52, kc52, nc52⟩, -, X52, ⟨Lc52, hQ52, l52, y52, z52⟩, st52⟩ := Jvm.LawKit.callS X49 hx (y := (⟨"com/example/tesserae/tesserae/core/VectorsDominatesPinLaw", "lo", "(J)I"⟩ : MethodName)) hown (mvT hZ (hw _ (List.mem_of_getElem? (i := 4) rfl))) (mvT hZ (hw _ (List.mem_of_getElem? (i := 5) rfl))) (mvT hZ (hw _ (List.mem_of_getElem? (i := 2) rfl))) (mvT hZ (hw _ (List.mem_of_getElem? (i := 6) rfl))) (by decide) (backOf (W := 0) (rm2 l Z a0 hw [] q1 h0 n0 Z0) hZ (hw _ (List.mem_of_getElem? (i := 6) rfl)) (hw _ (List.mem_of_getElem? (i := 2) rfl)) (by decide) (by decide)) (g := (mkF m 12 #[.val (.int p0), .val (.long q1), .second, .val (.long q2), .second, .val (.long q3), .second, .val (.int (1 : Int32)), .val (.int (own_hi q1)), .unset, .unset, .unset, .unset, .unset, .unset, .unset, .unset, .unset, .unset] [(.long q1)])) rfl (by rw [hml]; rfl) (argsL := [(.long q1)]) (rest := []) (lenOf pd_0 rfl) rfl (by show 2 * 0 + _ ≤ _; exact Nat.le_of_eq rfl) (hb hby at_12) (fun _ _ => ⟨rfl, he49, (by decide : 0 + 0 ≤ _), (by decide : 0 + 0 ≤ _)⟩)
    dsimp only [Pt.U, Pt.locs, Pt.cells, Pt.slots] at X52 l52 y52 z52 st52 hQ52
    subst l52 y52 z52
    obtain ⟨rfl, N52q, he52⟩ := hQ52
    have N52 := Fr.app N49 N52q
    have pre53 : ∀ t, Steps p.tables e below (T52.setTop (mkF m 15 #[.val (.int p0), .val (.long q1), .second, .val (.long q2), .second, .val (.long q3), .second, .val (.int (1 : Int32)), .val (.int (own_hi q1)), .unset, .unset, .unset, .unset, .unset, .unset, .unset, .unset, .unset, .unset] [(.int (own_lo q1))])) t → Steps p.tables e below (s₁.setTop (entryFrame m #[(.int p0), (.long q1), (.long q2), (.long q3)] maxLocals)) t := fun t kt => pre51 _ (st52 _ kt)
    have pre54 : ∀ t, Steps p.tables e below (T52.setTop (mkF m 18 #[.val (.int p0), .val (.long q1), .second, .val (.long q2), .second, .val (.long q3), .second, .val (.int (1 : Int32)), .val (.int (own_hi q1)), .val (.int (own_lo q1)), .unset, .unset, .unset, .unset, .unset, .unset, .unset, .unset, .unset] [(.long q2)])) t → Steps p.tables e below (s₁.setTop (entryFrame m #[(.int p0), (.long q1), (.long q2), (.long q3)] maxLocals)) t := fun t kt => by
      refine pre53 _ ?_
      show Steps p.tables e below (T52.setTop (mkF m 15 #[.val (.int p0), .val (.long q1), .second, .val (.long q2), .second, .val (.long q3), .second, .val (.int (1 : Int32)), .val (.int (own_hi q1)), .unset, .unset, .unset, .unset, .unset, .unset, .unset, .unset, .unset, .unset] [(.int (own_lo q1))])) _
      refine XS.istore X52.here hx rfl (hb hby at_15) rfl (l' := #[.val (.int p0), .val (.long q1), .second, .val (.long q2), .second, .val (.long q3), .second, .val (.int (1 : Int32)), .val (.int (own_hi q1)), .val (.int (own_lo q1)), .unset, .unset, .unset, .unset, .unset, .unset, .unset, .unset, .unset]) rfl ?_
      show Steps p.tables e below (T52.setTop (mkF m 17 #[.val (.int p0), .val (.long q1), .second, .val (.long q2), .second, .val (.long q3), .second, .val (.int (1 : Int32)), .val (.int (own_hi q1)), .val (.int (own_lo q1)), .unset, .unset, .unset, .unset, .unset, .unset, .unset, .unset, .unset] [])) _
      refine XS.lloadN X52.here hx rfl (hb hby at_17) rfl ?_
      exact kt
    obtain ⟨_, _, ⟨T55, L55, kc55, nc55⟩, -, X55, ⟨Lc55, hQ55, l55, y55, z55⟩, st55⟩ := Jvm.LawKit.callS X52 hx (y := (⟨"com/example/tesserae/tesserae/core/VectorsDominatesPinLaw", "hi", "(J)I"⟩ : MethodName)) hown (mvT hZ (hw _ (List.mem_of_getElem? (i := 0) rfl))) (mvT hZ (hw _ (List.mem_of_getElem? (i := 1) rfl))) (mvT hZ (hw _ (List.mem_of_getElem? (i := 2) rfl))) (mvT hZ (hw _ (List.mem_of_getElem? (i := 3) rfl))) (by decide) (backOf (W := 0) (rm1 l Z a0 hw [] q2 h0 n0 Z0) hZ (hw _ (List.mem_of_getElem? (i := 3) rfl)) (hw _ (List.mem_of_getElem? (i := 2) rfl)) (by decide) (by decide)) (g := (mkF m 18 #[.val (.int p0), .val (.long q1), .second, .val (.long q2), .second, .val (.long q3), .second, .val (.int (1 : Int32)), .val (.int (own_hi q1)), .val (.int (own_lo q1)), .unset, .unset, .unset, .unset, .unset, .unset, .unset, .unset, .unset] [(.long q2)])) rfl (by rw [hml]; rfl) (argsL := [(.long q2)]) (rest := []) (lenOf pd_0 rfl) rfl (by show 2 * 0 + _ ≤ _; exact Nat.le_of_eq rfl) (hb hby at_18) (fun _ _ => ⟨rfl, he52, (by decide : 0 + 0 ≤ _), (by decide : 0 + 0 ≤ _)⟩)
    dsimp only [Pt.U, Pt.locs, Pt.cells, Pt.slots] at X55 l55 y55 z55 st55 hQ55
    subst l55 y55 z55
    obtain ⟨rfl, N55q, he55⟩ := hQ55
    have N55 := Fr.app N52 N55q
    have pre56 : ∀ t, Steps p.tables e below (T55.setTop (mkF m 21 #[.val (.int p0), .val (.long q1), .second, .val (.long q2), .second, .val (.long q3), .second, .val (.int (1 : Int32)), .val (.int (own_hi q1)), .val (.int (own_lo q1)), .unset, .unset, .unset, .unset, .unset, .unset, .unset, .unset, .unset] [(.int (own_hi q2))])) t → Steps p.tables e below (s₁.setTop (entryFrame m #[(.int p0), (.long q1), (.long q2), (.long q3)] maxLocals)) t := fun t kt => pre54 _ (st55 _ kt)
    have pre57 : ∀ t, Steps p.tables e below (T55.setTop (mkF m 24 #[.val (.int p0), .val (.long q1), .second, .val (.long q2), .second, .val (.long q3), .second, .val (.int (1 : Int32)), .val (.int (own_hi q1)), .val (.int (own_lo q1)), .val (.int (own_hi q2)), .unset, .unset, .unset, .unset, .unset, .unset, .unset, .unset] [(.long q2)])) t → Steps p.tables e below (s₁.setTop (entryFrame m #[(.int p0), (.long q1), (.long q2), (.long q3)] maxLocals)) t := fun t kt => by
      refine pre56 _ ?_
      show Steps p.tables e below (T55.setTop (mkF m 21 #[.val (.int p0), .val (.long q1), .second, .val (.long q2), .second, .val (.long q3), .second, .val (.int (1 : Int32)), .val (.int (own_hi q1)), .val (.int (own_lo q1)), .unset, .unset, .unset, .unset, .unset, .unset, .unset, .unset, .unset] [(.int (own_hi q2))])) _
      refine XS.istore X55.here hx rfl (hb hby at_21) rfl (l' := #[.val (.int p0), .val (.long q1), .second, .val (.long q2), .second, .val (.long q3), .second, .val (.int (1 : Int32)), .val (.int (own_hi q1)), .val (.int (own_lo q1)), .val (.int (own_hi q2)), .unset, .unset, .unset, .unset, .unset, .unset, .unset, .unset]) rfl ?_
      show Steps p.tables e below (T55.setTop (mkF m 23 #[.val (.int p0), .val (.long q1), .second, .val (.long q2), .second, .val (.long q3), .second, .val (.int (1 : Int32)), .val (.int (own_hi q1)), .val (.int (own_lo q1)), .val (.int (own_hi q2)), .unset, .unset, .unset, .unset, .unset, .unset, .unset, .unset] [])) _
      refine XS.lloadN X55.here hx rfl (hb hby at_23) rfl ?_
      exact kt
    obtain ⟨_, _, ⟨T58, L58, kc58, nc58⟩, -, X58, ⟨Lc58, hQ58, l58, y58, z58⟩, st58⟩ := Jvm.LawKit.callS X55 hx (y := (⟨"com/example/tesserae/tesserae/core/VectorsDominatesPinLaw", "lo", "(J)I"⟩ : MethodName)) hown (mvT hZ (hw _ (List.mem_of_getElem? (i := 4) rfl))) (mvT hZ (hw _ (List.mem_of_getElem? (i := 5) rfl))) (mvT hZ (hw _ (List.mem_of_getElem? (i := 2) rfl))) (mvT hZ (hw _ (List.mem_of_getElem? (i := 6) rfl))) (by decide) (backOf (W := 0) (rm2 l Z a0 hw [] q2 h0 n0 Z0) hZ (hw _ (List.mem_of_getElem? (i := 6) rfl)) (hw _ (List.mem_of_getElem? (i := 2) rfl)) (by decide) (by decide)) (g := (mkF m 24 #[.val (.int p0), .val (.long q1), .second, .val (.long q2), .second, .val (.long q3), .second, .val (.int (1 : Int32)), .val (.int (own_hi q1)), .val (.int (own_lo q1)), .val (.int (own_hi q2)), .unset, .unset, .unset, .unset, .unset, .unset, .unset, .unset] [(.long q2)])) rfl (by rw [hml]; rfl) (argsL := [(.long q2)]) (rest := []) (lenOf pd_0 rfl) rfl (by show 2 * 0 + _ ≤ _; exact Nat.le_of_eq rfl) (hb hby at_24) (fun _ _ => ⟨rfl, he55, (by decide : 0 + 0 ≤ _), (by decide : 0 + 0 ≤ _)⟩)
    dsimp only [Pt.U, Pt.locs, Pt.cells, Pt.slots] at X58 l58 y58 z58 st58 hQ58
    subst l58 y58 z58
    obtain ⟨rfl, N58q, he58⟩ := hQ58
    have N58 := Fr.app N55 N58q
    have pre59 : ∀ t, Steps p.tables e below (T58.setTop (mkF m 27 #[.val (.int p0), .val (.long q1), .second, .val (.long q2), .second, .val (.long q3), .second, .val (.int (1 : Int32)), .val (.int (own_hi q1)), .val (.int (own_lo q1)), .val (.int (own_hi q2)), .unset, .unset, .unset, .unset, .unset, .unset, .unset, .unset] [(.int (own_lo q2))])) t → Steps p.tables e below (s₁.setTop (entryFrame m #[(.int p0), (.long q1), (.long q2), (.long q3)] maxLocals)) t := fun t kt => pre57 _ (st58 _ kt)
    have pre60 : ∀ t, Steps p.tables e below (T58.setTop (mkF m 31 #[.val (.int p0), .val (.long q1), .second, .val (.long q2), .second, .val (.long q3), .second, .val (.int (1 : Int32)), .val (.int (own_hi q1)), .val (.int (own_lo q1)), .val (.int (own_hi q2)), .val (.int (own_lo q2)), .unset, .unset, .unset, .unset, .unset, .unset, .unset] [(.long q3)])) t → Steps p.tables e below (s₁.setTop (entryFrame m #[(.int p0), (.long q1), (.long q2), (.long q3)] maxLocals)) t := fun t kt => by
      refine pre59 _ ?_
      show Steps p.tables e below (T58.setTop (mkF m 27 #[.val (.int p0), .val (.long q1), .second, .val (.long q2), .second, .val (.long q3), .second, .val (.int (1 : Int32)), .val (.int (own_hi q1)), .val (.int (own_lo q1)), .val (.int (own_hi q2)), .unset, .unset, .unset, .unset, .unset, .unset, .unset, .unset] [(.int (own_lo q2))])) _
      refine XS.istore X58.here hx rfl (hb hby at_27) rfl (l' := #[.val (.int p0), .val (.long q1), .second, .val (.long q2), .second, .val (.long q3), .second, .val (.int (1 : Int32)), .val (.int (own_hi q1)), .val (.int (own_lo q1)), .val (.int (own_hi q2)), .val (.int (own_lo q2)), .unset, .unset, .unset, .unset, .unset, .unset, .unset]) rfl ?_
      show Steps p.tables e below (T58.setTop (mkF m 29 #[.val (.int p0), .val (.long q1), .second, .val (.long q2), .second, .val (.long q3), .second, .val (.int (1 : Int32)), .val (.int (own_hi q1)), .val (.int (own_lo q1)), .val (.int (own_hi q2)), .val (.int (own_lo q2)), .unset, .unset, .unset, .unset, .unset, .unset, .unset] [])) _
      refine XS.lload X58.here hx rfl (hb hby at_29) rfl ?_
      exact kt
    obtain ⟨_, _, ⟨T61, L61, kc61, nc61⟩, -, X61, ⟨Lc61, hQ61, l61, y61, z61⟩, st61⟩ := Jvm.LawKit.callS X58 hx (y := (⟨"com/example/tesserae/tesserae/core/VectorsDominatesPinLaw", "hi", "(J)I"⟩ : MethodName)) hown (mvT hZ (hw _ (List.mem_of_getElem? (i := 0) rfl))) (mvT hZ (hw _ (List.mem_of_getElem? (i := 1) rfl))) (mvT hZ (hw _ (List.mem_of_getElem? (i := 2) rfl))) (mvT hZ (hw _ (List.mem_of_getElem? (i := 3) rfl))) (by decide) (backOf (W := 0) (rm1 l Z a0 hw [] q3 h0 n0 Z0) hZ (hw _ (List.mem_of_getElem? (i := 3) rfl)) (hw _ (List.mem_of_getElem? (i := 2) rfl)) (by decide) (by decide)) (g := (mkF m 31 #[.val (.int p0), .val (.long q1), .second, .val (.long q2), .second, .val (.long q3), .second, .val (.int (1 : Int32)), .val (.int (own_hi q1)), .val (.int (own_lo q1)), .val (.int (own_hi q2)), .val (.int (own_lo q2)), .unset, .unset, .unset, .unset, .unset, .unset, .unset] [(.long q3)])) rfl (by rw [hml]; rfl) (argsL := [(.long q3)]) (rest := []) (lenOf pd_0 rfl) rfl (by show 2 * 0 + _ ≤ _; exact Nat.le_of_eq rfl) (hb hby at_31) (fun _ _ => ⟨rfl, he58, (by decide : 0 + 0 ≤ _), (by decide : 0 + 0 ≤ _)⟩)
    dsimp only [Pt.U, Pt.locs, Pt.cells, Pt.slots] at X61 l61 y61 z61 st61 hQ61
    subst l61 y61 z61
    obtain ⟨rfl, N61q, he61⟩ := hQ61
    have N61 := Fr.app N58 N61q
    have pre62 : ∀ t, Steps p.tables e below (T61.setTop (mkF m 34 #[.val (.int p0), .val (.long q1), .second, .val (.long q2), .second, .val (.long q3), .second, .val (.int (1 : Int32)), .val (.int (own_hi q1)), .val (.int (own_lo q1)), .val (.int (own_hi q2)), .val (.int (own_lo q2)), .unset, .unset, .unset, .unset, .unset, .unset, .unset] [(.int (own_hi q3))])) t → Steps p.tables e below (s₁.setTop (entryFrame m #[(.int p0), (.long q1), (.long q2), (.long q3)] maxLocals)) t := fun t kt => pre60 _ (st61 _ kt)
    have pre63 : ∀ t, Steps p.tables e below (T61.setTop (mkF m 38 #[.val (.int p0), .val (.long q1), .second, .val (.long q2), .second, .val (.long q3), .second, .val (.int (1 : Int32)), .val (.int (own_hi q1)), .val (.int (own_lo q1)), .val (.int (own_hi q2)), .val (.int (own_lo q2)), .val (.int (own_hi q3)), .unset, .unset, .unset, .unset, .unset, .unset] [(.long q3)])) t → Steps p.tables e below (s₁.setTop (entryFrame m #[(.int p0), (.long q1), (.long q2), (.long q3)] maxLocals)) t := fun t kt => by
      refine pre62 _ ?_
      show Steps p.tables e below (T61.setTop (mkF m 34 #[.val (.int p0), .val (.long q1), .second, .val (.long q2), .second, .val (.long q3), .second, .val (.int (1 : Int32)), .val (.int (own_hi q1)), .val (.int (own_lo q1)), .val (.int (own_hi q2)), .val (.int (own_lo q2)), .unset, .unset, .unset, .unset, .unset, .unset, .unset] [(.int (own_hi q3))])) _
      refine XS.istore X61.here hx rfl (hb hby at_34) rfl (l' := #[.val (.int p0), .val (.long q1), .second, .val (.long q2), .second, .val (.long q3), .second, .val (.int (1 : Int32)), .val (.int (own_hi q1)), .val (.int (own_lo q1)), .val (.int (own_hi q2)), .val (.int (own_lo q2)), .val (.int (own_hi q3)), .unset, .unset, .unset, .unset, .unset, .unset]) rfl ?_
      show Steps p.tables e below (T61.setTop (mkF m 36 #[.val (.int p0), .val (.long q1), .second, .val (.long q2), .second, .val (.long q3), .second, .val (.int (1 : Int32)), .val (.int (own_hi q1)), .val (.int (own_lo q1)), .val (.int (own_hi q2)), .val (.int (own_lo q2)), .val (.int (own_hi q3)), .unset, .unset, .unset, .unset, .unset, .unset] [])) _
      refine XS.lload X61.here hx rfl (hb hby at_36) rfl ?_
      exact kt
    obtain ⟨_, _, ⟨T64, L64, kc64, nc64⟩, -, X64, ⟨Lc64, hQ64, l64, y64, z64⟩, st64⟩ := Jvm.LawKit.callS X61 hx (y := (⟨"com/example/tesserae/tesserae/core/VectorsDominatesPinLaw", "lo", "(J)I"⟩ : MethodName)) hown (mvT hZ (hw _ (List.mem_of_getElem? (i := 4) rfl))) (mvT hZ (hw _ (List.mem_of_getElem? (i := 5) rfl))) (mvT hZ (hw _ (List.mem_of_getElem? (i := 2) rfl))) (mvT hZ (hw _ (List.mem_of_getElem? (i := 6) rfl))) (by decide) (backOf (W := 0) (rm2 l Z a0 hw [] q3 h0 n0 Z0) hZ (hw _ (List.mem_of_getElem? (i := 6) rfl)) (hw _ (List.mem_of_getElem? (i := 2) rfl)) (by decide) (by decide)) (g := (mkF m 38 #[.val (.int p0), .val (.long q1), .second, .val (.long q2), .second, .val (.long q3), .second, .val (.int (1 : Int32)), .val (.int (own_hi q1)), .val (.int (own_lo q1)), .val (.int (own_hi q2)), .val (.int (own_lo q2)), .val (.int (own_hi q3)), .unset, .unset, .unset, .unset, .unset, .unset] [(.long q3)])) rfl (by rw [hml]; rfl) (argsL := [(.long q3)]) (rest := []) (lenOf pd_0 rfl) rfl (by show 2 * 0 + _ ≤ _; exact Nat.le_of_eq rfl) (hb hby at_38) (fun _ _ => ⟨rfl, he61, (by decide : 0 + 0 ≤ _), (by decide : 0 + 0 ≤ _)⟩)
    dsimp only [Pt.U, Pt.locs, Pt.cells, Pt.slots] at X64 l64 y64 z64 st64 hQ64
    subst l64 y64 z64
    obtain ⟨rfl, N64q, he64⟩ := hQ64
    have N64 := Fr.app N61 N64q
    have pre65 : ∀ t, Steps p.tables e below (T64.setTop (mkF m 41 #[.val (.int p0), .val (.long q1), .second, .val (.long q2), .second, .val (.long q3), .second, .val (.int (1 : Int32)), .val (.int (own_hi q1)), .val (.int (own_lo q1)), .val (.int (own_hi q2)), .val (.int (own_lo q2)), .val (.int (own_hi q3)), .unset, .unset, .unset, .unset, .unset, .unset] [(.int (own_lo q3))])) t → Steps p.tables e below (s₁.setTop (entryFrame m #[(.int p0), (.long q1), (.long q2), (.long q3)] maxLocals)) t := fun t kt => pre63 _ (st64 _ kt)
    have pre66 : ∀ t, Steps p.tables e below (T64.setTop (mkF m 51 #[.val (.int p0), .val (.long q1), .second, .val (.long q2), .second, .val (.long q3), .second, .val (.int (1 : Int32)), .val (.int (own_hi q1)), .val (.int (own_lo q1)), .val (.int (own_hi q2)), .val (.int (own_lo q2)), .val (.int (own_hi q3)), .val (.int (own_lo q3)), .unset, .unset, .unset, .unset, .unset] [(.int (own_hi q3)), (.int (own_hi q2)), (.int (own_hi q1)), (.int (1 : Int32))])) t → Steps p.tables e below (s₁.setTop (entryFrame m #[(.int p0), (.long q1), (.long q2), (.long q3)] maxLocals)) t := fun t kt => by
      refine pre65 _ ?_
      show Steps p.tables e below (T64.setTop (mkF m 41 #[.val (.int p0), .val (.long q1), .second, .val (.long q2), .second, .val (.long q3), .second, .val (.int (1 : Int32)), .val (.int (own_hi q1)), .val (.int (own_lo q1)), .val (.int (own_hi q2)), .val (.int (own_lo q2)), .val (.int (own_hi q3)), .unset, .unset, .unset, .unset, .unset, .unset] [(.int (own_lo q3))])) _
      refine XS.istore X64.here hx rfl (hb hby at_41) rfl (l' := #[.val (.int p0), .val (.long q1), .second, .val (.long q2), .second, .val (.long q3), .second, .val (.int (1 : Int32)), .val (.int (own_hi q1)), .val (.int (own_lo q1)), .val (.int (own_hi q2)), .val (.int (own_lo q2)), .val (.int (own_hi q3)), .val (.int (own_lo q3)), .unset, .unset, .unset, .unset, .unset]) rfl ?_
      show Steps p.tables e below (T64.setTop (mkF m 43 #[.val (.int p0), .val (.long q1), .second, .val (.long q2), .second, .val (.long q3), .second, .val (.int (1 : Int32)), .val (.int (own_hi q1)), .val (.int (own_lo q1)), .val (.int (own_hi q2)), .val (.int (own_lo q2)), .val (.int (own_hi q3)), .val (.int (own_lo q3)), .unset, .unset, .unset, .unset, .unset] [])) _
      refine XS.iload X64.here hx rfl (hb hby at_43) rfl ?_
      show Steps p.tables e below (T64.setTop (mkF m 45 #[.val (.int p0), .val (.long q1), .second, .val (.long q2), .second, .val (.long q3), .second, .val (.int (1 : Int32)), .val (.int (own_hi q1)), .val (.int (own_lo q1)), .val (.int (own_hi q2)), .val (.int (own_lo q2)), .val (.int (own_hi q3)), .val (.int (own_lo q3)), .unset, .unset, .unset, .unset, .unset] [(.int (1 : Int32))])) _
      refine XS.iload X64.here hx rfl (hb hby at_45) rfl ?_
      show Steps p.tables e below (T64.setTop (mkF m 47 #[.val (.int p0), .val (.long q1), .second, .val (.long q2), .second, .val (.long q3), .second, .val (.int (1 : Int32)), .val (.int (own_hi q1)), .val (.int (own_lo q1)), .val (.int (own_hi q2)), .val (.int (own_lo q2)), .val (.int (own_hi q3)), .val (.int (own_lo q3)), .unset, .unset, .unset, .unset, .unset] [(.int (own_hi q1)), (.int (1 : Int32))])) _
      refine XS.iload X64.here hx rfl (hb hby at_47) rfl ?_
      show Steps p.tables e below (T64.setTop (mkF m 49 #[.val (.int p0), .val (.long q1), .second, .val (.long q2), .second, .val (.long q3), .second, .val (.int (1 : Int32)), .val (.int (own_hi q1)), .val (.int (own_lo q1)), .val (.int (own_hi q2)), .val (.int (own_lo q2)), .val (.int (own_hi q3)), .val (.int (own_lo q3)), .unset, .unset, .unset, .unset, .unset] [(.int (own_hi q2)), (.int (own_hi q1)), (.int (1 : Int32))])) _
      refine XS.iload X64.here hx rfl (hb hby at_49) rfl ?_
      exact kt
    obtain ⟨_, _, ⟨T67, L67, kc67, nc67⟩, -, X67, ⟨Lc67, hQ67, l67, y67, z67⟩, st67⟩ := Jvm.LawKit.callS X64 hx (y := (⟨"com/example/tesserae/tesserae/core/VectorsDominatesPinLaw", "make", "(IIII)[D"⟩ : MethodName)) hown (mvT hZ (hw _ (List.mem_of_getElem? (i := 7) rfl))) (mvT hZ (hw _ (List.mem_of_getElem? (i := 8) rfl))) (mvT hZ (hw _ (List.mem_of_getElem? (i := 2) rfl))) (mvT hZ (hw _ (List.mem_of_getElem? (i := 9) rfl))) (by decide) (backOf (W := 0) (rm3m1 l Z a0 hw [] (own_hi q1) (own_hi q2) (own_hi q3) h0 n0 Z0) hZ (hw _ (List.mem_of_getElem? (i := 9) rfl)) (hw _ (List.mem_of_getElem? (i := 2) rfl)) (by decide) (by decide)) (g := (mkF m 51 #[.val (.int p0), .val (.long q1), .second, .val (.long q2), .second, .val (.long q3), .second, .val (.int (1 : Int32)), .val (.int (own_hi q1)), .val (.int (own_lo q1)), .val (.int (own_hi q2)), .val (.int (own_lo q2)), .val (.int (own_hi q3)), .val (.int (own_lo q3)), .unset, .unset, .unset, .unset, .unset] [(.int (own_hi q3)), (.int (own_hi q2)), (.int (own_hi q1)), (.int (1 : Int32))])) rfl (by rw [hml]; rfl) (argsL := [(.int (1 : Int32)), (.int (own_hi q1)), (.int (own_hi q2)), (.int (own_hi q3))]) (rest := []) (lenOf pd_1 rfl) rfl (by show 2 * 0 + _ ≤ _; exact Nat.le_of_eq rfl) (hb hby at_51) (fun _ _ => ⟨rfl, he64, (by decide : 0 + 1 ≤ _), (by decide : 0 + 1 ≤ _)⟩)
    dsimp only [Pt.U, Pt.locs, Pt.cells, Pt.slots] at X67 l67 y67 z67 st67 hQ67
    subst l67 y67 z67
    obtain ⟨rfl, N67q, K67, ⟨kk67, Va67⟩⟩ := hQ67
    have N67 := Fr.app N64 N67q
    obtain ⟨b67, gq67⟩ : ∃ z, z = h0.size := ⟨_, rfl⟩
    rw [← gq67] at Va67 st67
    have gg_b67 : n0 ≤ b67 := Nat.le_trans Z0 (Nat.le_of_eq gq67.symm)
    have pre68 : ∀ t, Steps p.tables e below (T67.setTop (mkF m 54 #[.val (.int p0), .val (.long q1), .second, .val (.long q2), .second, .val (.long q3), .second, .val (.int (1 : Int32)), .val (.int (own_hi q1)), .val (.int (own_lo q1)), .val (.int (own_hi q2)), .val (.int (own_lo q2)), .val (.int (own_hi q3)), .val (.int (own_lo q3)), .unset, .unset, .unset, .unset, .unset] [(.ref b67)])) t → Steps p.tables e below (s₁.setTop (entryFrame m #[(.int p0), (.long q1), (.long q2), (.long q3)] maxLocals)) t := fun t kt => pre66 _ (st67 _ kt)
    have z69 : n0 ≤ T67.heap.size := (Nat.le_trans Z0 K67.1)
    have pre70 : ∀ t, Steps p.tables e below (T67.setTop (mkF m 64 #[.val (.int p0), .val (.long q1), .second, .val (.long q2), .second, .val (.long q3), .second, .val (.int (1 : Int32)), .val (.int (own_hi q1)), .val (.int (own_lo q1)), .val (.int (own_hi q2)), .val (.int (own_lo q2)), .val (.int (own_hi q3)), .val (.int (own_lo q3)), .val (.ref b67), .unset, .unset, .unset, .unset] [(.int (own_lo q3)), (.int (own_lo q2)), (.int (own_lo q1)), (.int (1 : Int32))])) t → Steps p.tables e below (s₁.setTop (entryFrame m #[(.int p0), (.long q1), (.long q2), (.long q3)] maxLocals)) t := fun t kt => by
      refine pre68 _ ?_
      show Steps p.tables e below (T67.setTop (mkF m 54 #[.val (.int p0), .val (.long q1), .second, .val (.long q2), .second, .val (.long q3), .second, .val (.int (1 : Int32)), .val (.int (own_hi q1)), .val (.int (own_lo q1)), .val (.int (own_hi q2)), .val (.int (own_lo q2)), .val (.int (own_hi q3)), .val (.int (own_lo q3)), .unset, .unset, .unset, .unset, .unset] [(.ref b67)])) _
      refine XS.astore X67.here hx rfl (hb hby at_54) rfl rfl (l' := #[.val (.int p0), .val (.long q1), .second, .val (.long q2), .second, .val (.long q3), .second, .val (.int (1 : Int32)), .val (.int (own_hi q1)), .val (.int (own_lo q1)), .val (.int (own_hi q2)), .val (.int (own_lo q2)), .val (.int (own_hi q3)), .val (.int (own_lo q3)), .val (.ref b67), .unset, .unset, .unset, .unset]) rfl ?_
      show Steps p.tables e below (T67.setTop (mkF m 56 #[.val (.int p0), .val (.long q1), .second, .val (.long q2), .second, .val (.long q3), .second, .val (.int (1 : Int32)), .val (.int (own_hi q1)), .val (.int (own_lo q1)), .val (.int (own_hi q2)), .val (.int (own_lo q2)), .val (.int (own_hi q3)), .val (.int (own_lo q3)), .val (.ref b67), .unset, .unset, .unset, .unset] [])) _
      refine XS.iload X67.here hx rfl (hb hby at_56) rfl ?_
      show Steps p.tables e below (T67.setTop (mkF m 58 #[.val (.int p0), .val (.long q1), .second, .val (.long q2), .second, .val (.long q3), .second, .val (.int (1 : Int32)), .val (.int (own_hi q1)), .val (.int (own_lo q1)), .val (.int (own_hi q2)), .val (.int (own_lo q2)), .val (.int (own_hi q3)), .val (.int (own_lo q3)), .val (.ref b67), .unset, .unset, .unset, .unset] [(.int (1 : Int32))])) _
      refine XS.iload X67.here hx rfl (hb hby at_58) rfl ?_
      show Steps p.tables e below (T67.setTop (mkF m 60 #[.val (.int p0), .val (.long q1), .second, .val (.long q2), .second, .val (.long q3), .second, .val (.int (1 : Int32)), .val (.int (own_hi q1)), .val (.int (own_lo q1)), .val (.int (own_hi q2)), .val (.int (own_lo q2)), .val (.int (own_hi q3)), .val (.int (own_lo q3)), .val (.ref b67), .unset, .unset, .unset, .unset] [(.int (own_lo q1)), (.int (1 : Int32))])) _
      refine XS.iload X67.here hx rfl (hb hby at_60) rfl ?_
      show Steps p.tables e below (T67.setTop (mkF m 62 #[.val (.int p0), .val (.long q1), .second, .val (.long q2), .second, .val (.long q3), .second, .val (.int (1 : Int32)), .val (.int (own_hi q1)), .val (.int (own_lo q1)), .val (.int (own_hi q2)), .val (.int (own_lo q2)), .val (.int (own_hi q3)), .val (.int (own_lo q3)), .val (.ref b67), .unset, .unset, .unset, .unset] [(.int (own_lo q2)), (.int (own_lo q1)), (.int (1 : Int32))])) _
      refine XS.iload X67.here hx rfl (hb hby at_62) rfl ?_
      exact kt
    obtain ⟨_, _, ⟨T71, L71, kc71, nc71⟩, -, X71, ⟨Lc71, hQ71, l71, y71, z71⟩, st71⟩ := Jvm.LawKit.callS X67 hx (y := (⟨"com/example/tesserae/tesserae/core/VectorsDominatesPinLaw", "make", "(IIII)[D"⟩ : MethodName)) hown (mvT hZ (hw _ (List.mem_of_getElem? (i := 7) rfl))) (mvT hZ (hw _ (List.mem_of_getElem? (i := 8) rfl))) (mvT hZ (hw _ (List.mem_of_getElem? (i := 2) rfl))) (mvT hZ (hw _ (List.mem_of_getElem? (i := 9) rfl))) (by decide) (backOf (W := 0) (rm3m1 l Z a0 hw [] (own_lo q1) (own_lo q2) (own_lo q3) T67.heap n0 z69) hZ (hw _ (List.mem_of_getElem? (i := 9) rfl)) (hw _ (List.mem_of_getElem? (i := 2) rfl)) (by decide) (by decide)) (g := (mkF m 64 #[.val (.int p0), .val (.long q1), .second, .val (.long q2), .second, .val (.long q3), .second, .val (.int (1 : Int32)), .val (.int (own_hi q1)), .val (.int (own_lo q1)), .val (.int (own_hi q2)), .val (.int (own_lo q2)), .val (.int (own_hi q3)), .val (.int (own_lo q3)), .val (.ref b67), .unset, .unset, .unset, .unset] [(.int (own_lo q3)), (.int (own_lo q2)), (.int (own_lo q1)), (.int (1 : Int32))])) rfl (by rw [hml]; rfl) (argsL := [(.int (1 : Int32)), (.int (own_lo q1)), (.int (own_lo q2)), (.int (own_lo q3))]) (rest := []) (lenOf pd_1 rfl) rfl (by show 2 * 0 + _ ≤ _; exact Nat.le_of_eq rfl) (hb hby at_64) (fun _ _ => ⟨rfl, rfl, (by decide : 1 + 1 ≤ _), (by decide : 1 + 1 ≤ _)⟩)
    dsimp only [Pt.U, Pt.locs, Pt.cells, Pt.slots] at X71 l71 y71 z71 st71 hQ71
    subst l71 y71 z71
    obtain ⟨rfl, N71q, K71, ⟨kk71, Va71⟩⟩ := hQ71
    have N71 := Fr.app N67 N71q
    obtain ⟨b71, gq71⟩ : ∃ z, z = T67.heap.size := ⟨_, rfl⟩
    rw [← gq71] at Va71 st71
    have gg_b71 : n0 ≤ b71 := Nat.le_trans z69 (Nat.le_of_eq gq71.symm)
    have pre72 : ∀ t, Steps p.tables e below (T71.setTop (mkF m 67 #[.val (.int p0), .val (.long q1), .second, .val (.long q2), .second, .val (.long q3), .second, .val (.int (1 : Int32)), .val (.int (own_hi q1)), .val (.int (own_lo q1)), .val (.int (own_hi q2)), .val (.int (own_lo q2)), .val (.int (own_hi q3)), .val (.int (own_lo q3)), .val (.ref b67), .unset, .unset, .unset, .unset] [(.ref b71)])) t → Steps p.tables e below (s₁.setTop (entryFrame m #[(.int p0), (.long q1), (.long q2), (.long q3)] maxLocals)) t := fun t kt => pre70 _ (st71 _ kt)
    have pre73 : ∀ t, Steps p.tables e below (T71.setTop (mkF m 69 #[.val (.int p0), .val (.long q1), .second, .val (.long q2), .second, .val (.long q3), .second, .val (.int (1 : Int32)), .val (.int (own_hi q1)), .val (.int (own_lo q1)), .val (.int (own_hi q2)), .val (.int (own_lo q2)), .val (.int (own_hi q3)), .val (.int (own_lo q3)), .val (.ref b67), .val (.ref b71), .unset, .unset, .unset] [])) t → Steps p.tables e below (s₁.setTop (entryFrame m #[(.int p0), (.long q1), (.long q2), (.long q3)] maxLocals)) t := fun t kt => by
      refine pre72 _ ?_
      show Steps p.tables e below (T71.setTop (mkF m 67 #[.val (.int p0), .val (.long q1), .second, .val (.long q2), .second, .val (.long q3), .second, .val (.int (1 : Int32)), .val (.int (own_hi q1)), .val (.int (own_lo q1)), .val (.int (own_hi q2)), .val (.int (own_lo q2)), .val (.int (own_hi q3)), .val (.int (own_lo q3)), .val (.ref b67), .unset, .unset, .unset, .unset] [(.ref b71)])) _
      refine XS.astore X71.here hx rfl (hb hby at_67) rfl rfl (l' := #[.val (.int p0), .val (.long q1), .second, .val (.long q2), .second, .val (.long q3), .second, .val (.int (1 : Int32)), .val (.int (own_hi q1)), .val (.int (own_lo q1)), .val (.int (own_hi q2)), .val (.int (own_lo q2)), .val (.int (own_hi q3)), .val (.int (own_lo q3)), .val (.ref b67), .val (.ref b71), .unset, .unset, .unset]) rfl ?_
      exact kt
    have pre74 : ∀ t, Steps p.tables e below (T71.setTop (mkF m 113 #[.val (.int p0), .val (.long q1), .second, .val (.long q2), .second, .val (.long q3), .second, .val (.int (1 : Int32)), .val (.int (own_hi q1)), .val (.int (own_lo q1)), .val (.int (own_hi q2)), .val (.int (own_lo q2)), .val (.int (own_hi q3)), .val (.int (own_lo q3)), .val (.ref b67), .val (.ref b71), .unset, .unset, .unset] [(.int (own_nw [((own_hi q1), (own_lo q1))]))])) t → Steps p.tables e below (s₁.setTop (entryFrame m #[(.int p0), (.long q1), (.long q2), (.long q3)] maxLocals)) t := fun t kt => by
      have pre76 : ∀ t, Steps p.tables e below (T71.setTop (mkF m 79 #[.val (.int p0), .val (.long q1), .second, .val (.long q2), .second, .val (.long q3), .second, .val (.int (1 : Int32)), .val (.int (own_hi q1)), .val (.int (own_lo q1)), .val (.int (own_hi q2)), .val (.int (own_lo q2)), .val (.int (own_hi q3)), .val (.int (own_lo q3)), .val (.ref b67), .val (.ref b71), .unset, .unset, .unset] [(.int (own_lo q1)), (.int (own_hi q1))])) t → Steps p.tables e below (s₁.setTop (entryFrame m #[(.int p0), (.long q1), (.long q2), (.long q3)] maxLocals)) t := fun t kt => by
        refine pre73 _ ?_
        show Steps p.tables e below (T71.setTop (mkF m 69 #[.val (.int p0), .val (.long q1), .second, .val (.long q2), .second, .val (.long q3), .second, .val (.int (1 : Int32)), .val (.int (own_hi q1)), .val (.int (own_lo q1)), .val (.int (own_hi q2)), .val (.int (own_lo q2)), .val (.int (own_hi q3)), .val (.int (own_lo q3)), .val (.ref b67), .val (.ref b71), .unset, .unset, .unset] [])) _
        refine XS.iload X71.here hx rfl (hb hby at_69) rfl ?_
        show Steps p.tables e below (T71.setTop (mkF m 71 #[.val (.int p0), .val (.long q1), .second, .val (.long q2), .second, .val (.long q3), .second, .val (.int (1 : Int32)), .val (.int (own_hi q1)), .val (.int (own_lo q1)), .val (.int (own_hi q2)), .val (.int (own_lo q2)), .val (.int (own_hi q3)), .val (.int (own_lo q3)), .val (.ref b67), .val (.ref b71), .unset, .unset, .unset] [(.int (1 : Int32))])) _
        refine XS.iconst X71.here hx rfl (hb hby at_71) ?_
        show Steps p.tables e below (T71.setTop (mkF m 72 #[.val (.int p0), .val (.long q1), .second, .val (.long q2), .second, .val (.long q3), .second, .val (.int (1 : Int32)), .val (.int (own_hi q1)), .val (.int (own_lo q1)), .val (.int (own_hi q2)), .val (.int (own_lo q2)), .val (.int (own_hi q3)), .val (.int (own_lo q3)), .val (.ref b67), .val (.ref b71), .unset, .unset, .unset] [(.int (1 : Int32)), (.int (1 : Int32))])) _
        refine XS.icmpNo X71.here hx rfl (hb hby at_72) rfl (flt (by decide : ¬ ((1 : Int32) < (1 : Int32)))).1 ?_
        show Steps p.tables e below (T71.setTop (mkF m 75 #[.val (.int p0), .val (.long q1), .second, .val (.long q2), .second, .val (.long q3), .second, .val (.int (1 : Int32)), .val (.int (own_hi q1)), .val (.int (own_lo q1)), .val (.int (own_hi q2)), .val (.int (own_lo q2)), .val (.int (own_hi q3)), .val (.int (own_lo q3)), .val (.ref b67), .val (.ref b71), .unset, .unset, .unset] [])) _
        refine XS.iload X71.here hx rfl (hb hby at_75) rfl ?_
        show Steps p.tables e below (T71.setTop (mkF m 77 #[.val (.int p0), .val (.long q1), .second, .val (.long q2), .second, .val (.long q3), .second, .val (.int (1 : Int32)), .val (.int (own_hi q1)), .val (.int (own_lo q1)), .val (.int (own_hi q2)), .val (.int (own_lo q2)), .val (.int (own_hi q3)), .val (.int (own_lo q3)), .val (.ref b67), .val (.ref b71), .unset, .unset, .unset] [(.int (own_hi q1))])) _
        refine XS.iload X71.here hx rfl (hb hby at_77) rfl ?_
        exact kt
      by_cases c75 : (own_lo q1) < (own_hi q1)
      · have pre77 : ∀ t, Steps p.tables e below (T71.setTop (mkF m 113 #[.val (.int p0), .val (.long q1), .second, .val (.long q2), .second, .val (.long q3), .second, .val (.int (1 : Int32)), .val (.int (own_hi q1)), .val (.int (own_lo q1)), .val (.int (own_hi q2)), .val (.int (own_lo q2)), .val (.int (own_hi q3)), .val (.int (own_lo q3)), .val (.ref b67), .val (.ref b71), .unset, .unset, .unset] [(.int (0 : Int32))])) t → Steps p.tables e below (s₁.setTop (entryFrame m #[(.int p0), (.long q1), (.long q2), (.long q3)] maxLocals)) t := fun t kt => by
          refine pre76 _ ?_
          show Steps p.tables e below (T71.setTop (mkF m 79 #[.val (.int p0), .val (.long q1), .second, .val (.long q2), .second, .val (.long q3), .second, .val (.int (1 : Int32)), .val (.int (own_hi q1)), .val (.int (own_lo q1)), .val (.int (own_hi q2)), .val (.int (own_lo q2)), .val (.int (own_hi q3)), .val (.int (own_lo q3)), .val (.ref b67), .val (.ref b71), .unset, .unset, .unset] [(.int (own_lo q1)), (.int (own_hi q1))])) _
          refine XS.icmpYes X71.here hx rfl (pc0 := 79) (pc' := 112) rfl (hb hby at_79) rfl (tlt (c75 : (own_lo q1) < (own_hi q1))).2.2.1 (by decide) (by decide) ?_
          show Steps p.tables e below (T71.setTop (mkF m 112 #[.val (.int p0), .val (.long q1), .second, .val (.long q2), .second, .val (.long q3), .second, .val (.int (1 : Int32)), .val (.int (own_hi q1)), .val (.int (own_lo q1)), .val (.int (own_hi q2)), .val (.int (own_lo q2)), .val (.int (own_hi q3)), .val (.int (own_lo q3)), .val (.ref b67), .val (.ref b71), .unset, .unset, .unset] [])) _
          refine XS.iconst X71.here hx rfl (hb hby at_112) ?_
          exact kt
        rw [show (own_nw [((own_hi q1), (own_lo q1))]) = (0 : Int32) from by simp only [own_nw, c75, if_true, if_false]] at kt
        exact pre77 _ kt
      · have pre78 : ∀ t, Steps p.tables e below (T71.setTop (mkF m 113 #[.val (.int p0), .val (.long q1), .second, .val (.long q2), .second, .val (.long q3), .second, .val (.int (1 : Int32)), .val (.int (own_hi q1)), .val (.int (own_lo q1)), .val (.int (own_hi q2)), .val (.int (own_lo q2)), .val (.int (own_hi q3)), .val (.int (own_lo q3)), .val (.ref b67), .val (.ref b71), .unset, .unset, .unset] [(.int (1 : Int32))])) t → Steps p.tables e below (s₁.setTop (entryFrame m #[(.int p0), (.long q1), (.long q2), (.long q3)] maxLocals)) t := fun t kt => by
          refine pre76 _ ?_
          show Steps p.tables e below (T71.setTop (mkF m 79 #[.val (.int p0), .val (.long q1), .second, .val (.long q2), .second, .val (.long q3), .second, .val (.int (1 : Int32)), .val (.int (own_hi q1)), .val (.int (own_lo q1)), .val (.int (own_hi q2)), .val (.int (own_lo q2)), .val (.int (own_hi q3)), .val (.int (own_lo q3)), .val (.ref b67), .val (.ref b71), .unset, .unset, .unset] [(.int (own_lo q1)), (.int (own_hi q1))])) _
          refine XS.icmpNo X71.here hx rfl (hb hby at_79) rfl (flt (c75 : ¬ ((own_lo q1) < (own_hi q1)))).2.2.1 ?_
          show Steps p.tables e below (T71.setTop (mkF m 82 #[.val (.int p0), .val (.long q1), .second, .val (.long q2), .second, .val (.long q3), .second, .val (.int (1 : Int32)), .val (.int (own_hi q1)), .val (.int (own_lo q1)), .val (.int (own_hi q2)), .val (.int (own_lo q2)), .val (.int (own_hi q3)), .val (.int (own_lo q3)), .val (.ref b67), .val (.ref b71), .unset, .unset, .unset] [])) _
          refine XS.iload X71.here hx rfl (hb hby at_82) rfl ?_
          show Steps p.tables e below (T71.setTop (mkF m 84 #[.val (.int p0), .val (.long q1), .second, .val (.long q2), .second, .val (.long q3), .second, .val (.int (1 : Int32)), .val (.int (own_hi q1)), .val (.int (own_lo q1)), .val (.int (own_hi q2)), .val (.int (own_lo q2)), .val (.int (own_hi q3)), .val (.int (own_lo q3)), .val (.ref b67), .val (.ref b71), .unset, .unset, .unset] [(.int (1 : Int32))])) _
          refine XS.iconst X71.here hx rfl (hb hby at_84) ?_
          show Steps p.tables e below (T71.setTop (mkF m 85 #[.val (.int p0), .val (.long q1), .second, .val (.long q2), .second, .val (.long q3), .second, .val (.int (1 : Int32)), .val (.int (own_hi q1)), .val (.int (own_lo q1)), .val (.int (own_hi q2)), .val (.int (own_lo q2)), .val (.int (own_hi q3)), .val (.int (own_lo q3)), .val (.ref b67), .val (.ref b71), .unset, .unset, .unset] [(.int (2 : Int32)), (.int (1 : Int32))])) _
          refine XS.icmpYes X71.here hx rfl (pc0 := 85) (pc' := 95) rfl (hb hby at_85) rfl (tlt (by decide : (1 : Int32) < (2 : Int32))).1 (by decide) (by decide) ?_
          show Steps p.tables e below (T71.setTop (mkF m 95 #[.val (.int p0), .val (.long q1), .second, .val (.long q2), .second, .val (.long q3), .second, .val (.int (1 : Int32)), .val (.int (own_hi q1)), .val (.int (own_lo q1)), .val (.int (own_hi q2)), .val (.int (own_lo q2)), .val (.int (own_hi q3)), .val (.int (own_lo q3)), .val (.ref b67), .val (.ref b71), .unset, .unset, .unset] [])) _
          refine XS.iload X71.here hx rfl (hb hby at_95) rfl ?_
          show Steps p.tables e below (T71.setTop (mkF m 97 #[.val (.int p0), .val (.long q1), .second, .val (.long q2), .second, .val (.long q3), .second, .val (.int (1 : Int32)), .val (.int (own_hi q1)), .val (.int (own_lo q1)), .val (.int (own_hi q2)), .val (.int (own_lo q2)), .val (.int (own_hi q3)), .val (.int (own_lo q3)), .val (.ref b67), .val (.ref b71), .unset, .unset, .unset] [(.int (1 : Int32))])) _
          refine XS.iconst X71.here hx rfl (hb hby at_97) ?_
          show Steps p.tables e below (T71.setTop (mkF m 98 #[.val (.int p0), .val (.long q1), .second, .val (.long q2), .second, .val (.long q3), .second, .val (.int (1 : Int32)), .val (.int (own_hi q1)), .val (.int (own_lo q1)), .val (.int (own_hi q2)), .val (.int (own_lo q2)), .val (.int (own_hi q3)), .val (.int (own_lo q3)), .val (.ref b67), .val (.ref b71), .unset, .unset, .unset] [(.int (3 : Int32)), (.int (1 : Int32))])) _
          refine XS.icmpYes X71.here hx rfl (pc0 := 98) (pc' := 108) rfl (hb hby at_98) rfl (tlt (by decide : (1 : Int32) < (3 : Int32))).1 (by decide) (by decide) ?_
          show Steps p.tables e below (T71.setTop (mkF m 108 #[.val (.int p0), .val (.long q1), .second, .val (.long q2), .second, .val (.long q3), .second, .val (.int (1 : Int32)), .val (.int (own_hi q1)), .val (.int (own_lo q1)), .val (.int (own_hi q2)), .val (.int (own_lo q2)), .val (.int (own_hi q3)), .val (.int (own_lo q3)), .val (.ref b67), .val (.ref b71), .unset, .unset, .unset] [])) _
          refine XS.iconst X71.here hx rfl (hb hby at_108) ?_
          show Steps p.tables e below (T71.setTop (mkF m 109 #[.val (.int p0), .val (.long q1), .second, .val (.long q2), .second, .val (.long q3), .second, .val (.int (1 : Int32)), .val (.int (own_hi q1)), .val (.int (own_lo q1)), .val (.int (own_hi q2)), .val (.int (own_lo q2)), .val (.int (own_hi q3)), .val (.int (own_lo q3)), .val (.ref b67), .val (.ref b71), .unset, .unset, .unset] [(.int (1 : Int32))])) _
          refine XS.goto X71.here hx rfl (pc0 := 109) (pc' := 113) rfl (hb hby at_109) (by decide) (by decide) ?_
          exact kt
        rw [show (own_nw [((own_hi q1), (own_lo q1))]) = (1 : Int32) from by simp only [own_nw, c75, if_true, if_false]] at kt
        exact pre78 _ kt
    have pre79 : ∀ t, Steps p.tables e below (T71.setTop (mkF m 115 #[.val (.int p0), .val (.long q1), .second, .val (.long q2), .second, .val (.long q3), .second, .val (.int (1 : Int32)), .val (.int (own_hi q1)), .val (.int (own_lo q1)), .val (.int (own_hi q2)), .val (.int (own_lo q2)), .val (.int (own_hi q3)), .val (.int (own_lo q3)), .val (.ref b67), .val (.ref b71), .val (.int (own_nw [((own_hi q1), (own_lo q1))])), .unset, .unset] [])) t → Steps p.tables e below (s₁.setTop (entryFrame m #[(.int p0), (.long q1), (.long q2), (.long q3)] maxLocals)) t := fun t kt => by
      refine pre74 _ ?_
      show Steps p.tables e below (T71.setTop (mkF m 113 #[.val (.int p0), .val (.long q1), .second, .val (.long q2), .second, .val (.long q3), .second, .val (.int (1 : Int32)), .val (.int (own_hi q1)), .val (.int (own_lo q1)), .val (.int (own_hi q2)), .val (.int (own_lo q2)), .val (.int (own_hi q3)), .val (.int (own_lo q3)), .val (.ref b67), .val (.ref b71), .unset, .unset, .unset] [(.int (own_nw [((own_hi q1), (own_lo q1))]))])) _
      refine XS.istore X71.here hx rfl (hb hby at_113) rfl (l' := #[.val (.int p0), .val (.long q1), .second, .val (.long q2), .second, .val (.long q3), .second, .val (.int (1 : Int32)), .val (.int (own_hi q1)), .val (.int (own_lo q1)), .val (.int (own_hi q2)), .val (.int (own_lo q2)), .val (.int (own_hi q3)), .val (.int (own_lo q3)), .val (.ref b67), .val (.ref b71), .val (.int (own_nw [((own_hi q1), (own_lo q1))])), .unset, .unset]) rfl ?_
      exact kt
    have pre80 : ∀ t, Steps p.tables e below (T71.setTop (mkF m 159 #[.val (.int p0), .val (.long q1), .second, .val (.long q2), .second, .val (.long q3), .second, .val (.int (1 : Int32)), .val (.int (own_hi q1)), .val (.int (own_lo q1)), .val (.int (own_hi q2)), .val (.int (own_lo q2)), .val (.int (own_hi q3)), .val (.int (own_lo q3)), .val (.ref b67), .val (.ref b71), .val (.int (own_nw [((own_hi q1), (own_lo q1))])), .unset, .unset] [(.int (own_bt [((own_hi q1), (own_lo q1))]))])) t → Steps p.tables e below (s₁.setTop (entryFrame m #[(.int p0), (.long q1), (.long q2), (.long q3)] maxLocals)) t := fun t kt => by
      have pre82 : ∀ t, Steps p.tables e below (T71.setTop (mkF m 125 #[.val (.int p0), .val (.long q1), .second, .val (.long q2), .second, .val (.long q3), .second, .val (.int (1 : Int32)), .val (.int (own_hi q1)), .val (.int (own_lo q1)), .val (.int (own_hi q2)), .val (.int (own_lo q2)), .val (.int (own_hi q3)), .val (.int (own_lo q3)), .val (.ref b67), .val (.ref b71), .val (.int (own_nw [((own_hi q1), (own_lo q1))])), .unset, .unset] [(.int (own_lo q1)), (.int (own_hi q1))])) t → Steps p.tables e below (s₁.setTop (entryFrame m #[(.int p0), (.long q1), (.long q2), (.long q3)] maxLocals)) t := fun t kt => by
        refine pre79 _ ?_
        show Steps p.tables e below (T71.setTop (mkF m 115 #[.val (.int p0), .val (.long q1), .second, .val (.long q2), .second, .val (.long q3), .second, .val (.int (1 : Int32)), .val (.int (own_hi q1)), .val (.int (own_lo q1)), .val (.int (own_hi q2)), .val (.int (own_lo q2)), .val (.int (own_hi q3)), .val (.int (own_lo q3)), .val (.ref b67), .val (.ref b71), .val (.int (own_nw [((own_hi q1), (own_lo q1))])), .unset, .unset] [])) _
        refine XS.iload X71.here hx rfl (hb hby at_115) rfl ?_
        show Steps p.tables e below (T71.setTop (mkF m 117 #[.val (.int p0), .val (.long q1), .second, .val (.long q2), .second, .val (.long q3), .second, .val (.int (1 : Int32)), .val (.int (own_hi q1)), .val (.int (own_lo q1)), .val (.int (own_hi q2)), .val (.int (own_lo q2)), .val (.int (own_hi q3)), .val (.int (own_lo q3)), .val (.ref b67), .val (.ref b71), .val (.int (own_nw [((own_hi q1), (own_lo q1))])), .unset, .unset] [(.int (1 : Int32))])) _
        refine XS.iconst X71.here hx rfl (hb hby at_117) ?_
        show Steps p.tables e below (T71.setTop (mkF m 118 #[.val (.int p0), .val (.long q1), .second, .val (.long q2), .second, .val (.long q3), .second, .val (.int (1 : Int32)), .val (.int (own_hi q1)), .val (.int (own_lo q1)), .val (.int (own_hi q2)), .val (.int (own_lo q2)), .val (.int (own_hi q3)), .val (.int (own_lo q3)), .val (.ref b67), .val (.ref b71), .val (.int (own_nw [((own_hi q1), (own_lo q1))])), .unset, .unset] [(.int (1 : Int32)), (.int (1 : Int32))])) _
        refine XS.icmpNo X71.here hx rfl (hb hby at_118) rfl (flt (by decide : ¬ ((1 : Int32) < (1 : Int32)))).1 ?_
        show Steps p.tables e below (T71.setTop (mkF m 121 #[.val (.int p0), .val (.long q1), .second, .val (.long q2), .second, .val (.long q3), .second, .val (.int (1 : Int32)), .val (.int (own_hi q1)), .val (.int (own_lo q1)), .val (.int (own_hi q2)), .val (.int (own_lo q2)), .val (.int (own_hi q3)), .val (.int (own_lo q3)), .val (.ref b67), .val (.ref b71), .val (.int (own_nw [((own_hi q1), (own_lo q1))])), .unset, .unset] [])) _
        refine XS.iload X71.here hx rfl (hb hby at_121) rfl ?_
        show Steps p.tables e below (T71.setTop (mkF m 123 #[.val (.int p0), .val (.long q1), .second, .val (.long q2), .second, .val (.long q3), .second, .val (.int (1 : Int32)), .val (.int (own_hi q1)), .val (.int (own_lo q1)), .val (.int (own_hi q2)), .val (.int (own_lo q2)), .val (.int (own_hi q3)), .val (.int (own_lo q3)), .val (.ref b67), .val (.ref b71), .val (.int (own_nw [((own_hi q1), (own_lo q1))])), .unset, .unset] [(.int (own_hi q1))])) _
        refine XS.iload X71.here hx rfl (hb hby at_123) rfl ?_
        exact kt
      by_cases c81 : (own_hi q1) < (own_lo q1)
      · have pre83 : ∀ t, Steps p.tables e below (T71.setTop (mkF m 159 #[.val (.int p0), .val (.long q1), .second, .val (.long q2), .second, .val (.long q3), .second, .val (.int (1 : Int32)), .val (.int (own_hi q1)), .val (.int (own_lo q1)), .val (.int (own_hi q2)), .val (.int (own_lo q2)), .val (.int (own_hi q3)), .val (.int (own_lo q3)), .val (.ref b67), .val (.ref b71), .val (.int (own_nw [((own_hi q1), (own_lo q1))])), .unset, .unset] [(.int (1 : Int32))])) t → Steps p.tables e below (s₁.setTop (entryFrame m #[(.int p0), (.long q1), (.long q2), (.long q3)] maxLocals)) t := fun t kt => by
          refine pre82 _ ?_
          show Steps p.tables e below (T71.setTop (mkF m 125 #[.val (.int p0), .val (.long q1), .second, .val (.long q2), .second, .val (.long q3), .second, .val (.int (1 : Int32)), .val (.int (own_hi q1)), .val (.int (own_lo q1)), .val (.int (own_hi q2)), .val (.int (own_lo q2)), .val (.int (own_hi q3)), .val (.int (own_lo q3)), .val (.ref b67), .val (.ref b71), .val (.int (own_nw [((own_hi q1), (own_lo q1))])), .unset, .unset] [(.int (own_lo q1)), (.int (own_hi q1))])) _
          refine XS.icmpYes X71.here hx rfl (pc0 := 125) (pc' := 154) rfl (hb hby at_125) rfl (tlt (c81 : (own_hi q1) < (own_lo q1))).1 (by decide) (by decide) ?_
          show Steps p.tables e below (T71.setTop (mkF m 154 #[.val (.int p0), .val (.long q1), .second, .val (.long q2), .second, .val (.long q3), .second, .val (.int (1 : Int32)), .val (.int (own_hi q1)), .val (.int (own_lo q1)), .val (.int (own_hi q2)), .val (.int (own_lo q2)), .val (.int (own_hi q3)), .val (.int (own_lo q3)), .val (.ref b67), .val (.ref b71), .val (.int (own_nw [((own_hi q1), (own_lo q1))])), .unset, .unset] [])) _
          refine XS.iconst X71.here hx rfl (hb hby at_154) ?_
          show Steps p.tables e below (T71.setTop (mkF m 155 #[.val (.int p0), .val (.long q1), .second, .val (.long q2), .second, .val (.long q3), .second, .val (.int (1 : Int32)), .val (.int (own_hi q1)), .val (.int (own_lo q1)), .val (.int (own_hi q2)), .val (.int (own_lo q2)), .val (.int (own_hi q3)), .val (.int (own_lo q3)), .val (.ref b67), .val (.ref b71), .val (.int (own_nw [((own_hi q1), (own_lo q1))])), .unset, .unset] [(.int (1 : Int32))])) _
          refine XS.goto X71.here hx rfl (pc0 := 155) (pc' := 159) rfl (hb hby at_155) (by decide) (by decide) ?_
          exact kt
        rw [show (own_bt [((own_hi q1), (own_lo q1))]) = (1 : Int32) from by simp only [own_bt, c81, if_true, if_false]] at kt
        exact pre83 _ kt
      · have pre84 : ∀ t, Steps p.tables e below (T71.setTop (mkF m 159 #[.val (.int p0), .val (.long q1), .second, .val (.long q2), .second, .val (.long q3), .second, .val (.int (1 : Int32)), .val (.int (own_hi q1)), .val (.int (own_lo q1)), .val (.int (own_hi q2)), .val (.int (own_lo q2)), .val (.int (own_hi q3)), .val (.int (own_lo q3)), .val (.ref b67), .val (.ref b71), .val (.int (own_nw [((own_hi q1), (own_lo q1))])), .unset, .unset] [(.int (0 : Int32))])) t → Steps p.tables e below (s₁.setTop (entryFrame m #[(.int p0), (.long q1), (.long q2), (.long q3)] maxLocals)) t := fun t kt => by
          refine pre82 _ ?_
          show Steps p.tables e below (T71.setTop (mkF m 125 #[.val (.int p0), .val (.long q1), .second, .val (.long q2), .second, .val (.long q3), .second, .val (.int (1 : Int32)), .val (.int (own_hi q1)), .val (.int (own_lo q1)), .val (.int (own_hi q2)), .val (.int (own_lo q2)), .val (.int (own_hi q3)), .val (.int (own_lo q3)), .val (.ref b67), .val (.ref b71), .val (.int (own_nw [((own_hi q1), (own_lo q1))])), .unset, .unset] [(.int (own_lo q1)), (.int (own_hi q1))])) _
          refine XS.icmpNo X71.here hx rfl (hb hby at_125) rfl (flt (c81 : ¬ ((own_hi q1) < (own_lo q1)))).1 ?_
          show Steps p.tables e below (T71.setTop (mkF m 128 #[.val (.int p0), .val (.long q1), .second, .val (.long q2), .second, .val (.long q3), .second, .val (.int (1 : Int32)), .val (.int (own_hi q1)), .val (.int (own_lo q1)), .val (.int (own_hi q2)), .val (.int (own_lo q2)), .val (.int (own_hi q3)), .val (.int (own_lo q3)), .val (.ref b67), .val (.ref b71), .val (.int (own_nw [((own_hi q1), (own_lo q1))])), .unset, .unset] [])) _
          refine XS.iload X71.here hx rfl (hb hby at_128) rfl ?_
          show Steps p.tables e below (T71.setTop (mkF m 130 #[.val (.int p0), .val (.long q1), .second, .val (.long q2), .second, .val (.long q3), .second, .val (.int (1 : Int32)), .val (.int (own_hi q1)), .val (.int (own_lo q1)), .val (.int (own_hi q2)), .val (.int (own_lo q2)), .val (.int (own_hi q3)), .val (.int (own_lo q3)), .val (.ref b67), .val (.ref b71), .val (.int (own_nw [((own_hi q1), (own_lo q1))])), .unset, .unset] [(.int (1 : Int32))])) _
          refine XS.iconst X71.here hx rfl (hb hby at_130) ?_
          show Steps p.tables e below (T71.setTop (mkF m 131 #[.val (.int p0), .val (.long q1), .second, .val (.long q2), .second, .val (.long q3), .second, .val (.int (1 : Int32)), .val (.int (own_hi q1)), .val (.int (own_lo q1)), .val (.int (own_hi q2)), .val (.int (own_lo q2)), .val (.int (own_hi q3)), .val (.int (own_lo q3)), .val (.ref b67), .val (.ref b71), .val (.int (own_nw [((own_hi q1), (own_lo q1))])), .unset, .unset] [(.int (2 : Int32)), (.int (1 : Int32))])) _
          refine XS.icmpYes X71.here hx rfl (pc0 := 131) (pc' := 141) rfl (hb hby at_131) rfl (tlt (by decide : (1 : Int32) < (2 : Int32))).1 (by decide) (by decide) ?_
          show Steps p.tables e below (T71.setTop (mkF m 141 #[.val (.int p0), .val (.long q1), .second, .val (.long q2), .second, .val (.long q3), .second, .val (.int (1 : Int32)), .val (.int (own_hi q1)), .val (.int (own_lo q1)), .val (.int (own_hi q2)), .val (.int (own_lo q2)), .val (.int (own_hi q3)), .val (.int (own_lo q3)), .val (.ref b67), .val (.ref b71), .val (.int (own_nw [((own_hi q1), (own_lo q1))])), .unset, .unset] [])) _
          refine XS.iload X71.here hx rfl (hb hby at_141) rfl ?_
          show Steps p.tables e below (T71.setTop (mkF m 143 #[.val (.int p0), .val (.long q1), .second, .val (.long q2), .second, .val (.long q3), .second, .val (.int (1 : Int32)), .val (.int (own_hi q1)), .val (.int (own_lo q1)), .val (.int (own_hi q2)), .val (.int (own_lo q2)), .val (.int (own_hi q3)), .val (.int (own_lo q3)), .val (.ref b67), .val (.ref b71), .val (.int (own_nw [((own_hi q1), (own_lo q1))])), .unset, .unset] [(.int (1 : Int32))])) _
          refine XS.iconst X71.here hx rfl (hb hby at_143) ?_
          show Steps p.tables e below (T71.setTop (mkF m 144 #[.val (.int p0), .val (.long q1), .second, .val (.long q2), .second, .val (.long q3), .second, .val (.int (1 : Int32)), .val (.int (own_hi q1)), .val (.int (own_lo q1)), .val (.int (own_hi q2)), .val (.int (own_lo q2)), .val (.int (own_hi q3)), .val (.int (own_lo q3)), .val (.ref b67), .val (.ref b71), .val (.int (own_nw [((own_hi q1), (own_lo q1))])), .unset, .unset] [(.int (3 : Int32)), (.int (1 : Int32))])) _
          refine XS.icmpYes X71.here hx rfl (pc0 := 144) (pc' := 158) rfl (hb hby at_144) rfl (tlt (by decide : (1 : Int32) < (3 : Int32))).1 (by decide) (by decide) ?_
          show Steps p.tables e below (T71.setTop (mkF m 158 #[.val (.int p0), .val (.long q1), .second, .val (.long q2), .second, .val (.long q3), .second, .val (.int (1 : Int32)), .val (.int (own_hi q1)), .val (.int (own_lo q1)), .val (.int (own_hi q2)), .val (.int (own_lo q2)), .val (.int (own_hi q3)), .val (.int (own_lo q3)), .val (.ref b67), .val (.ref b71), .val (.int (own_nw [((own_hi q1), (own_lo q1))])), .unset, .unset] [])) _
          refine XS.iconst X71.here hx rfl (hb hby at_158) ?_
          exact kt
        rw [show (own_bt [((own_hi q1), (own_lo q1))]) = (0 : Int32) from by simp only [own_bt, c81, if_true, if_false]] at kt
        exact pre84 _ kt
    have pre85 : ∀ t, Steps p.tables e below (T71.setTop (mkF m 161 #[.val (.int p0), .val (.long q1), .second, .val (.long q2), .second, .val (.long q3), .second, .val (.int (1 : Int32)), .val (.int (own_hi q1)), .val (.int (own_lo q1)), .val (.int (own_hi q2)), .val (.int (own_lo q2)), .val (.int (own_hi q3)), .val (.int (own_lo q3)), .val (.ref b67), .val (.ref b71), .val (.int (own_nw [((own_hi q1), (own_lo q1))])), .val (.int (own_bt [((own_hi q1), (own_lo q1))])), .unset] [])) t → Steps p.tables e below (s₁.setTop (entryFrame m #[(.int p0), (.long q1), (.long q2), (.long q3)] maxLocals)) t := fun t kt => by
      refine pre80 _ ?_
      show Steps p.tables e below (T71.setTop (mkF m 159 #[.val (.int p0), .val (.long q1), .second, .val (.long q2), .second, .val (.long q3), .second, .val (.int (1 : Int32)), .val (.int (own_hi q1)), .val (.int (own_lo q1)), .val (.int (own_hi q2)), .val (.int (own_lo q2)), .val (.int (own_hi q3)), .val (.int (own_lo q3)), .val (.ref b67), .val (.ref b71), .val (.int (own_nw [((own_hi q1), (own_lo q1))])), .unset, .unset] [(.int (own_bt [((own_hi q1), (own_lo q1))]))])) _
      refine XS.istore X71.here hx rfl (hb hby at_159) rfl (l' := #[.val (.int p0), .val (.long q1), .second, .val (.long q2), .second, .val (.long q3), .second, .val (.int (1 : Int32)), .val (.int (own_hi q1)), .val (.int (own_lo q1)), .val (.int (own_hi q2)), .val (.int (own_lo q2)), .val (.int (own_hi q3)), .val (.int (own_lo q3)), .val (.ref b67), .val (.ref b71), .val (.int (own_nw [((own_hi q1), (own_lo q1))])), .val (.int (own_bt [((own_hi q1), (own_lo q1))])), .unset]) rfl ?_
      exact kt
    have pre86 : ∀ t, Steps p.tables e below (T71.setTop (mkF m 176 #[.val (.int p0), .val (.long q1), .second, .val (.long q2), .second, .val (.long q3), .second, .val (.int (1 : Int32)), .val (.int (own_hi q1)), .val (.int (own_lo q1)), .val (.int (own_hi q2)), .val (.int (own_lo q2)), .val (.int (own_hi q3)), .val (.int (own_lo q3)), .val (.ref b67), .val (.ref b71), .val (.int (own_nw [((own_hi q1), (own_lo q1))])), .val (.int (own_bt [((own_hi q1), (own_lo q1))])), .unset] [(.int (own_ex (own_nw [((own_hi q1), (own_lo q1))]) (own_bt [((own_hi q1), (own_lo q1))])))])) t → Steps p.tables e below (s₁.setTop (entryFrame m #[(.int p0), (.long q1), (.long q2), (.long q3)] maxLocals)) t := fun t kt => by
      have pre88 : ∀ t, Steps p.tables e below (T71.setTop (mkF m 163 #[.val (.int p0), .val (.long q1), .second, .val (.long q2), .second, .val (.long q3), .second, .val (.int (1 : Int32)), .val (.int (own_hi q1)), .val (.int (own_lo q1)), .val (.int (own_hi q2)), .val (.int (own_lo q2)), .val (.int (own_hi q3)), .val (.int (own_lo q3)), .val (.ref b67), .val (.ref b71), .val (.int (own_nw [((own_hi q1), (own_lo q1))])), .val (.int (own_bt [((own_hi q1), (own_lo q1))])), .unset] [(.int (own_nw [((own_hi q1), (own_lo q1))]))])) t → Steps p.tables e below (s₁.setTop (entryFrame m #[(.int p0), (.long q1), (.long q2), (.long q3)] maxLocals)) t := fun t kt => by
        refine pre85 _ ?_
        show Steps p.tables e below (T71.setTop (mkF m 161 #[.val (.int p0), .val (.long q1), .second, .val (.long q2), .second, .val (.long q3), .second, .val (.int (1 : Int32)), .val (.int (own_hi q1)), .val (.int (own_lo q1)), .val (.int (own_hi q2)), .val (.int (own_lo q2)), .val (.int (own_hi q3)), .val (.int (own_lo q3)), .val (.ref b67), .val (.ref b71), .val (.int (own_nw [((own_hi q1), (own_lo q1))])), .val (.int (own_bt [((own_hi q1), (own_lo q1))])), .unset] [])) _
        refine XS.iload X71.here hx rfl (hb hby at_161) rfl ?_
        exact kt
      by_cases c87 : (own_nw [((own_hi q1), (own_lo q1))]) = (0 : Int32)
      · have pre89 : ∀ t, Steps p.tables e below (T71.setTop (mkF m 176 #[.val (.int p0), .val (.long q1), .second, .val (.long q2), .second, .val (.long q3), .second, .val (.int (1 : Int32)), .val (.int (own_hi q1)), .val (.int (own_lo q1)), .val (.int (own_hi q2)), .val (.int (own_lo q2)), .val (.int (own_hi q3)), .val (.int (own_lo q3)), .val (.ref b67), .val (.ref b71), .val (.int (own_nw [((own_hi q1), (own_lo q1))])), .val (.int (own_bt [((own_hi q1), (own_lo q1))])), .unset] [(.int (0 : Int32))])) t → Steps p.tables e below (s₁.setTop (entryFrame m #[(.int p0), (.long q1), (.long q2), (.long q3)] maxLocals)) t := fun t kt => by
          refine pre88 _ ?_
          show Steps p.tables e below (T71.setTop (mkF m 163 #[.val (.int p0), .val (.long q1), .second, .val (.long q2), .second, .val (.long q3), .second, .val (.int (1 : Int32)), .val (.int (own_hi q1)), .val (.int (own_lo q1)), .val (.int (own_hi q2)), .val (.int (own_lo q2)), .val (.int (own_hi q3)), .val (.int (own_lo q3)), .val (.ref b67), .val (.ref b71), .val (.int (own_nw [((own_hi q1), (own_lo q1))])), .val (.int (own_bt [((own_hi q1), (own_lo q1))])), .unset] [(.int (own_nw [((own_hi q1), (own_lo q1))]))])) _
          refine XS.ifYes X71.here hx rfl (pc0 := 163) (pc' := 175) rfl (hb hby at_163) rfl ((if0 _ _).trans (teq (c87 : (own_nw [((own_hi q1), (own_lo q1))]) = (0 : Int32))).1) (by decide) (by decide) ?_
          show Steps p.tables e below (T71.setTop (mkF m 175 #[.val (.int p0), .val (.long q1), .second, .val (.long q2), .second, .val (.long q3), .second, .val (.int (1 : Int32)), .val (.int (own_hi q1)), .val (.int (own_lo q1)), .val (.int (own_hi q2)), .val (.int (own_lo q2)), .val (.int (own_hi q3)), .val (.int (own_lo q3)), .val (.ref b67), .val (.ref b71), .val (.int (own_nw [((own_hi q1), (own_lo q1))])), .val (.int (own_bt [((own_hi q1), (own_lo q1))])), .unset] [])) _
          refine XS.iconst X71.here hx rfl (hb hby at_175) ?_
          exact kt
        rw [show (own_ex (own_nw [((own_hi q1), (own_lo q1))]) (own_bt [((own_hi q1), (own_lo q1))])) = (0 : Int32) from by simp only [own_ex, c87, if_true, if_false]] at kt
        exact pre89 _ kt
      · have pre91 : ∀ t, Steps p.tables e below (T71.setTop (mkF m 168 #[.val (.int p0), .val (.long q1), .second, .val (.long q2), .second, .val (.long q3), .second, .val (.int (1 : Int32)), .val (.int (own_hi q1)), .val (.int (own_lo q1)), .val (.int (own_hi q2)), .val (.int (own_lo q2)), .val (.int (own_hi q3)), .val (.int (own_lo q3)), .val (.ref b67), .val (.ref b71), .val (.int (own_nw [((own_hi q1), (own_lo q1))])), .val (.int (own_bt [((own_hi q1), (own_lo q1))])), .unset] [(.int (own_bt [((own_hi q1), (own_lo q1))]))])) t → Steps p.tables e below (s₁.setTop (entryFrame m #[(.int p0), (.long q1), (.long q2), (.long q3)] maxLocals)) t := fun t kt => by
          refine pre88 _ ?_
          show Steps p.tables e below (T71.setTop (mkF m 163 #[.val (.int p0), .val (.long q1), .second, .val (.long q2), .second, .val (.long q3), .second, .val (.int (1 : Int32)), .val (.int (own_hi q1)), .val (.int (own_lo q1)), .val (.int (own_hi q2)), .val (.int (own_lo q2)), .val (.int (own_hi q3)), .val (.int (own_lo q3)), .val (.ref b67), .val (.ref b71), .val (.int (own_nw [((own_hi q1), (own_lo q1))])), .val (.int (own_bt [((own_hi q1), (own_lo q1))])), .unset] [(.int (own_nw [((own_hi q1), (own_lo q1))]))])) _
          refine XS.ifNo X71.here hx rfl (hb hby at_163) rfl ((if0 _ _).trans (feq (c87 : ¬ ((own_nw [((own_hi q1), (own_lo q1))]) = (0 : Int32)))).1) ?_
          show Steps p.tables e below (T71.setTop (mkF m 166 #[.val (.int p0), .val (.long q1), .second, .val (.long q2), .second, .val (.long q3), .second, .val (.int (1 : Int32)), .val (.int (own_hi q1)), .val (.int (own_lo q1)), .val (.int (own_hi q2)), .val (.int (own_lo q2)), .val (.int (own_hi q3)), .val (.int (own_lo q3)), .val (.ref b67), .val (.ref b71), .val (.int (own_nw [((own_hi q1), (own_lo q1))])), .val (.int (own_bt [((own_hi q1), (own_lo q1))])), .unset] [])) _
          refine XS.iload X71.here hx rfl (hb hby at_166) rfl ?_
          exact kt
        by_cases c90 : (own_bt [((own_hi q1), (own_lo q1))]) = (0 : Int32)
        · have pre92 : ∀ t, Steps p.tables e below (T71.setTop (mkF m 176 #[.val (.int p0), .val (.long q1), .second, .val (.long q2), .second, .val (.long q3), .second, .val (.int (1 : Int32)), .val (.int (own_hi q1)), .val (.int (own_lo q1)), .val (.int (own_hi q2)), .val (.int (own_lo q2)), .val (.int (own_hi q3)), .val (.int (own_lo q3)), .val (.ref b67), .val (.ref b71), .val (.int (own_nw [((own_hi q1), (own_lo q1))])), .val (.int (own_bt [((own_hi q1), (own_lo q1))])), .unset] [(.int (0 : Int32))])) t → Steps p.tables e below (s₁.setTop (entryFrame m #[(.int p0), (.long q1), (.long q2), (.long q3)] maxLocals)) t := fun t kt => by
            refine pre91 _ ?_
            show Steps p.tables e below (T71.setTop (mkF m 168 #[.val (.int p0), .val (.long q1), .second, .val (.long q2), .second, .val (.long q3), .second, .val (.int (1 : Int32)), .val (.int (own_hi q1)), .val (.int (own_lo q1)), .val (.int (own_hi q2)), .val (.int (own_lo q2)), .val (.int (own_hi q3)), .val (.int (own_lo q3)), .val (.ref b67), .val (.ref b71), .val (.int (own_nw [((own_hi q1), (own_lo q1))])), .val (.int (own_bt [((own_hi q1), (own_lo q1))])), .unset] [(.int (own_bt [((own_hi q1), (own_lo q1))]))])) _
            refine XS.ifYes X71.here hx rfl (pc0 := 168) (pc' := 175) rfl (hb hby at_168) rfl ((if0 _ _).trans (teq (c90 : (own_bt [((own_hi q1), (own_lo q1))]) = (0 : Int32))).1) (by decide) (by decide) ?_
            show Steps p.tables e below (T71.setTop (mkF m 175 #[.val (.int p0), .val (.long q1), .second, .val (.long q2), .second, .val (.long q3), .second, .val (.int (1 : Int32)), .val (.int (own_hi q1)), .val (.int (own_lo q1)), .val (.int (own_hi q2)), .val (.int (own_lo q2)), .val (.int (own_hi q3)), .val (.int (own_lo q3)), .val (.ref b67), .val (.ref b71), .val (.int (own_nw [((own_hi q1), (own_lo q1))])), .val (.int (own_bt [((own_hi q1), (own_lo q1))])), .unset] [])) _
            refine XS.iconst X71.here hx rfl (hb hby at_175) ?_
            exact kt
          rw [show (own_ex (own_nw [((own_hi q1), (own_lo q1))]) (own_bt [((own_hi q1), (own_lo q1))])) = (0 : Int32) from by simp only [own_ex, c87, c90, if_true, if_false]] at kt
          exact pre92 _ kt
        · have pre93 : ∀ t, Steps p.tables e below (T71.setTop (mkF m 176 #[.val (.int p0), .val (.long q1), .second, .val (.long q2), .second, .val (.long q3), .second, .val (.int (1 : Int32)), .val (.int (own_hi q1)), .val (.int (own_lo q1)), .val (.int (own_hi q2)), .val (.int (own_lo q2)), .val (.int (own_hi q3)), .val (.int (own_lo q3)), .val (.ref b67), .val (.ref b71), .val (.int (own_nw [((own_hi q1), (own_lo q1))])), .val (.int (own_bt [((own_hi q1), (own_lo q1))])), .unset] [(.int (1 : Int32))])) t → Steps p.tables e below (s₁.setTop (entryFrame m #[(.int p0), (.long q1), (.long q2), (.long q3)] maxLocals)) t := fun t kt => by
            refine pre91 _ ?_
            show Steps p.tables e below (T71.setTop (mkF m 168 #[.val (.int p0), .val (.long q1), .second, .val (.long q2), .second, .val (.long q3), .second, .val (.int (1 : Int32)), .val (.int (own_hi q1)), .val (.int (own_lo q1)), .val (.int (own_hi q2)), .val (.int (own_lo q2)), .val (.int (own_hi q3)), .val (.int (own_lo q3)), .val (.ref b67), .val (.ref b71), .val (.int (own_nw [((own_hi q1), (own_lo q1))])), .val (.int (own_bt [((own_hi q1), (own_lo q1))])), .unset] [(.int (own_bt [((own_hi q1), (own_lo q1))]))])) _
            refine XS.ifNo X71.here hx rfl (hb hby at_168) rfl ((if0 _ _).trans (feq (c90 : ¬ ((own_bt [((own_hi q1), (own_lo q1))]) = (0 : Int32)))).1) ?_
            show Steps p.tables e below (T71.setTop (mkF m 171 #[.val (.int p0), .val (.long q1), .second, .val (.long q2), .second, .val (.long q3), .second, .val (.int (1 : Int32)), .val (.int (own_hi q1)), .val (.int (own_lo q1)), .val (.int (own_hi q2)), .val (.int (own_lo q2)), .val (.int (own_hi q3)), .val (.int (own_lo q3)), .val (.ref b67), .val (.ref b71), .val (.int (own_nw [((own_hi q1), (own_lo q1))])), .val (.int (own_bt [((own_hi q1), (own_lo q1))])), .unset] [])) _
            refine XS.iconst X71.here hx rfl (hb hby at_171) ?_
            show Steps p.tables e below (T71.setTop (mkF m 172 #[.val (.int p0), .val (.long q1), .second, .val (.long q2), .second, .val (.long q3), .second, .val (.int (1 : Int32)), .val (.int (own_hi q1)), .val (.int (own_lo q1)), .val (.int (own_hi q2)), .val (.int (own_lo q2)), .val (.int (own_hi q3)), .val (.int (own_lo q3)), .val (.ref b67), .val (.ref b71), .val (.int (own_nw [((own_hi q1), (own_lo q1))])), .val (.int (own_bt [((own_hi q1), (own_lo q1))])), .unset] [(.int (1 : Int32))])) _
            refine XS.goto X71.here hx rfl (pc0 := 172) (pc' := 176) rfl (hb hby at_172) (by decide) (by decide) ?_
            exact kt
          rw [show (own_ex (own_nw [((own_hi q1), (own_lo q1))]) (own_bt [((own_hi q1), (own_lo q1))])) = (1 : Int32) from by simp only [own_ex, c87, c90, if_true, if_false]] at kt
          exact pre93 _ kt
    have f94 := (Va67.keep K71 nin0)
    have z95 : n0 ≤ T71.heap.size := (Nat.le_trans z69 K71.1)
    have pre96 : ∀ t, Steps p.tables e below (T71.setTop (mkF m 182 #[.val (.int p0), .val (.long q1), .second, .val (.long q2), .second, .val (.long q3), .second, .val (.int (1 : Int32)), .val (.int (own_hi q1)), .val (.int (own_lo q1)), .val (.int (own_hi q2)), .val (.int (own_lo q2)), .val (.int (own_hi q3)), .val (.int (own_lo q3)), .val (.ref b67), .val (.ref b71), .val (.int (own_nw [((own_hi q1), (own_lo q1))])), .val (.int (own_bt [((own_hi q1), (own_lo q1))])), .val (.int (own_ex (own_nw [((own_hi q1), (own_lo q1))]) (own_bt [((own_hi q1), (own_lo q1))])))] [(.ref b71), (.ref b67)])) t → Steps p.tables e below (s₁.setTop (entryFrame m #[(.int p0), (.long q1), (.long q2), (.long q3)] maxLocals)) t := fun t kt => by
      refine pre86 _ ?_
      show Steps p.tables e below (T71.setTop (mkF m 176 #[.val (.int p0), .val (.long q1), .second, .val (.long q2), .second, .val (.long q3), .second, .val (.int (1 : Int32)), .val (.int (own_hi q1)), .val (.int (own_lo q1)), .val (.int (own_hi q2)), .val (.int (own_lo q2)), .val (.int (own_hi q3)), .val (.int (own_lo q3)), .val (.ref b67), .val (.ref b71), .val (.int (own_nw [((own_hi q1), (own_lo q1))])), .val (.int (own_bt [((own_hi q1), (own_lo q1))])), .unset] [(.int (own_ex (own_nw [((own_hi q1), (own_lo q1))]) (own_bt [((own_hi q1), (own_lo q1))])))])) _
      refine XS.istore X71.here hx rfl (hb hby at_176) rfl (l' := #[.val (.int p0), .val (.long q1), .second, .val (.long q2), .second, .val (.long q3), .second, .val (.int (1 : Int32)), .val (.int (own_hi q1)), .val (.int (own_lo q1)), .val (.int (own_hi q2)), .val (.int (own_lo q2)), .val (.int (own_hi q3)), .val (.int (own_lo q3)), .val (.ref b67), .val (.ref b71), .val (.int (own_nw [((own_hi q1), (own_lo q1))])), .val (.int (own_bt [((own_hi q1), (own_lo q1))])), .val (.int (own_ex (own_nw [((own_hi q1), (own_lo q1))]) (own_bt [((own_hi q1), (own_lo q1))])))]) rfl ?_
      show Steps p.tables e below (T71.setTop (mkF m 178 #[.val (.int p0), .val (.long q1), .second, .val (.long q2), .second, .val (.long q3), .second, .val (.int (1 : Int32)), .val (.int (own_hi q1)), .val (.int (own_lo q1)), .val (.int (own_hi q2)), .val (.int (own_lo q2)), .val (.int (own_hi q3)), .val (.int (own_lo q3)), .val (.ref b67), .val (.ref b71), .val (.int (own_nw [((own_hi q1), (own_lo q1))])), .val (.int (own_bt [((own_hi q1), (own_lo q1))])), .val (.int (own_ex (own_nw [((own_hi q1), (own_lo q1))]) (own_bt [((own_hi q1), (own_lo q1))])))] [])) _
      refine XS.aload X71.here hx rfl (hb hby at_178) rfl rfl ?_
      show Steps p.tables e below (T71.setTop (mkF m 180 #[.val (.int p0), .val (.long q1), .second, .val (.long q2), .second, .val (.long q3), .second, .val (.int (1 : Int32)), .val (.int (own_hi q1)), .val (.int (own_lo q1)), .val (.int (own_hi q2)), .val (.int (own_lo q2)), .val (.int (own_hi q3)), .val (.int (own_lo q3)), .val (.ref b67), .val (.ref b71), .val (.int (own_nw [((own_hi q1), (own_lo q1))])), .val (.int (own_bt [((own_hi q1), (own_lo q1))])), .val (.int (own_ex (own_nw [((own_hi q1), (own_lo q1))]) (own_bt [((own_hi q1), (own_lo q1))])))] [(.ref b67)])) _
      refine XS.aload X71.here hx rfl (hb hby at_180) rfl rfl ?_
      exact kt
    obtain ⟨_, _, ⟨T97, L97, kc97, nc97⟩, -, X97, ⟨Lc97, hQ97, l97, y97, z97⟩, st97⟩ := Jvm.LawKit.callS X71 hx (y := (⟨"com/example/tesserae/tesserae/core/Vectors", "dominates", "([D[D)Z"⟩ : MethodName)) hown (mvT hZ (hw _ (List.mem_of_getElem? (i := 11) rfl))) (mvT hZ (hw _ (List.mem_of_getElem? (i := 12) rfl))) (mvT hZ (hw _ (List.mem_of_getElem? (i := 13) rfl))) (mvT hZ (hw _ (List.mem_of_getElem? (i := 14) rfl))) (by decide) (backOf (W := 0) (rm4m1 l Z a0 hw [] b67 b71 kk67 kk71 (own_hi q1) (own_lo q1) T71.heap n0 z95 f94 Va71) hZ (hw _ (List.mem_of_getElem? (i := 14) rfl)) (hw _ (List.mem_of_getElem? (i := 13) rfl)) (by decide) (by decide)) (g := (mkF m 182 #[.val (.int p0), .val (.long q1), .second, .val (.long q2), .second, .val (.long q3), .second, .val (.int (1 : Int32)), .val (.int (own_hi q1)), .val (.int (own_lo q1)), .val (.int (own_hi q2)), .val (.int (own_lo q2)), .val (.int (own_hi q3)), .val (.int (own_lo q3)), .val (.ref b67), .val (.ref b71), .val (.int (own_nw [((own_hi q1), (own_lo q1))])), .val (.int (own_bt [((own_hi q1), (own_lo q1))])), .val (.int (own_ex (own_nw [((own_hi q1), (own_lo q1))]) (own_bt [((own_hi q1), (own_lo q1))])))] [(.ref b71), (.ref b67)])) rfl (by rw [hml]; rfl) (argsL := [(.ref b67), (.ref b71)]) (rest := []) (lenOf pd_2 rfl) rfl (by show 2 * 0 + _ ≤ _; exact Nat.le_of_eq rfl) (hb hby at_182) (fun _ _ => ⟨rfl, rfl, (by decide : 2 + 0 ≤ _), (by decide : 2 + 0 ≤ _)⟩)
    dsimp only [Pt.U, Pt.locs, Pt.cells, Pt.slots] at X97 l97 y97 z97 st97 hQ97
    subst l97 y97 z97
    obtain ⟨rfl, N97q, he97⟩ := hQ97
    have N97 := Fr.app N71 N97q
    have pre98 : ∀ t, Steps p.tables e below (T97.setTop (mkF m 185 #[.val (.int p0), .val (.long q1), .second, .val (.long q2), .second, .val (.long q3), .second, .val (.int (1 : Int32)), .val (.int (own_hi q1)), .val (.int (own_lo q1)), .val (.int (own_hi q2)), .val (.int (own_lo q2)), .val (.int (own_hi q3)), .val (.int (own_lo q3)), .val (.ref b67), .val (.ref b71), .val (.int (own_nw [((own_hi q1), (own_lo q1))])), .val (.int (own_bt [((own_hi q1), (own_lo q1))])), .val (.int (own_ex (own_nw [((own_hi q1), (own_lo q1))]) (own_bt [((own_hi q1), (own_lo q1))])))] [(.int (own_dom [((own_hi q1), (own_lo q1))] (0 : Int32)))])) t → Steps p.tables e below (s₁.setTop (entryFrame m #[(.int p0), (.long q1), (.long q2), (.long q3)] maxLocals)) t := fun t kt => pre96 _ (st97 _ kt)
    have pre99 : ∀ t, Steps p.tables e below (T97.setTop (mkF m 195 #[.val (.int p0), .val (.long q1), .second, .val (.long q2), .second, .val (.long q3), .second, .val (.int (1 : Int32)), .val (.int (own_hi q1)), .val (.int (own_lo q1)), .val (.int (own_hi q2)), .val (.int (own_lo q2)), .val (.int (own_hi q3)), .val (.int (own_lo q3)), .val (.ref b67), .val (.ref b71), .val (.int (own_nw [((own_hi q1), (own_lo q1))])), .val (.int (own_bt [((own_hi q1), (own_lo q1))])), .val (.int (own_ex (own_nw [((own_hi q1), (own_lo q1))]) (own_bt [((own_hi q1), (own_lo q1))])))] [(.int (1 : Int32))])) t → Steps p.tables e below (s₁.setTop (entryFrame m #[(.int p0), (.long q1), (.long q2), (.long q3)] maxLocals)) t := fun t kt => by
      refine pre98 _ ?_
      show Steps p.tables e below (T97.setTop (mkF m 185 #[.val (.int p0), .val (.long q1), .second, .val (.long q2), .second, .val (.long q3), .second, .val (.int (1 : Int32)), .val (.int (own_hi q1)), .val (.int (own_lo q1)), .val (.int (own_hi q2)), .val (.int (own_lo q2)), .val (.int (own_hi q3)), .val (.int (own_lo q3)), .val (.ref b67), .val (.ref b71), .val (.int (own_nw [((own_hi q1), (own_lo q1))])), .val (.int (own_bt [((own_hi q1), (own_lo q1))])), .val (.int (own_ex (own_nw [((own_hi q1), (own_lo q1))]) (own_bt [((own_hi q1), (own_lo q1))])))] [(.int (own_dom [((own_hi q1), (own_lo q1))] (0 : Int32)))])) _
      refine XS.iload X97.here hx rfl (hb hby at_185) rfl ?_
      show Steps p.tables e below (T97.setTop (mkF m 187 #[.val (.int p0), .val (.long q1), .second, .val (.long q2), .second, .val (.long q3), .second, .val (.int (1 : Int32)), .val (.int (own_hi q1)), .val (.int (own_lo q1)), .val (.int (own_hi q2)), .val (.int (own_lo q2)), .val (.int (own_hi q3)), .val (.int (own_lo q3)), .val (.ref b67), .val (.ref b71), .val (.int (own_nw [((own_hi q1), (own_lo q1))])), .val (.int (own_bt [((own_hi q1), (own_lo q1))])), .val (.int (own_ex (own_nw [((own_hi q1), (own_lo q1))]) (own_bt [((own_hi q1), (own_lo q1))])))] [(.int (own_ex (own_nw [((own_hi q1), (own_lo q1))]) (own_bt [((own_hi q1), (own_lo q1))]))), (.int (own_dom [((own_hi q1), (own_lo q1))] (0 : Int32)))])) _
      refine XS.icmpNo X97.here hx rfl (hb hby at_187) rfl (teq (own_law1 (own_hi q1) (own_lo q1) : (own_dom [((own_hi q1), (own_lo q1))] (0 : Int32)) = (own_ex (own_nw [((own_hi q1), (own_lo q1))]) (own_bt [((own_hi q1), (own_lo q1))])))).2 ?_
      show Steps p.tables e below (T97.setTop (mkF m 190 #[.val (.int p0), .val (.long q1), .second, .val (.long q2), .second, .val (.long q3), .second, .val (.int (1 : Int32)), .val (.int (own_hi q1)), .val (.int (own_lo q1)), .val (.int (own_hi q2)), .val (.int (own_lo q2)), .val (.int (own_hi q3)), .val (.int (own_lo q3)), .val (.ref b67), .val (.ref b71), .val (.int (own_nw [((own_hi q1), (own_lo q1))])), .val (.int (own_bt [((own_hi q1), (own_lo q1))])), .val (.int (own_ex (own_nw [((own_hi q1), (own_lo q1))]) (own_bt [((own_hi q1), (own_lo q1))])))] [])) _
      refine XS.iconst X97.here hx rfl (hb hby at_190) ?_
      show Steps p.tables e below (T97.setTop (mkF m 191 #[.val (.int p0), .val (.long q1), .second, .val (.long q2), .second, .val (.long q3), .second, .val (.int (1 : Int32)), .val (.int (own_hi q1)), .val (.int (own_lo q1)), .val (.int (own_hi q2)), .val (.int (own_lo q2)), .val (.int (own_hi q3)), .val (.int (own_lo q3)), .val (.ref b67), .val (.ref b71), .val (.int (own_nw [((own_hi q1), (own_lo q1))])), .val (.int (own_bt [((own_hi q1), (own_lo q1))])), .val (.int (own_ex (own_nw [((own_hi q1), (own_lo q1))]) (own_bt [((own_hi q1), (own_lo q1))])))] [(.int (1 : Int32))])) _
      refine XS.goto X97.here hx rfl (pc0 := 191) (pc' := 195) rfl (hb hby at_191) (by decide) (by decide) ?_
      exact kt
    obtain ⟨fs, hr, hrun, hended, hW, hsame⟩ := X97.leave (v := (some (.int (1 : Int32)))) (fun h => by rw [Bd.returns] at h; cases h)
    refine ⟨_, _, pre99 _ ?_, hrun, hended, _, _, rfl, ?_, ⟨_, rfl⟩, hW, hsame.mono (by decide) (by decide)⟩
    · show Steps p.tables e below (T97.setTop (mkF m 195 #[.val (.int p0), .val (.long q1), .second, .val (.long q2), .second, .val (.long q3), .second, .val (.int (1 : Int32)), .val (.int (own_hi q1)), .val (.int (own_lo q1)), .val (.int (own_hi q2)), .val (.int (own_lo q2)), .val (.int (own_hi q3)), .val (.int (own_lo q3)), .val (.ref b67), .val (.ref b71), .val (.int (own_nw [((own_hi q1), (own_lo q1))])), .val (.int (own_bt [((own_hi q1), (own_lo q1))])), .val (.int (own_ex (own_nw [((own_hi q1), (own_lo q1))]) (own_bt [((own_hi q1), (own_lo q1))])))] [(.int (1 : Int32))])) _
      exact retN X97 hx (t := .boolean) Bd.returns (by simp) (hb hby at_195) hr
    · show Q0 Z p0 q1 q2 q3 h0 n0 _ T97.heap _
      rw [he97]
      exact ⟨rfl, N97⟩
  · have pre100 : ∀ t, Steps p.tables e below (s₁.setTop (mkF m 6 #[.val (.int p0), .val (.long q1), .second, .val (.long q2), .second, .val (.long q3), .second, .val (.int (2 : Int32)), .unset, .unset, .unset, .unset, .unset, .unset, .unset, .unset, .unset, .unset, .unset] [(.long q1)])) t → Steps p.tables e below (s₁.setTop (entryFrame m #[(.int p0), (.long q1), (.long q2), (.long q3)] maxLocals)) t := fun t kt => by
      refine pre1 _ ?_
      show Steps p.tables e below (s₁.setTop (mkF m 3 #[.val (.int p0), .val (.long q1), .second, .val (.long q2), .second, .val (.long q3), .second, .unset, .unset, .unset, .unset, .unset, .unset, .unset, .unset, .unset, .unset, .unset, .unset] [(.int (own_n p0))])) _
      rw [show (own_n p0) = (2 : Int32) from hn]
      show Steps p.tables e below (s₁.setTop (mkF m 3 #[.val (.int p0), .val (.long q1), .second, .val (.long q2), .second, .val (.long q3), .second, .unset, .unset, .unset, .unset, .unset, .unset, .unset, .unset, .unset, .unset, .unset, .unset] [(.int (2 : Int32))])) _
      refine XS.istore X0.here hx rfl (hb hby at_3) rfl (l' := #[.val (.int p0), .val (.long q1), .second, .val (.long q2), .second, .val (.long q3), .second, .val (.int (2 : Int32)), .unset, .unset, .unset, .unset, .unset, .unset, .unset, .unset, .unset, .unset, .unset]) rfl ?_
      show Steps p.tables e below (s₁.setTop (mkF m 5 #[.val (.int p0), .val (.long q1), .second, .val (.long q2), .second, .val (.long q3), .second, .val (.int (2 : Int32)), .unset, .unset, .unset, .unset, .unset, .unset, .unset, .unset, .unset, .unset, .unset] [])) _
      refine XS.lloadN X0.here hx rfl (hb hby at_5) rfl ?_
      exact kt
    obtain ⟨_, _, ⟨T101, L101, kc101, nc101⟩, -, X101, ⟨Lc101, hQ101, l101, y101, z101⟩, st101⟩ := Jvm.LawKit.callS X0 hx (y := (⟨"com/example/tesserae/tesserae/core/VectorsDominatesPinLaw", "hi", "(J)I"⟩ : MethodName)) hown (mvT hZ (hw _ (List.mem_of_getElem? (i := 0) rfl))) (mvT hZ (hw _ (List.mem_of_getElem? (i := 1) rfl))) (mvT hZ (hw _ (List.mem_of_getElem? (i := 2) rfl))) (mvT hZ (hw _ (List.mem_of_getElem? (i := 3) rfl))) (by decide) (backOf (W := 0) (rm1 l Z a0 hw [] q1 h0 n0 Z0) hZ (hw _ (List.mem_of_getElem? (i := 3) rfl)) (hw _ (List.mem_of_getElem? (i := 2) rfl)) (by decide) (by decide)) (g := (mkF m 6 #[.val (.int p0), .val (.long q1), .second, .val (.long q2), .second, .val (.long q3), .second, .val (.int (2 : Int32)), .unset, .unset, .unset, .unset, .unset, .unset, .unset, .unset, .unset, .unset, .unset] [(.long q1)])) rfl (by rw [hml]; rfl) (argsL := [(.long q1)]) (rest := []) (lenOf pd_0 rfl) rfl (by show 2 * 0 + _ ≤ _; exact Nat.le_of_eq rfl) (hb hby at_6) (fun _ _ => ⟨rfl, e0, (by decide : 0 + 0 ≤ _), (by decide : 0 + 0 ≤ _)⟩)
    dsimp only [Pt.U, Pt.locs, Pt.cells, Pt.slots] at X101 l101 y101 z101 st101 hQ101
    subst l101 y101 z101
    obtain ⟨rfl, N101q, he101⟩ := hQ101
    have N101 := Fr.app N0 N101q
    have pre102 : ∀ t, Steps p.tables e below (T101.setTop (mkF m 9 #[.val (.int p0), .val (.long q1), .second, .val (.long q2), .second, .val (.long q3), .second, .val (.int (2 : Int32)), .unset, .unset, .unset, .unset, .unset, .unset, .unset, .unset, .unset, .unset, .unset] [(.int (own_hi q1))])) t → Steps p.tables e below (s₁.setTop (entryFrame m #[(.int p0), (.long q1), (.long q2), (.long q3)] maxLocals)) t := fun t kt => pre100 _ (st101 _ kt)
    have pre103 : ∀ t, Steps p.tables e below (T101.setTop (mkF m 12 #[.val (.int p0), .val (.long q1), .second, .val (.long q2), .second, .val (.long q3), .second, .val (.int (2 : Int32)), .val (.int (own_hi q1)), .unset, .unset, .unset, .unset, .unset, .unset, .unset, .unset, .unset, .unset] [(.long q1)])) t → Steps p.tables e below (s₁.setTop (entryFrame m #[(.int p0), (.long q1), (.long q2), (.long q3)] maxLocals)) t := fun t kt => by
      refine pre102 _ ?_
      show Steps p.tables e below (T101.setTop (mkF m 9 #[.val (.int p0), .val (.long q1), .second, .val (.long q2), .second, .val (.long q3), .second, .val (.int (2 : Int32)), .unset, .unset, .unset, .unset, .unset, .unset, .unset, .unset, .unset, .unset, .unset] [(.int (own_hi q1))])) _
      refine XS.istore X101.here hx rfl (hb hby at_9) rfl (l' := #[.val (.int p0), .val (.long q1), .second, .val (.long q2), .second, .val (.long q3), .second, .val (.int (2 : Int32)), .val (.int (own_hi q1)), .unset, .unset, .unset, .unset, .unset, .unset, .unset, .unset, .unset, .unset]) rfl ?_
      show Steps p.tables e below (T101.setTop (mkF m 11 #[.val (.int p0), .val (.long q1), .second, .val (.long q2), .second, .val (.long q3), .second, .val (.int (2 : Int32)), .val (.int (own_hi q1)), .unset, .unset, .unset, .unset, .unset, .unset, .unset, .unset, .unset, .unset] [])) _
      refine XS.lloadN X101.here hx rfl (hb hby at_11) rfl ?_
      exact kt
    obtain ⟨_, _, ⟨T104, L104, kc104, nc104⟩, -, X104, ⟨Lc104, hQ104, l104, y104, z104⟩, st104⟩ := Jvm.LawKit.callS X101 hx (y := (⟨"com/example/tesserae/tesserae/core/VectorsDominatesPinLaw", "lo", "(J)I"⟩ : MethodName)) hown (mvT hZ (hw _ (List.mem_of_getElem? (i := 4) rfl))) (mvT hZ (hw _ (List.mem_of_getElem? (i := 5) rfl))) (mvT hZ (hw _ (List.mem_of_getElem? (i := 2) rfl))) (mvT hZ (hw _ (List.mem_of_getElem? (i := 6) rfl))) (by decide) (backOf (W := 0) (rm2 l Z a0 hw [] q1 h0 n0 Z0) hZ (hw _ (List.mem_of_getElem? (i := 6) rfl)) (hw _ (List.mem_of_getElem? (i := 2) rfl)) (by decide) (by decide)) (g := (mkF m 12 #[.val (.int p0), .val (.long q1), .second, .val (.long q2), .second, .val (.long q3), .second, .val (.int (2 : Int32)), .val (.int (own_hi q1)), .unset, .unset, .unset, .unset, .unset, .unset, .unset, .unset, .unset, .unset] [(.long q1)])) rfl (by rw [hml]; rfl) (argsL := [(.long q1)]) (rest := []) (lenOf pd_0 rfl) rfl (by show 2 * 0 + _ ≤ _; exact Nat.le_of_eq rfl) (hb hby at_12) (fun _ _ => ⟨rfl, he101, (by decide : 0 + 0 ≤ _), (by decide : 0 + 0 ≤ _)⟩)
    dsimp only [Pt.U, Pt.locs, Pt.cells, Pt.slots] at X104 l104 y104 z104 st104 hQ104
    subst l104 y104 z104
    obtain ⟨rfl, N104q, he104⟩ := hQ104
    have N104 := Fr.app N101 N104q
    have pre105 : ∀ t, Steps p.tables e below (T104.setTop (mkF m 15 #[.val (.int p0), .val (.long q1), .second, .val (.long q2), .second, .val (.long q3), .second, .val (.int (2 : Int32)), .val (.int (own_hi q1)), .unset, .unset, .unset, .unset, .unset, .unset, .unset, .unset, .unset, .unset] [(.int (own_lo q1))])) t → Steps p.tables e below (s₁.setTop (entryFrame m #[(.int p0), (.long q1), (.long q2), (.long q3)] maxLocals)) t := fun t kt => pre103 _ (st104 _ kt)
    have pre106 : ∀ t, Steps p.tables e below (T104.setTop (mkF m 18 #[.val (.int p0), .val (.long q1), .second, .val (.long q2), .second, .val (.long q3), .second, .val (.int (2 : Int32)), .val (.int (own_hi q1)), .val (.int (own_lo q1)), .unset, .unset, .unset, .unset, .unset, .unset, .unset, .unset, .unset] [(.long q2)])) t → Steps p.tables e below (s₁.setTop (entryFrame m #[(.int p0), (.long q1), (.long q2), (.long q3)] maxLocals)) t := fun t kt => by
      refine pre105 _ ?_
      show Steps p.tables e below (T104.setTop (mkF m 15 #[.val (.int p0), .val (.long q1), .second, .val (.long q2), .second, .val (.long q3), .second, .val (.int (2 : Int32)), .val (.int (own_hi q1)), .unset, .unset, .unset, .unset, .unset, .unset, .unset, .unset, .unset, .unset] [(.int (own_lo q1))])) _
      refine XS.istore X104.here hx rfl (hb hby at_15) rfl (l' := #[.val (.int p0), .val (.long q1), .second, .val (.long q2), .second, .val (.long q3), .second, .val (.int (2 : Int32)), .val (.int (own_hi q1)), .val (.int (own_lo q1)), .unset, .unset, .unset, .unset, .unset, .unset, .unset, .unset, .unset]) rfl ?_
      show Steps p.tables e below (T104.setTop (mkF m 17 #[.val (.int p0), .val (.long q1), .second, .val (.long q2), .second, .val (.long q3), .second, .val (.int (2 : Int32)), .val (.int (own_hi q1)), .val (.int (own_lo q1)), .unset, .unset, .unset, .unset, .unset, .unset, .unset, .unset, .unset] [])) _
      refine XS.lloadN X104.here hx rfl (hb hby at_17) rfl ?_
      exact kt
    obtain ⟨_, _, ⟨T107, L107, kc107, nc107⟩, -, X107, ⟨Lc107, hQ107, l107, y107, z107⟩, st107⟩ := Jvm.LawKit.callS X104 hx (y := (⟨"com/example/tesserae/tesserae/core/VectorsDominatesPinLaw", "hi", "(J)I"⟩ : MethodName)) hown (mvT hZ (hw _ (List.mem_of_getElem? (i := 0) rfl))) (mvT hZ (hw _ (List.mem_of_getElem? (i := 1) rfl))) (mvT hZ (hw _ (List.mem_of_getElem? (i := 2) rfl))) (mvT hZ (hw _ (List.mem_of_getElem? (i := 3) rfl))) (by decide) (backOf (W := 0) (rm1 l Z a0 hw [] q2 h0 n0 Z0) hZ (hw _ (List.mem_of_getElem? (i := 3) rfl)) (hw _ (List.mem_of_getElem? (i := 2) rfl)) (by decide) (by decide)) (g := (mkF m 18 #[.val (.int p0), .val (.long q1), .second, .val (.long q2), .second, .val (.long q3), .second, .val (.int (2 : Int32)), .val (.int (own_hi q1)), .val (.int (own_lo q1)), .unset, .unset, .unset, .unset, .unset, .unset, .unset, .unset, .unset] [(.long q2)])) rfl (by rw [hml]; rfl) (argsL := [(.long q2)]) (rest := []) (lenOf pd_0 rfl) rfl (by show 2 * 0 + _ ≤ _; exact Nat.le_of_eq rfl) (hb hby at_18) (fun _ _ => ⟨rfl, he104, (by decide : 0 + 0 ≤ _), (by decide : 0 + 0 ≤ _)⟩)
    dsimp only [Pt.U, Pt.locs, Pt.cells, Pt.slots] at X107 l107 y107 z107 st107 hQ107
    subst l107 y107 z107
    obtain ⟨rfl, N107q, he107⟩ := hQ107
    have N107 := Fr.app N104 N107q
    have pre108 : ∀ t, Steps p.tables e below (T107.setTop (mkF m 21 #[.val (.int p0), .val (.long q1), .second, .val (.long q2), .second, .val (.long q3), .second, .val (.int (2 : Int32)), .val (.int (own_hi q1)), .val (.int (own_lo q1)), .unset, .unset, .unset, .unset, .unset, .unset, .unset, .unset, .unset] [(.int (own_hi q2))])) t → Steps p.tables e below (s₁.setTop (entryFrame m #[(.int p0), (.long q1), (.long q2), (.long q3)] maxLocals)) t := fun t kt => pre106 _ (st107 _ kt)
    have pre109 : ∀ t, Steps p.tables e below (T107.setTop (mkF m 24 #[.val (.int p0), .val (.long q1), .second, .val (.long q2), .second, .val (.long q3), .second, .val (.int (2 : Int32)), .val (.int (own_hi q1)), .val (.int (own_lo q1)), .val (.int (own_hi q2)), .unset, .unset, .unset, .unset, .unset, .unset, .unset, .unset] [(.long q2)])) t → Steps p.tables e below (s₁.setTop (entryFrame m #[(.int p0), (.long q1), (.long q2), (.long q3)] maxLocals)) t := fun t kt => by
      refine pre108 _ ?_
      show Steps p.tables e below (T107.setTop (mkF m 21 #[.val (.int p0), .val (.long q1), .second, .val (.long q2), .second, .val (.long q3), .second, .val (.int (2 : Int32)), .val (.int (own_hi q1)), .val (.int (own_lo q1)), .unset, .unset, .unset, .unset, .unset, .unset, .unset, .unset, .unset] [(.int (own_hi q2))])) _
      refine XS.istore X107.here hx rfl (hb hby at_21) rfl (l' := #[.val (.int p0), .val (.long q1), .second, .val (.long q2), .second, .val (.long q3), .second, .val (.int (2 : Int32)), .val (.int (own_hi q1)), .val (.int (own_lo q1)), .val (.int (own_hi q2)), .unset, .unset, .unset, .unset, .unset, .unset, .unset, .unset]) rfl ?_
      show Steps p.tables e below (T107.setTop (mkF m 23 #[.val (.int p0), .val (.long q1), .second, .val (.long q2), .second, .val (.long q3), .second, .val (.int (2 : Int32)), .val (.int (own_hi q1)), .val (.int (own_lo q1)), .val (.int (own_hi q2)), .unset, .unset, .unset, .unset, .unset, .unset, .unset, .unset] [])) _
      refine XS.lloadN X107.here hx rfl (hb hby at_23) rfl ?_
      exact kt
    obtain ⟨_, _, ⟨T110, L110, kc110, nc110⟩, -, X110, ⟨Lc110, hQ110, l110, y110, z110⟩, st110⟩ := Jvm.LawKit.callS X107 hx (y := (⟨"com/example/tesserae/tesserae/core/VectorsDominatesPinLaw", "lo", "(J)I"⟩ : MethodName)) hown (mvT hZ (hw _ (List.mem_of_getElem? (i := 4) rfl))) (mvT hZ (hw _ (List.mem_of_getElem? (i := 5) rfl))) (mvT hZ (hw _ (List.mem_of_getElem? (i := 2) rfl))) (mvT hZ (hw _ (List.mem_of_getElem? (i := 6) rfl))) (by decide) (backOf (W := 0) (rm2 l Z a0 hw [] q2 h0 n0 Z0) hZ (hw _ (List.mem_of_getElem? (i := 6) rfl)) (hw _ (List.mem_of_getElem? (i := 2) rfl)) (by decide) (by decide)) (g := (mkF m 24 #[.val (.int p0), .val (.long q1), .second, .val (.long q2), .second, .val (.long q3), .second, .val (.int (2 : Int32)), .val (.int (own_hi q1)), .val (.int (own_lo q1)), .val (.int (own_hi q2)), .unset, .unset, .unset, .unset, .unset, .unset, .unset, .unset] [(.long q2)])) rfl (by rw [hml]; rfl) (argsL := [(.long q2)]) (rest := []) (lenOf pd_0 rfl) rfl (by show 2 * 0 + _ ≤ _; exact Nat.le_of_eq rfl) (hb hby at_24) (fun _ _ => ⟨rfl, he107, (by decide : 0 + 0 ≤ _), (by decide : 0 + 0 ≤ _)⟩)
    dsimp only [Pt.U, Pt.locs, Pt.cells, Pt.slots] at X110 l110 y110 z110 st110 hQ110
    subst l110 y110 z110
    obtain ⟨rfl, N110q, he110⟩ := hQ110
    have N110 := Fr.app N107 N110q
    have pre111 : ∀ t, Steps p.tables e below (T110.setTop (mkF m 27 #[.val (.int p0), .val (.long q1), .second, .val (.long q2), .second, .val (.long q3), .second, .val (.int (2 : Int32)), .val (.int (own_hi q1)), .val (.int (own_lo q1)), .val (.int (own_hi q2)), .unset, .unset, .unset, .unset, .unset, .unset, .unset, .unset] [(.int (own_lo q2))])) t → Steps p.tables e below (s₁.setTop (entryFrame m #[(.int p0), (.long q1), (.long q2), (.long q3)] maxLocals)) t := fun t kt => pre109 _ (st110 _ kt)
    have pre112 : ∀ t, Steps p.tables e below (T110.setTop (mkF m 31 #[.val (.int p0), .val (.long q1), .second, .val (.long q2), .second, .val (.long q3), .second, .val (.int (2 : Int32)), .val (.int (own_hi q1)), .val (.int (own_lo q1)), .val (.int (own_hi q2)), .val (.int (own_lo q2)), .unset, .unset, .unset, .unset, .unset, .unset, .unset] [(.long q3)])) t → Steps p.tables e below (s₁.setTop (entryFrame m #[(.int p0), (.long q1), (.long q2), (.long q3)] maxLocals)) t := fun t kt => by
      refine pre111 _ ?_
      show Steps p.tables e below (T110.setTop (mkF m 27 #[.val (.int p0), .val (.long q1), .second, .val (.long q2), .second, .val (.long q3), .second, .val (.int (2 : Int32)), .val (.int (own_hi q1)), .val (.int (own_lo q1)), .val (.int (own_hi q2)), .unset, .unset, .unset, .unset, .unset, .unset, .unset, .unset] [(.int (own_lo q2))])) _
      refine XS.istore X110.here hx rfl (hb hby at_27) rfl (l' := #[.val (.int p0), .val (.long q1), .second, .val (.long q2), .second, .val (.long q3), .second, .val (.int (2 : Int32)), .val (.int (own_hi q1)), .val (.int (own_lo q1)), .val (.int (own_hi q2)), .val (.int (own_lo q2)), .unset, .unset, .unset, .unset, .unset, .unset, .unset]) rfl ?_
      show Steps p.tables e below (T110.setTop (mkF m 29 #[.val (.int p0), .val (.long q1), .second, .val (.long q2), .second, .val (.long q3), .second, .val (.int (2 : Int32)), .val (.int (own_hi q1)), .val (.int (own_lo q1)), .val (.int (own_hi q2)), .val (.int (own_lo q2)), .unset, .unset, .unset, .unset, .unset, .unset, .unset] [])) _
      refine XS.lload X110.here hx rfl (hb hby at_29) rfl ?_
      exact kt
    obtain ⟨_, _, ⟨T113, L113, kc113, nc113⟩, -, X113, ⟨Lc113, hQ113, l113, y113, z113⟩, st113⟩ := Jvm.LawKit.callS X110 hx (y := (⟨"com/example/tesserae/tesserae/core/VectorsDominatesPinLaw", "hi", "(J)I"⟩ : MethodName)) hown (mvT hZ (hw _ (List.mem_of_getElem? (i := 0) rfl))) (mvT hZ (hw _ (List.mem_of_getElem? (i := 1) rfl))) (mvT hZ (hw _ (List.mem_of_getElem? (i := 2) rfl))) (mvT hZ (hw _ (List.mem_of_getElem? (i := 3) rfl))) (by decide) (backOf (W := 0) (rm1 l Z a0 hw [] q3 h0 n0 Z0) hZ (hw _ (List.mem_of_getElem? (i := 3) rfl)) (hw _ (List.mem_of_getElem? (i := 2) rfl)) (by decide) (by decide)) (g := (mkF m 31 #[.val (.int p0), .val (.long q1), .second, .val (.long q2), .second, .val (.long q3), .second, .val (.int (2 : Int32)), .val (.int (own_hi q1)), .val (.int (own_lo q1)), .val (.int (own_hi q2)), .val (.int (own_lo q2)), .unset, .unset, .unset, .unset, .unset, .unset, .unset] [(.long q3)])) rfl (by rw [hml]; rfl) (argsL := [(.long q3)]) (rest := []) (lenOf pd_0 rfl) rfl (by show 2 * 0 + _ ≤ _; exact Nat.le_of_eq rfl) (hb hby at_31) (fun _ _ => ⟨rfl, he110, (by decide : 0 + 0 ≤ _), (by decide : 0 + 0 ≤ _)⟩)
    dsimp only [Pt.U, Pt.locs, Pt.cells, Pt.slots] at X113 l113 y113 z113 st113 hQ113
    subst l113 y113 z113
    obtain ⟨rfl, N113q, he113⟩ := hQ113
    have N113 := Fr.app N110 N113q
    have pre114 : ∀ t, Steps p.tables e below (T113.setTop (mkF m 34 #[.val (.int p0), .val (.long q1), .second, .val (.long q2), .second, .val (.long q3), .second, .val (.int (2 : Int32)), .val (.int (own_hi q1)), .val (.int (own_lo q1)), .val (.int (own_hi q2)), .val (.int (own_lo q2)), .unset, .unset, .unset, .unset, .unset, .unset, .unset] [(.int (own_hi q3))])) t → Steps p.tables e below (s₁.setTop (entryFrame m #[(.int p0), (.long q1), (.long q2), (.long q3)] maxLocals)) t := fun t kt => pre112 _ (st113 _ kt)
    have pre115 : ∀ t, Steps p.tables e below (T113.setTop (mkF m 38 #[.val (.int p0), .val (.long q1), .second, .val (.long q2), .second, .val (.long q3), .second, .val (.int (2 : Int32)), .val (.int (own_hi q1)), .val (.int (own_lo q1)), .val (.int (own_hi q2)), .val (.int (own_lo q2)), .val (.int (own_hi q3)), .unset, .unset, .unset, .unset, .unset, .unset] [(.long q3)])) t → Steps p.tables e below (s₁.setTop (entryFrame m #[(.int p0), (.long q1), (.long q2), (.long q3)] maxLocals)) t := fun t kt => by
      refine pre114 _ ?_
      show Steps p.tables e below (T113.setTop (mkF m 34 #[.val (.int p0), .val (.long q1), .second, .val (.long q2), .second, .val (.long q3), .second, .val (.int (2 : Int32)), .val (.int (own_hi q1)), .val (.int (own_lo q1)), .val (.int (own_hi q2)), .val (.int (own_lo q2)), .unset, .unset, .unset, .unset, .unset, .unset, .unset] [(.int (own_hi q3))])) _
      refine XS.istore X113.here hx rfl (hb hby at_34) rfl (l' := #[.val (.int p0), .val (.long q1), .second, .val (.long q2), .second, .val (.long q3), .second, .val (.int (2 : Int32)), .val (.int (own_hi q1)), .val (.int (own_lo q1)), .val (.int (own_hi q2)), .val (.int (own_lo q2)), .val (.int (own_hi q3)), .unset, .unset, .unset, .unset, .unset, .unset]) rfl ?_
      show Steps p.tables e below (T113.setTop (mkF m 36 #[.val (.int p0), .val (.long q1), .second, .val (.long q2), .second, .val (.long q3), .second, .val (.int (2 : Int32)), .val (.int (own_hi q1)), .val (.int (own_lo q1)), .val (.int (own_hi q2)), .val (.int (own_lo q2)), .val (.int (own_hi q3)), .unset, .unset, .unset, .unset, .unset, .unset] [])) _
      refine XS.lload X113.here hx rfl (hb hby at_36) rfl ?_
      exact kt
    obtain ⟨_, _, ⟨T116, L116, kc116, nc116⟩, -, X116, ⟨Lc116, hQ116, l116, y116, z116⟩, st116⟩ := Jvm.LawKit.callS X113 hx (y := (⟨"com/example/tesserae/tesserae/core/VectorsDominatesPinLaw", "lo", "(J)I"⟩ : MethodName)) hown (mvT hZ (hw _ (List.mem_of_getElem? (i := 4) rfl))) (mvT hZ (hw _ (List.mem_of_getElem? (i := 5) rfl))) (mvT hZ (hw _ (List.mem_of_getElem? (i := 2) rfl))) (mvT hZ (hw _ (List.mem_of_getElem? (i := 6) rfl))) (by decide) (backOf (W := 0) (rm2 l Z a0 hw [] q3 h0 n0 Z0) hZ (hw _ (List.mem_of_getElem? (i := 6) rfl)) (hw _ (List.mem_of_getElem? (i := 2) rfl)) (by decide) (by decide)) (g := (mkF m 38 #[.val (.int p0), .val (.long q1), .second, .val (.long q2), .second, .val (.long q3), .second, .val (.int (2 : Int32)), .val (.int (own_hi q1)), .val (.int (own_lo q1)), .val (.int (own_hi q2)), .val (.int (own_lo q2)), .val (.int (own_hi q3)), .unset, .unset, .unset, .unset, .unset, .unset] [(.long q3)])) rfl (by rw [hml]; rfl) (argsL := [(.long q3)]) (rest := []) (lenOf pd_0 rfl) rfl (by show 2 * 0 + _ ≤ _; exact Nat.le_of_eq rfl) (hb hby at_38) (fun _ _ => ⟨rfl, he113, (by decide : 0 + 0 ≤ _), (by decide : 0 + 0 ≤ _)⟩)
    dsimp only [Pt.U, Pt.locs, Pt.cells, Pt.slots] at X116 l116 y116 z116 st116 hQ116
    subst l116 y116 z116
    obtain ⟨rfl, N116q, he116⟩ := hQ116
    have N116 := Fr.app N113 N116q
    have pre117 : ∀ t, Steps p.tables e below (T116.setTop (mkF m 41 #[.val (.int p0), .val (.long q1), .second, .val (.long q2), .second, .val (.long q3), .second, .val (.int (2 : Int32)), .val (.int (own_hi q1)), .val (.int (own_lo q1)), .val (.int (own_hi q2)), .val (.int (own_lo q2)), .val (.int (own_hi q3)), .unset, .unset, .unset, .unset, .unset, .unset] [(.int (own_lo q3))])) t → Steps p.tables e below (s₁.setTop (entryFrame m #[(.int p0), (.long q1), (.long q2), (.long q3)] maxLocals)) t := fun t kt => pre115 _ (st116 _ kt)
    have pre118 : ∀ t, Steps p.tables e below (T116.setTop (mkF m 51 #[.val (.int p0), .val (.long q1), .second, .val (.long q2), .second, .val (.long q3), .second, .val (.int (2 : Int32)), .val (.int (own_hi q1)), .val (.int (own_lo q1)), .val (.int (own_hi q2)), .val (.int (own_lo q2)), .val (.int (own_hi q3)), .val (.int (own_lo q3)), .unset, .unset, .unset, .unset, .unset] [(.int (own_hi q3)), (.int (own_hi q2)), (.int (own_hi q1)), (.int (2 : Int32))])) t → Steps p.tables e below (s₁.setTop (entryFrame m #[(.int p0), (.long q1), (.long q2), (.long q3)] maxLocals)) t := fun t kt => by
      refine pre117 _ ?_
      show Steps p.tables e below (T116.setTop (mkF m 41 #[.val (.int p0), .val (.long q1), .second, .val (.long q2), .second, .val (.long q3), .second, .val (.int (2 : Int32)), .val (.int (own_hi q1)), .val (.int (own_lo q1)), .val (.int (own_hi q2)), .val (.int (own_lo q2)), .val (.int (own_hi q3)), .unset, .unset, .unset, .unset, .unset, .unset] [(.int (own_lo q3))])) _
      refine XS.istore X116.here hx rfl (hb hby at_41) rfl (l' := #[.val (.int p0), .val (.long q1), .second, .val (.long q2), .second, .val (.long q3), .second, .val (.int (2 : Int32)), .val (.int (own_hi q1)), .val (.int (own_lo q1)), .val (.int (own_hi q2)), .val (.int (own_lo q2)), .val (.int (own_hi q3)), .val (.int (own_lo q3)), .unset, .unset, .unset, .unset, .unset]) rfl ?_
      show Steps p.tables e below (T116.setTop (mkF m 43 #[.val (.int p0), .val (.long q1), .second, .val (.long q2), .second, .val (.long q3), .second, .val (.int (2 : Int32)), .val (.int (own_hi q1)), .val (.int (own_lo q1)), .val (.int (own_hi q2)), .val (.int (own_lo q2)), .val (.int (own_hi q3)), .val (.int (own_lo q3)), .unset, .unset, .unset, .unset, .unset] [])) _
      refine XS.iload X116.here hx rfl (hb hby at_43) rfl ?_
      show Steps p.tables e below (T116.setTop (mkF m 45 #[.val (.int p0), .val (.long q1), .second, .val (.long q2), .second, .val (.long q3), .second, .val (.int (2 : Int32)), .val (.int (own_hi q1)), .val (.int (own_lo q1)), .val (.int (own_hi q2)), .val (.int (own_lo q2)), .val (.int (own_hi q3)), .val (.int (own_lo q3)), .unset, .unset, .unset, .unset, .unset] [(.int (2 : Int32))])) _
      refine XS.iload X116.here hx rfl (hb hby at_45) rfl ?_
      show Steps p.tables e below (T116.setTop (mkF m 47 #[.val (.int p0), .val (.long q1), .second, .val (.long q2), .second, .val (.long q3), .second, .val (.int (2 : Int32)), .val (.int (own_hi q1)), .val (.int (own_lo q1)), .val (.int (own_hi q2)), .val (.int (own_lo q2)), .val (.int (own_hi q3)), .val (.int (own_lo q3)), .unset, .unset, .unset, .unset, .unset] [(.int (own_hi q1)), (.int (2 : Int32))])) _
      refine XS.iload X116.here hx rfl (hb hby at_47) rfl ?_
      show Steps p.tables e below (T116.setTop (mkF m 49 #[.val (.int p0), .val (.long q1), .second, .val (.long q2), .second, .val (.long q3), .second, .val (.int (2 : Int32)), .val (.int (own_hi q1)), .val (.int (own_lo q1)), .val (.int (own_hi q2)), .val (.int (own_lo q2)), .val (.int (own_hi q3)), .val (.int (own_lo q3)), .unset, .unset, .unset, .unset, .unset] [(.int (own_hi q2)), (.int (own_hi q1)), (.int (2 : Int32))])) _
      refine XS.iload X116.here hx rfl (hb hby at_49) rfl ?_
      exact kt
    obtain ⟨_, _, ⟨T119, L119, kc119, nc119⟩, -, X119, ⟨Lc119, hQ119, l119, y119, z119⟩, st119⟩ := Jvm.LawKit.callS X116 hx (y := (⟨"com/example/tesserae/tesserae/core/VectorsDominatesPinLaw", "make", "(IIII)[D"⟩ : MethodName)) hown (mvT hZ (hw _ (List.mem_of_getElem? (i := 7) rfl))) (mvT hZ (hw _ (List.mem_of_getElem? (i := 8) rfl))) (mvT hZ (hw _ (List.mem_of_getElem? (i := 2) rfl))) (mvT hZ (hw _ (List.mem_of_getElem? (i := 9) rfl))) (by decide) (backOf (W := 0) (rm3m2 l Z a0 hw [] (own_hi q1) (own_hi q2) (own_hi q3) h0 n0 Z0) hZ (hw _ (List.mem_of_getElem? (i := 9) rfl)) (hw _ (List.mem_of_getElem? (i := 2) rfl)) (by decide) (by decide)) (g := (mkF m 51 #[.val (.int p0), .val (.long q1), .second, .val (.long q2), .second, .val (.long q3), .second, .val (.int (2 : Int32)), .val (.int (own_hi q1)), .val (.int (own_lo q1)), .val (.int (own_hi q2)), .val (.int (own_lo q2)), .val (.int (own_hi q3)), .val (.int (own_lo q3)), .unset, .unset, .unset, .unset, .unset] [(.int (own_hi q3)), (.int (own_hi q2)), (.int (own_hi q1)), (.int (2 : Int32))])) rfl (by rw [hml]; rfl) (argsL := [(.int (2 : Int32)), (.int (own_hi q1)), (.int (own_hi q2)), (.int (own_hi q3))]) (rest := []) (lenOf pd_1 rfl) rfl (by show 2 * 0 + _ ≤ _; exact Nat.le_of_eq rfl) (hb hby at_51) (fun _ _ => ⟨rfl, he116, (by decide : 0 + 1 ≤ _), (by decide : 0 + 2 ≤ _)⟩)
    dsimp only [Pt.U, Pt.locs, Pt.cells, Pt.slots] at X119 l119 y119 z119 st119 hQ119
    subst l119 y119 z119
    obtain ⟨rfl, N119q, K119, ⟨kk119, Va119⟩⟩ := hQ119
    have N119 := Fr.app N116 N119q
    obtain ⟨b119, gq119⟩ : ∃ z, z = h0.size := ⟨_, rfl⟩
    rw [← gq119] at Va119 st119
    have gg_b119 : n0 ≤ b119 := Nat.le_trans Z0 (Nat.le_of_eq gq119.symm)
    have pre120 : ∀ t, Steps p.tables e below (T119.setTop (mkF m 54 #[.val (.int p0), .val (.long q1), .second, .val (.long q2), .second, .val (.long q3), .second, .val (.int (2 : Int32)), .val (.int (own_hi q1)), .val (.int (own_lo q1)), .val (.int (own_hi q2)), .val (.int (own_lo q2)), .val (.int (own_hi q3)), .val (.int (own_lo q3)), .unset, .unset, .unset, .unset, .unset] [(.ref b119)])) t → Steps p.tables e below (s₁.setTop (entryFrame m #[(.int p0), (.long q1), (.long q2), (.long q3)] maxLocals)) t := fun t kt => pre118 _ (st119 _ kt)
    have z121 : n0 ≤ T119.heap.size := (Nat.le_trans Z0 K119.1)
    have pre122 : ∀ t, Steps p.tables e below (T119.setTop (mkF m 64 #[.val (.int p0), .val (.long q1), .second, .val (.long q2), .second, .val (.long q3), .second, .val (.int (2 : Int32)), .val (.int (own_hi q1)), .val (.int (own_lo q1)), .val (.int (own_hi q2)), .val (.int (own_lo q2)), .val (.int (own_hi q3)), .val (.int (own_lo q3)), .val (.ref b119), .unset, .unset, .unset, .unset] [(.int (own_lo q3)), (.int (own_lo q2)), (.int (own_lo q1)), (.int (2 : Int32))])) t → Steps p.tables e below (s₁.setTop (entryFrame m #[(.int p0), (.long q1), (.long q2), (.long q3)] maxLocals)) t := fun t kt => by
      refine pre120 _ ?_
      show Steps p.tables e below (T119.setTop (mkF m 54 #[.val (.int p0), .val (.long q1), .second, .val (.long q2), .second, .val (.long q3), .second, .val (.int (2 : Int32)), .val (.int (own_hi q1)), .val (.int (own_lo q1)), .val (.int (own_hi q2)), .val (.int (own_lo q2)), .val (.int (own_hi q3)), .val (.int (own_lo q3)), .unset, .unset, .unset, .unset, .unset] [(.ref b119)])) _
      refine XS.astore X119.here hx rfl (hb hby at_54) rfl rfl (l' := #[.val (.int p0), .val (.long q1), .second, .val (.long q2), .second, .val (.long q3), .second, .val (.int (2 : Int32)), .val (.int (own_hi q1)), .val (.int (own_lo q1)), .val (.int (own_hi q2)), .val (.int (own_lo q2)), .val (.int (own_hi q3)), .val (.int (own_lo q3)), .val (.ref b119), .unset, .unset, .unset, .unset]) rfl ?_
      show Steps p.tables e below (T119.setTop (mkF m 56 #[.val (.int p0), .val (.long q1), .second, .val (.long q2), .second, .val (.long q3), .second, .val (.int (2 : Int32)), .val (.int (own_hi q1)), .val (.int (own_lo q1)), .val (.int (own_hi q2)), .val (.int (own_lo q2)), .val (.int (own_hi q3)), .val (.int (own_lo q3)), .val (.ref b119), .unset, .unset, .unset, .unset] [])) _
      refine XS.iload X119.here hx rfl (hb hby at_56) rfl ?_
      show Steps p.tables e below (T119.setTop (mkF m 58 #[.val (.int p0), .val (.long q1), .second, .val (.long q2), .second, .val (.long q3), .second, .val (.int (2 : Int32)), .val (.int (own_hi q1)), .val (.int (own_lo q1)), .val (.int (own_hi q2)), .val (.int (own_lo q2)), .val (.int (own_hi q3)), .val (.int (own_lo q3)), .val (.ref b119), .unset, .unset, .unset, .unset] [(.int (2 : Int32))])) _
      refine XS.iload X119.here hx rfl (hb hby at_58) rfl ?_
      show Steps p.tables e below (T119.setTop (mkF m 60 #[.val (.int p0), .val (.long q1), .second, .val (.long q2), .second, .val (.long q3), .second, .val (.int (2 : Int32)), .val (.int (own_hi q1)), .val (.int (own_lo q1)), .val (.int (own_hi q2)), .val (.int (own_lo q2)), .val (.int (own_hi q3)), .val (.int (own_lo q3)), .val (.ref b119), .unset, .unset, .unset, .unset] [(.int (own_lo q1)), (.int (2 : Int32))])) _
      refine XS.iload X119.here hx rfl (hb hby at_60) rfl ?_
      show Steps p.tables e below (T119.setTop (mkF m 62 #[.val (.int p0), .val (.long q1), .second, .val (.long q2), .second, .val (.long q3), .second, .val (.int (2 : Int32)), .val (.int (own_hi q1)), .val (.int (own_lo q1)), .val (.int (own_hi q2)), .val (.int (own_lo q2)), .val (.int (own_hi q3)), .val (.int (own_lo q3)), .val (.ref b119), .unset, .unset, .unset, .unset] [(.int (own_lo q2)), (.int (own_lo q1)), (.int (2 : Int32))])) _
      refine XS.iload X119.here hx rfl (hb hby at_62) rfl ?_
      exact kt
    obtain ⟨_, _, ⟨T123, L123, kc123, nc123⟩, -, X123, ⟨Lc123, hQ123, l123, y123, z123⟩, st123⟩ := Jvm.LawKit.callS X119 hx (y := (⟨"com/example/tesserae/tesserae/core/VectorsDominatesPinLaw", "make", "(IIII)[D"⟩ : MethodName)) hown (mvT hZ (hw _ (List.mem_of_getElem? (i := 7) rfl))) (mvT hZ (hw _ (List.mem_of_getElem? (i := 8) rfl))) (mvT hZ (hw _ (List.mem_of_getElem? (i := 2) rfl))) (mvT hZ (hw _ (List.mem_of_getElem? (i := 9) rfl))) (by decide) (backOf (W := 0) (rm3m2 l Z a0 hw [] (own_lo q1) (own_lo q2) (own_lo q3) T119.heap n0 z121) hZ (hw _ (List.mem_of_getElem? (i := 9) rfl)) (hw _ (List.mem_of_getElem? (i := 2) rfl)) (by decide) (by decide)) (g := (mkF m 64 #[.val (.int p0), .val (.long q1), .second, .val (.long q2), .second, .val (.long q3), .second, .val (.int (2 : Int32)), .val (.int (own_hi q1)), .val (.int (own_lo q1)), .val (.int (own_hi q2)), .val (.int (own_lo q2)), .val (.int (own_hi q3)), .val (.int (own_lo q3)), .val (.ref b119), .unset, .unset, .unset, .unset] [(.int (own_lo q3)), (.int (own_lo q2)), (.int (own_lo q1)), (.int (2 : Int32))])) rfl (by rw [hml]; rfl) (argsL := [(.int (2 : Int32)), (.int (own_lo q1)), (.int (own_lo q2)), (.int (own_lo q3))]) (rest := []) (lenOf pd_1 rfl) rfl (by show 2 * 0 + _ ≤ _; exact Nat.le_of_eq rfl) (hb hby at_64) (fun _ _ => ⟨rfl, rfl, (by decide : 1 + 1 ≤ _), (by decide : 2 + 2 ≤ _)⟩)
    dsimp only [Pt.U, Pt.locs, Pt.cells, Pt.slots] at X123 l123 y123 z123 st123 hQ123
    subst l123 y123 z123
    obtain ⟨rfl, N123q, K123, ⟨kk123, Va123⟩⟩ := hQ123
    have N123 := Fr.app N119 N123q
    obtain ⟨b123, gq123⟩ : ∃ z, z = T119.heap.size := ⟨_, rfl⟩
    rw [← gq123] at Va123 st123
    have gg_b123 : n0 ≤ b123 := Nat.le_trans z121 (Nat.le_of_eq gq123.symm)
    have pre124 : ∀ t, Steps p.tables e below (T123.setTop (mkF m 67 #[.val (.int p0), .val (.long q1), .second, .val (.long q2), .second, .val (.long q3), .second, .val (.int (2 : Int32)), .val (.int (own_hi q1)), .val (.int (own_lo q1)), .val (.int (own_hi q2)), .val (.int (own_lo q2)), .val (.int (own_hi q3)), .val (.int (own_lo q3)), .val (.ref b119), .unset, .unset, .unset, .unset] [(.ref b123)])) t → Steps p.tables e below (s₁.setTop (entryFrame m #[(.int p0), (.long q1), (.long q2), (.long q3)] maxLocals)) t := fun t kt => pre122 _ (st123 _ kt)
    have pre125 : ∀ t, Steps p.tables e below (T123.setTop (mkF m 69 #[.val (.int p0), .val (.long q1), .second, .val (.long q2), .second, .val (.long q3), .second, .val (.int (2 : Int32)), .val (.int (own_hi q1)), .val (.int (own_lo q1)), .val (.int (own_hi q2)), .val (.int (own_lo q2)), .val (.int (own_hi q3)), .val (.int (own_lo q3)), .val (.ref b119), .val (.ref b123), .unset, .unset, .unset] [])) t → Steps p.tables e below (s₁.setTop (entryFrame m #[(.int p0), (.long q1), (.long q2), (.long q3)] maxLocals)) t := fun t kt => by
      refine pre124 _ ?_
      show Steps p.tables e below (T123.setTop (mkF m 67 #[.val (.int p0), .val (.long q1), .second, .val (.long q2), .second, .val (.long q3), .second, .val (.int (2 : Int32)), .val (.int (own_hi q1)), .val (.int (own_lo q1)), .val (.int (own_hi q2)), .val (.int (own_lo q2)), .val (.int (own_hi q3)), .val (.int (own_lo q3)), .val (.ref b119), .unset, .unset, .unset, .unset] [(.ref b123)])) _
      refine XS.astore X123.here hx rfl (hb hby at_67) rfl rfl (l' := #[.val (.int p0), .val (.long q1), .second, .val (.long q2), .second, .val (.long q3), .second, .val (.int (2 : Int32)), .val (.int (own_hi q1)), .val (.int (own_lo q1)), .val (.int (own_hi q2)), .val (.int (own_lo q2)), .val (.int (own_hi q3)), .val (.int (own_lo q3)), .val (.ref b119), .val (.ref b123), .unset, .unset, .unset]) rfl ?_
      exact kt
    have pre126 : ∀ t, Steps p.tables e below (T123.setTop (mkF m 113 #[.val (.int p0), .val (.long q1), .second, .val (.long q2), .second, .val (.long q3), .second, .val (.int (2 : Int32)), .val (.int (own_hi q1)), .val (.int (own_lo q1)), .val (.int (own_hi q2)), .val (.int (own_lo q2)), .val (.int (own_hi q3)), .val (.int (own_lo q3)), .val (.ref b119), .val (.ref b123), .unset, .unset, .unset] [(.int (own_nw [((own_hi q1), (own_lo q1)), ((own_hi q2), (own_lo q2))]))])) t → Steps p.tables e below (s₁.setTop (entryFrame m #[(.int p0), (.long q1), (.long q2), (.long q3)] maxLocals)) t := fun t kt => by
      have pre128 : ∀ t, Steps p.tables e below (T123.setTop (mkF m 79 #[.val (.int p0), .val (.long q1), .second, .val (.long q2), .second, .val (.long q3), .second, .val (.int (2 : Int32)), .val (.int (own_hi q1)), .val (.int (own_lo q1)), .val (.int (own_hi q2)), .val (.int (own_lo q2)), .val (.int (own_hi q3)), .val (.int (own_lo q3)), .val (.ref b119), .val (.ref b123), .unset, .unset, .unset] [(.int (own_lo q1)), (.int (own_hi q1))])) t → Steps p.tables e below (s₁.setTop (entryFrame m #[(.int p0), (.long q1), (.long q2), (.long q3)] maxLocals)) t := fun t kt => by
        refine pre125 _ ?_
        show Steps p.tables e below (T123.setTop (mkF m 69 #[.val (.int p0), .val (.long q1), .second, .val (.long q2), .second, .val (.long q3), .second, .val (.int (2 : Int32)), .val (.int (own_hi q1)), .val (.int (own_lo q1)), .val (.int (own_hi q2)), .val (.int (own_lo q2)), .val (.int (own_hi q3)), .val (.int (own_lo q3)), .val (.ref b119), .val (.ref b123), .unset, .unset, .unset] [])) _
        refine XS.iload X123.here hx rfl (hb hby at_69) rfl ?_
        show Steps p.tables e below (T123.setTop (mkF m 71 #[.val (.int p0), .val (.long q1), .second, .val (.long q2), .second, .val (.long q3), .second, .val (.int (2 : Int32)), .val (.int (own_hi q1)), .val (.int (own_lo q1)), .val (.int (own_hi q2)), .val (.int (own_lo q2)), .val (.int (own_hi q3)), .val (.int (own_lo q3)), .val (.ref b119), .val (.ref b123), .unset, .unset, .unset] [(.int (2 : Int32))])) _
        refine XS.iconst X123.here hx rfl (hb hby at_71) ?_
        show Steps p.tables e below (T123.setTop (mkF m 72 #[.val (.int p0), .val (.long q1), .second, .val (.long q2), .second, .val (.long q3), .second, .val (.int (2 : Int32)), .val (.int (own_hi q1)), .val (.int (own_lo q1)), .val (.int (own_hi q2)), .val (.int (own_lo q2)), .val (.int (own_hi q3)), .val (.int (own_lo q3)), .val (.ref b119), .val (.ref b123), .unset, .unset, .unset] [(.int (1 : Int32)), (.int (2 : Int32))])) _
        refine XS.icmpNo X123.here hx rfl (hb hby at_72) rfl (flt (by decide : ¬ ((2 : Int32) < (1 : Int32)))).1 ?_
        show Steps p.tables e below (T123.setTop (mkF m 75 #[.val (.int p0), .val (.long q1), .second, .val (.long q2), .second, .val (.long q3), .second, .val (.int (2 : Int32)), .val (.int (own_hi q1)), .val (.int (own_lo q1)), .val (.int (own_hi q2)), .val (.int (own_lo q2)), .val (.int (own_hi q3)), .val (.int (own_lo q3)), .val (.ref b119), .val (.ref b123), .unset, .unset, .unset] [])) _
        refine XS.iload X123.here hx rfl (hb hby at_75) rfl ?_
        show Steps p.tables e below (T123.setTop (mkF m 77 #[.val (.int p0), .val (.long q1), .second, .val (.long q2), .second, .val (.long q3), .second, .val (.int (2 : Int32)), .val (.int (own_hi q1)), .val (.int (own_lo q1)), .val (.int (own_hi q2)), .val (.int (own_lo q2)), .val (.int (own_hi q3)), .val (.int (own_lo q3)), .val (.ref b119), .val (.ref b123), .unset, .unset, .unset] [(.int (own_hi q1))])) _
        refine XS.iload X123.here hx rfl (hb hby at_77) rfl ?_
        exact kt
      by_cases c127 : (own_lo q1) < (own_hi q1)
      · have pre129 : ∀ t, Steps p.tables e below (T123.setTop (mkF m 113 #[.val (.int p0), .val (.long q1), .second, .val (.long q2), .second, .val (.long q3), .second, .val (.int (2 : Int32)), .val (.int (own_hi q1)), .val (.int (own_lo q1)), .val (.int (own_hi q2)), .val (.int (own_lo q2)), .val (.int (own_hi q3)), .val (.int (own_lo q3)), .val (.ref b119), .val (.ref b123), .unset, .unset, .unset] [(.int (0 : Int32))])) t → Steps p.tables e below (s₁.setTop (entryFrame m #[(.int p0), (.long q1), (.long q2), (.long q3)] maxLocals)) t := fun t kt => by
          refine pre128 _ ?_
          show Steps p.tables e below (T123.setTop (mkF m 79 #[.val (.int p0), .val (.long q1), .second, .val (.long q2), .second, .val (.long q3), .second, .val (.int (2 : Int32)), .val (.int (own_hi q1)), .val (.int (own_lo q1)), .val (.int (own_hi q2)), .val (.int (own_lo q2)), .val (.int (own_hi q3)), .val (.int (own_lo q3)), .val (.ref b119), .val (.ref b123), .unset, .unset, .unset] [(.int (own_lo q1)), (.int (own_hi q1))])) _
          refine XS.icmpYes X123.here hx rfl (pc0 := 79) (pc' := 112) rfl (hb hby at_79) rfl (tlt (c127 : (own_lo q1) < (own_hi q1))).2.2.1 (by decide) (by decide) ?_
          show Steps p.tables e below (T123.setTop (mkF m 112 #[.val (.int p0), .val (.long q1), .second, .val (.long q2), .second, .val (.long q3), .second, .val (.int (2 : Int32)), .val (.int (own_hi q1)), .val (.int (own_lo q1)), .val (.int (own_hi q2)), .val (.int (own_lo q2)), .val (.int (own_hi q3)), .val (.int (own_lo q3)), .val (.ref b119), .val (.ref b123), .unset, .unset, .unset] [])) _
          refine XS.iconst X123.here hx rfl (hb hby at_112) ?_
          exact kt
        rw [show (own_nw [((own_hi q1), (own_lo q1)), ((own_hi q2), (own_lo q2))]) = (0 : Int32) from by simp only [own_nw, c127, if_true, if_false]] at kt
        exact pre129 _ kt
      · have pre131 : ∀ t, Steps p.tables e below (T123.setTop (mkF m 92 #[.val (.int p0), .val (.long q1), .second, .val (.long q2), .second, .val (.long q3), .second, .val (.int (2 : Int32)), .val (.int (own_hi q1)), .val (.int (own_lo q1)), .val (.int (own_hi q2)), .val (.int (own_lo q2)), .val (.int (own_hi q3)), .val (.int (own_lo q3)), .val (.ref b119), .val (.ref b123), .unset, .unset, .unset] [(.int (own_lo q2)), (.int (own_hi q2))])) t → Steps p.tables e below (s₁.setTop (entryFrame m #[(.int p0), (.long q1), (.long q2), (.long q3)] maxLocals)) t := fun t kt => by
          refine pre128 _ ?_
          show Steps p.tables e below (T123.setTop (mkF m 79 #[.val (.int p0), .val (.long q1), .second, .val (.long q2), .second, .val (.long q3), .second, .val (.int (2 : Int32)), .val (.int (own_hi q1)), .val (.int (own_lo q1)), .val (.int (own_hi q2)), .val (.int (own_lo q2)), .val (.int (own_hi q3)), .val (.int (own_lo q3)), .val (.ref b119), .val (.ref b123), .unset, .unset, .unset] [(.int (own_lo q1)), (.int (own_hi q1))])) _
          refine XS.icmpNo X123.here hx rfl (hb hby at_79) rfl (flt (c127 : ¬ ((own_lo q1) < (own_hi q1)))).2.2.1 ?_
          show Steps p.tables e below (T123.setTop (mkF m 82 #[.val (.int p0), .val (.long q1), .second, .val (.long q2), .second, .val (.long q3), .second, .val (.int (2 : Int32)), .val (.int (own_hi q1)), .val (.int (own_lo q1)), .val (.int (own_hi q2)), .val (.int (own_lo q2)), .val (.int (own_hi q3)), .val (.int (own_lo q3)), .val (.ref b119), .val (.ref b123), .unset, .unset, .unset] [])) _
          refine XS.iload X123.here hx rfl (hb hby at_82) rfl ?_
          show Steps p.tables e below (T123.setTop (mkF m 84 #[.val (.int p0), .val (.long q1), .second, .val (.long q2), .second, .val (.long q3), .second, .val (.int (2 : Int32)), .val (.int (own_hi q1)), .val (.int (own_lo q1)), .val (.int (own_hi q2)), .val (.int (own_lo q2)), .val (.int (own_hi q3)), .val (.int (own_lo q3)), .val (.ref b119), .val (.ref b123), .unset, .unset, .unset] [(.int (2 : Int32))])) _
          refine XS.iconst X123.here hx rfl (hb hby at_84) ?_
          show Steps p.tables e below (T123.setTop (mkF m 85 #[.val (.int p0), .val (.long q1), .second, .val (.long q2), .second, .val (.long q3), .second, .val (.int (2 : Int32)), .val (.int (own_hi q1)), .val (.int (own_lo q1)), .val (.int (own_hi q2)), .val (.int (own_lo q2)), .val (.int (own_hi q3)), .val (.int (own_lo q3)), .val (.ref b119), .val (.ref b123), .unset, .unset, .unset] [(.int (2 : Int32)), (.int (2 : Int32))])) _
          refine XS.icmpNo X123.here hx rfl (hb hby at_85) rfl (flt (by decide : ¬ ((2 : Int32) < (2 : Int32)))).1 ?_
          show Steps p.tables e below (T123.setTop (mkF m 88 #[.val (.int p0), .val (.long q1), .second, .val (.long q2), .second, .val (.long q3), .second, .val (.int (2 : Int32)), .val (.int (own_hi q1)), .val (.int (own_lo q1)), .val (.int (own_hi q2)), .val (.int (own_lo q2)), .val (.int (own_hi q3)), .val (.int (own_lo q3)), .val (.ref b119), .val (.ref b123), .unset, .unset, .unset] [])) _
          refine XS.iload X123.here hx rfl (hb hby at_88) rfl ?_
          show Steps p.tables e below (T123.setTop (mkF m 90 #[.val (.int p0), .val (.long q1), .second, .val (.long q2), .second, .val (.long q3), .second, .val (.int (2 : Int32)), .val (.int (own_hi q1)), .val (.int (own_lo q1)), .val (.int (own_hi q2)), .val (.int (own_lo q2)), .val (.int (own_hi q3)), .val (.int (own_lo q3)), .val (.ref b119), .val (.ref b123), .unset, .unset, .unset] [(.int (own_hi q2))])) _
          refine XS.iload X123.here hx rfl (hb hby at_90) rfl ?_
          exact kt
        by_cases c130 : (own_lo q2) < (own_hi q2)
        · have pre132 : ∀ t, Steps p.tables e below (T123.setTop (mkF m 113 #[.val (.int p0), .val (.long q1), .second, .val (.long q2), .second, .val (.long q3), .second, .val (.int (2 : Int32)), .val (.int (own_hi q1)), .val (.int (own_lo q1)), .val (.int (own_hi q2)), .val (.int (own_lo q2)), .val (.int (own_hi q3)), .val (.int (own_lo q3)), .val (.ref b119), .val (.ref b123), .unset, .unset, .unset] [(.int (0 : Int32))])) t → Steps p.tables e below (s₁.setTop (entryFrame m #[(.int p0), (.long q1), (.long q2), (.long q3)] maxLocals)) t := fun t kt => by
            refine pre131 _ ?_
            show Steps p.tables e below (T123.setTop (mkF m 92 #[.val (.int p0), .val (.long q1), .second, .val (.long q2), .second, .val (.long q3), .second, .val (.int (2 : Int32)), .val (.int (own_hi q1)), .val (.int (own_lo q1)), .val (.int (own_hi q2)), .val (.int (own_lo q2)), .val (.int (own_hi q3)), .val (.int (own_lo q3)), .val (.ref b119), .val (.ref b123), .unset, .unset, .unset] [(.int (own_lo q2)), (.int (own_hi q2))])) _
            refine XS.icmpYes X123.here hx rfl (pc0 := 92) (pc' := 112) rfl (hb hby at_92) rfl (tlt (c130 : (own_lo q2) < (own_hi q2))).2.2.1 (by decide) (by decide) ?_
            show Steps p.tables e below (T123.setTop (mkF m 112 #[.val (.int p0), .val (.long q1), .second, .val (.long q2), .second, .val (.long q3), .second, .val (.int (2 : Int32)), .val (.int (own_hi q1)), .val (.int (own_lo q1)), .val (.int (own_hi q2)), .val (.int (own_lo q2)), .val (.int (own_hi q3)), .val (.int (own_lo q3)), .val (.ref b119), .val (.ref b123), .unset, .unset, .unset] [])) _
            refine XS.iconst X123.here hx rfl (hb hby at_112) ?_
            exact kt
          rw [show (own_nw [((own_hi q1), (own_lo q1)), ((own_hi q2), (own_lo q2))]) = (0 : Int32) from by simp only [own_nw, c127, c130, if_true, if_false]] at kt
          exact pre132 _ kt
        · have pre133 : ∀ t, Steps p.tables e below (T123.setTop (mkF m 113 #[.val (.int p0), .val (.long q1), .second, .val (.long q2), .second, .val (.long q3), .second, .val (.int (2 : Int32)), .val (.int (own_hi q1)), .val (.int (own_lo q1)), .val (.int (own_hi q2)), .val (.int (own_lo q2)), .val (.int (own_hi q3)), .val (.int (own_lo q3)), .val (.ref b119), .val (.ref b123), .unset, .unset, .unset] [(.int (1 : Int32))])) t → Steps p.tables e below (s₁.setTop (entryFrame m #[(.int p0), (.long q1), (.long q2), (.long q3)] maxLocals)) t := fun t kt => by
            refine pre131 _ ?_
            show Steps p.tables e below (T123.setTop (mkF m 92 #[.val (.int p0), .val (.long q1), .second, .val (.long q2), .second, .val (.long q3), .second, .val (.int (2 : Int32)), .val (.int (own_hi q1)), .val (.int (own_lo q1)), .val (.int (own_hi q2)), .val (.int (own_lo q2)), .val (.int (own_hi q3)), .val (.int (own_lo q3)), .val (.ref b119), .val (.ref b123), .unset, .unset, .unset] [(.int (own_lo q2)), (.int (own_hi q2))])) _
            refine XS.icmpNo X123.here hx rfl (hb hby at_92) rfl (flt (c130 : ¬ ((own_lo q2) < (own_hi q2)))).2.2.1 ?_
            show Steps p.tables e below (T123.setTop (mkF m 95 #[.val (.int p0), .val (.long q1), .second, .val (.long q2), .second, .val (.long q3), .second, .val (.int (2 : Int32)), .val (.int (own_hi q1)), .val (.int (own_lo q1)), .val (.int (own_hi q2)), .val (.int (own_lo q2)), .val (.int (own_hi q3)), .val (.int (own_lo q3)), .val (.ref b119), .val (.ref b123), .unset, .unset, .unset] [])) _
            refine XS.iload X123.here hx rfl (hb hby at_95) rfl ?_
            show Steps p.tables e below (T123.setTop (mkF m 97 #[.val (.int p0), .val (.long q1), .second, .val (.long q2), .second, .val (.long q3), .second, .val (.int (2 : Int32)), .val (.int (own_hi q1)), .val (.int (own_lo q1)), .val (.int (own_hi q2)), .val (.int (own_lo q2)), .val (.int (own_hi q3)), .val (.int (own_lo q3)), .val (.ref b119), .val (.ref b123), .unset, .unset, .unset] [(.int (2 : Int32))])) _
            refine XS.iconst X123.here hx rfl (hb hby at_97) ?_
            show Steps p.tables e below (T123.setTop (mkF m 98 #[.val (.int p0), .val (.long q1), .second, .val (.long q2), .second, .val (.long q3), .second, .val (.int (2 : Int32)), .val (.int (own_hi q1)), .val (.int (own_lo q1)), .val (.int (own_hi q2)), .val (.int (own_lo q2)), .val (.int (own_hi q3)), .val (.int (own_lo q3)), .val (.ref b119), .val (.ref b123), .unset, .unset, .unset] [(.int (3 : Int32)), (.int (2 : Int32))])) _
            refine XS.icmpYes X123.here hx rfl (pc0 := 98) (pc' := 108) rfl (hb hby at_98) rfl (tlt (by decide : (2 : Int32) < (3 : Int32))).1 (by decide) (by decide) ?_
            show Steps p.tables e below (T123.setTop (mkF m 108 #[.val (.int p0), .val (.long q1), .second, .val (.long q2), .second, .val (.long q3), .second, .val (.int (2 : Int32)), .val (.int (own_hi q1)), .val (.int (own_lo q1)), .val (.int (own_hi q2)), .val (.int (own_lo q2)), .val (.int (own_hi q3)), .val (.int (own_lo q3)), .val (.ref b119), .val (.ref b123), .unset, .unset, .unset] [])) _
            refine XS.iconst X123.here hx rfl (hb hby at_108) ?_
            show Steps p.tables e below (T123.setTop (mkF m 109 #[.val (.int p0), .val (.long q1), .second, .val (.long q2), .second, .val (.long q3), .second, .val (.int (2 : Int32)), .val (.int (own_hi q1)), .val (.int (own_lo q1)), .val (.int (own_hi q2)), .val (.int (own_lo q2)), .val (.int (own_hi q3)), .val (.int (own_lo q3)), .val (.ref b119), .val (.ref b123), .unset, .unset, .unset] [(.int (1 : Int32))])) _
            refine XS.goto X123.here hx rfl (pc0 := 109) (pc' := 113) rfl (hb hby at_109) (by decide) (by decide) ?_
            exact kt
          rw [show (own_nw [((own_hi q1), (own_lo q1)), ((own_hi q2), (own_lo q2))]) = (1 : Int32) from by simp only [own_nw, c127, c130, if_true, if_false]] at kt
          exact pre133 _ kt
    have pre134 : ∀ t, Steps p.tables e below (T123.setTop (mkF m 115 #[.val (.int p0), .val (.long q1), .second, .val (.long q2), .second, .val (.long q3), .second, .val (.int (2 : Int32)), .val (.int (own_hi q1)), .val (.int (own_lo q1)), .val (.int (own_hi q2)), .val (.int (own_lo q2)), .val (.int (own_hi q3)), .val (.int (own_lo q3)), .val (.ref b119), .val (.ref b123), .val (.int (own_nw [((own_hi q1), (own_lo q1)), ((own_hi q2), (own_lo q2))])), .unset, .unset] [])) t → Steps p.tables e below (s₁.setTop (entryFrame m #[(.int p0), (.long q1), (.long q2), (.long q3)] maxLocals)) t := fun t kt => by
      refine pre126 _ ?_
      show Steps p.tables e below (T123.setTop (mkF m 113 #[.val (.int p0), .val (.long q1), .second, .val (.long q2), .second, .val (.long q3), .second, .val (.int (2 : Int32)), .val (.int (own_hi q1)), .val (.int (own_lo q1)), .val (.int (own_hi q2)), .val (.int (own_lo q2)), .val (.int (own_hi q3)), .val (.int (own_lo q3)), .val (.ref b119), .val (.ref b123), .unset, .unset, .unset] [(.int (own_nw [((own_hi q1), (own_lo q1)), ((own_hi q2), (own_lo q2))]))])) _
      refine XS.istore X123.here hx rfl (hb hby at_113) rfl (l' := #[.val (.int p0), .val (.long q1), .second, .val (.long q2), .second, .val (.long q3), .second, .val (.int (2 : Int32)), .val (.int (own_hi q1)), .val (.int (own_lo q1)), .val (.int (own_hi q2)), .val (.int (own_lo q2)), .val (.int (own_hi q3)), .val (.int (own_lo q3)), .val (.ref b119), .val (.ref b123), .val (.int (own_nw [((own_hi q1), (own_lo q1)), ((own_hi q2), (own_lo q2))])), .unset, .unset]) rfl ?_
      exact kt
    have pre135 : ∀ t, Steps p.tables e below (T123.setTop (mkF m 159 #[.val (.int p0), .val (.long q1), .second, .val (.long q2), .second, .val (.long q3), .second, .val (.int (2 : Int32)), .val (.int (own_hi q1)), .val (.int (own_lo q1)), .val (.int (own_hi q2)), .val (.int (own_lo q2)), .val (.int (own_hi q3)), .val (.int (own_lo q3)), .val (.ref b119), .val (.ref b123), .val (.int (own_nw [((own_hi q1), (own_lo q1)), ((own_hi q2), (own_lo q2))])), .unset, .unset] [(.int (own_bt [((own_hi q1), (own_lo q1)), ((own_hi q2), (own_lo q2))]))])) t → Steps p.tables e below (s₁.setTop (entryFrame m #[(.int p0), (.long q1), (.long q2), (.long q3)] maxLocals)) t := fun t kt => by
      have pre137 : ∀ t, Steps p.tables e below (T123.setTop (mkF m 125 #[.val (.int p0), .val (.long q1), .second, .val (.long q2), .second, .val (.long q3), .second, .val (.int (2 : Int32)), .val (.int (own_hi q1)), .val (.int (own_lo q1)), .val (.int (own_hi q2)), .val (.int (own_lo q2)), .val (.int (own_hi q3)), .val (.int (own_lo q3)), .val (.ref b119), .val (.ref b123), .val (.int (own_nw [((own_hi q1), (own_lo q1)), ((own_hi q2), (own_lo q2))])), .unset, .unset] [(.int (own_lo q1)), (.int (own_hi q1))])) t → Steps p.tables e below (s₁.setTop (entryFrame m #[(.int p0), (.long q1), (.long q2), (.long q3)] maxLocals)) t := fun t kt => by
        refine pre134 _ ?_
        show Steps p.tables e below (T123.setTop (mkF m 115 #[.val (.int p0), .val (.long q1), .second, .val (.long q2), .second, .val (.long q3), .second, .val (.int (2 : Int32)), .val (.int (own_hi q1)), .val (.int (own_lo q1)), .val (.int (own_hi q2)), .val (.int (own_lo q2)), .val (.int (own_hi q3)), .val (.int (own_lo q3)), .val (.ref b119), .val (.ref b123), .val (.int (own_nw [((own_hi q1), (own_lo q1)), ((own_hi q2), (own_lo q2))])), .unset, .unset] [])) _
        refine XS.iload X123.here hx rfl (hb hby at_115) rfl ?_
        show Steps p.tables e below (T123.setTop (mkF m 117 #[.val (.int p0), .val (.long q1), .second, .val (.long q2), .second, .val (.long q3), .second, .val (.int (2 : Int32)), .val (.int (own_hi q1)), .val (.int (own_lo q1)), .val (.int (own_hi q2)), .val (.int (own_lo q2)), .val (.int (own_hi q3)), .val (.int (own_lo q3)), .val (.ref b119), .val (.ref b123), .val (.int (own_nw [((own_hi q1), (own_lo q1)), ((own_hi q2), (own_lo q2))])), .unset, .unset] [(.int (2 : Int32))])) _
        refine XS.iconst X123.here hx rfl (hb hby at_117) ?_
        show Steps p.tables e below (T123.setTop (mkF m 118 #[.val (.int p0), .val (.long q1), .second, .val (.long q2), .second, .val (.long q3), .second, .val (.int (2 : Int32)), .val (.int (own_hi q1)), .val (.int (own_lo q1)), .val (.int (own_hi q2)), .val (.int (own_lo q2)), .val (.int (own_hi q3)), .val (.int (own_lo q3)), .val (.ref b119), .val (.ref b123), .val (.int (own_nw [((own_hi q1), (own_lo q1)), ((own_hi q2), (own_lo q2))])), .unset, .unset] [(.int (1 : Int32)), (.int (2 : Int32))])) _
        refine XS.icmpNo X123.here hx rfl (hb hby at_118) rfl (flt (by decide : ¬ ((2 : Int32) < (1 : Int32)))).1 ?_
        show Steps p.tables e below (T123.setTop (mkF m 121 #[.val (.int p0), .val (.long q1), .second, .val (.long q2), .second, .val (.long q3), .second, .val (.int (2 : Int32)), .val (.int (own_hi q1)), .val (.int (own_lo q1)), .val (.int (own_hi q2)), .val (.int (own_lo q2)), .val (.int (own_hi q3)), .val (.int (own_lo q3)), .val (.ref b119), .val (.ref b123), .val (.int (own_nw [((own_hi q1), (own_lo q1)), ((own_hi q2), (own_lo q2))])), .unset, .unset] [])) _
        refine XS.iload X123.here hx rfl (hb hby at_121) rfl ?_
        show Steps p.tables e below (T123.setTop (mkF m 123 #[.val (.int p0), .val (.long q1), .second, .val (.long q2), .second, .val (.long q3), .second, .val (.int (2 : Int32)), .val (.int (own_hi q1)), .val (.int (own_lo q1)), .val (.int (own_hi q2)), .val (.int (own_lo q2)), .val (.int (own_hi q3)), .val (.int (own_lo q3)), .val (.ref b119), .val (.ref b123), .val (.int (own_nw [((own_hi q1), (own_lo q1)), ((own_hi q2), (own_lo q2))])), .unset, .unset] [(.int (own_hi q1))])) _
        refine XS.iload X123.here hx rfl (hb hby at_123) rfl ?_
        exact kt
      by_cases c136 : (own_hi q1) < (own_lo q1)
      · have pre138 : ∀ t, Steps p.tables e below (T123.setTop (mkF m 159 #[.val (.int p0), .val (.long q1), .second, .val (.long q2), .second, .val (.long q3), .second, .val (.int (2 : Int32)), .val (.int (own_hi q1)), .val (.int (own_lo q1)), .val (.int (own_hi q2)), .val (.int (own_lo q2)), .val (.int (own_hi q3)), .val (.int (own_lo q3)), .val (.ref b119), .val (.ref b123), .val (.int (own_nw [((own_hi q1), (own_lo q1)), ((own_hi q2), (own_lo q2))])), .unset, .unset] [(.int (1 : Int32))])) t → Steps p.tables e below (s₁.setTop (entryFrame m #[(.int p0), (.long q1), (.long q2), (.long q3)] maxLocals)) t := fun t kt => by
          refine pre137 _ ?_
          show Steps p.tables e below (T123.setTop (mkF m 125 #[.val (.int p0), .val (.long q1), .second, .val (.long q2), .second, .val (.long q3), .second, .val (.int (2 : Int32)), .val (.int (own_hi q1)), .val (.int (own_lo q1)), .val (.int (own_hi q2)), .val (.int (own_lo q2)), .val (.int (own_hi q3)), .val (.int (own_lo q3)), .val (.ref b119), .val (.ref b123), .val (.int (own_nw [((own_hi q1), (own_lo q1)), ((own_hi q2), (own_lo q2))])), .unset, .unset] [(.int (own_lo q1)), (.int (own_hi q1))])) _
          refine XS.icmpYes X123.here hx rfl (pc0 := 125) (pc' := 154) rfl (hb hby at_125) rfl (tlt (c136 : (own_hi q1) < (own_lo q1))).1 (by decide) (by decide) ?_
          show Steps p.tables e below (T123.setTop (mkF m 154 #[.val (.int p0), .val (.long q1), .second, .val (.long q2), .second, .val (.long q3), .second, .val (.int (2 : Int32)), .val (.int (own_hi q1)), .val (.int (own_lo q1)), .val (.int (own_hi q2)), .val (.int (own_lo q2)), .val (.int (own_hi q3)), .val (.int (own_lo q3)), .val (.ref b119), .val (.ref b123), .val (.int (own_nw [((own_hi q1), (own_lo q1)), ((own_hi q2), (own_lo q2))])), .unset, .unset] [])) _
          refine XS.iconst X123.here hx rfl (hb hby at_154) ?_
          show Steps p.tables e below (T123.setTop (mkF m 155 #[.val (.int p0), .val (.long q1), .second, .val (.long q2), .second, .val (.long q3), .second, .val (.int (2 : Int32)), .val (.int (own_hi q1)), .val (.int (own_lo q1)), .val (.int (own_hi q2)), .val (.int (own_lo q2)), .val (.int (own_hi q3)), .val (.int (own_lo q3)), .val (.ref b119), .val (.ref b123), .val (.int (own_nw [((own_hi q1), (own_lo q1)), ((own_hi q2), (own_lo q2))])), .unset, .unset] [(.int (1 : Int32))])) _
          refine XS.goto X123.here hx rfl (pc0 := 155) (pc' := 159) rfl (hb hby at_155) (by decide) (by decide) ?_
          exact kt
        rw [show (own_bt [((own_hi q1), (own_lo q1)), ((own_hi q2), (own_lo q2))]) = (1 : Int32) from by simp only [own_bt, c136, if_true, if_false]] at kt
        exact pre138 _ kt
      · have pre140 : ∀ t, Steps p.tables e below (T123.setTop (mkF m 138 #[.val (.int p0), .val (.long q1), .second, .val (.long q2), .second, .val (.long q3), .second, .val (.int (2 : Int32)), .val (.int (own_hi q1)), .val (.int (own_lo q1)), .val (.int (own_hi q2)), .val (.int (own_lo q2)), .val (.int (own_hi q3)), .val (.int (own_lo q3)), .val (.ref b119), .val (.ref b123), .val (.int (own_nw [((own_hi q1), (own_lo q1)), ((own_hi q2), (own_lo q2))])), .unset, .unset] [(.int (own_lo q2)), (.int (own_hi q2))])) t → Steps p.tables e below (s₁.setTop (entryFrame m #[(.int p0), (.long q1), (.long q2), (.long q3)] maxLocals)) t := fun t kt => by
          refine pre137 _ ?_
          show Steps p.tables e below (T123.setTop (mkF m 125 #[.val (.int p0), .val (.long q1), .second, .val (.long q2), .second, .val (.long q3), .second, .val (.int (2 : Int32)), .val (.int (own_hi q1)), .val (.int (own_lo q1)), .val (.int (own_hi q2)), .val (.int (own_lo q2)), .val (.int (own_hi q3)), .val (.int (own_lo q3)), .val (.ref b119), .val (.ref b123), .val (.int (own_nw [((own_hi q1), (own_lo q1)), ((own_hi q2), (own_lo q2))])), .unset, .unset] [(.int (own_lo q1)), (.int (own_hi q1))])) _
          refine XS.icmpNo X123.here hx rfl (hb hby at_125) rfl (flt (c136 : ¬ ((own_hi q1) < (own_lo q1)))).1 ?_
          show Steps p.tables e below (T123.setTop (mkF m 128 #[.val (.int p0), .val (.long q1), .second, .val (.long q2), .second, .val (.long q3), .second, .val (.int (2 : Int32)), .val (.int (own_hi q1)), .val (.int (own_lo q1)), .val (.int (own_hi q2)), .val (.int (own_lo q2)), .val (.int (own_hi q3)), .val (.int (own_lo q3)), .val (.ref b119), .val (.ref b123), .val (.int (own_nw [((own_hi q1), (own_lo q1)), ((own_hi q2), (own_lo q2))])), .unset, .unset] [])) _
          refine XS.iload X123.here hx rfl (hb hby at_128) rfl ?_
          show Steps p.tables e below (T123.setTop (mkF m 130 #[.val (.int p0), .val (.long q1), .second, .val (.long q2), .second, .val (.long q3), .second, .val (.int (2 : Int32)), .val (.int (own_hi q1)), .val (.int (own_lo q1)), .val (.int (own_hi q2)), .val (.int (own_lo q2)), .val (.int (own_hi q3)), .val (.int (own_lo q3)), .val (.ref b119), .val (.ref b123), .val (.int (own_nw [((own_hi q1), (own_lo q1)), ((own_hi q2), (own_lo q2))])), .unset, .unset] [(.int (2 : Int32))])) _
          refine XS.iconst X123.here hx rfl (hb hby at_130) ?_
          show Steps p.tables e below (T123.setTop (mkF m 131 #[.val (.int p0), .val (.long q1), .second, .val (.long q2), .second, .val (.long q3), .second, .val (.int (2 : Int32)), .val (.int (own_hi q1)), .val (.int (own_lo q1)), .val (.int (own_hi q2)), .val (.int (own_lo q2)), .val (.int (own_hi q3)), .val (.int (own_lo q3)), .val (.ref b119), .val (.ref b123), .val (.int (own_nw [((own_hi q1), (own_lo q1)), ((own_hi q2), (own_lo q2))])), .unset, .unset] [(.int (2 : Int32)), (.int (2 : Int32))])) _
          refine XS.icmpNo X123.here hx rfl (hb hby at_131) rfl (flt (by decide : ¬ ((2 : Int32) < (2 : Int32)))).1 ?_
          show Steps p.tables e below (T123.setTop (mkF m 134 #[.val (.int p0), .val (.long q1), .second, .val (.long q2), .second, .val (.long q3), .second, .val (.int (2 : Int32)), .val (.int (own_hi q1)), .val (.int (own_lo q1)), .val (.int (own_hi q2)), .val (.int (own_lo q2)), .val (.int (own_hi q3)), .val (.int (own_lo q3)), .val (.ref b119), .val (.ref b123), .val (.int (own_nw [((own_hi q1), (own_lo q1)), ((own_hi q2), (own_lo q2))])), .unset, .unset] [])) _
          refine XS.iload X123.here hx rfl (hb hby at_134) rfl ?_
          show Steps p.tables e below (T123.setTop (mkF m 136 #[.val (.int p0), .val (.long q1), .second, .val (.long q2), .second, .val (.long q3), .second, .val (.int (2 : Int32)), .val (.int (own_hi q1)), .val (.int (own_lo q1)), .val (.int (own_hi q2)), .val (.int (own_lo q2)), .val (.int (own_hi q3)), .val (.int (own_lo q3)), .val (.ref b119), .val (.ref b123), .val (.int (own_nw [((own_hi q1), (own_lo q1)), ((own_hi q2), (own_lo q2))])), .unset, .unset] [(.int (own_hi q2))])) _
          refine XS.iload X123.here hx rfl (hb hby at_136) rfl ?_
          exact kt
        by_cases c139 : (own_hi q2) < (own_lo q2)
        · have pre141 : ∀ t, Steps p.tables e below (T123.setTop (mkF m 159 #[.val (.int p0), .val (.long q1), .second, .val (.long q2), .second, .val (.long q3), .second, .val (.int (2 : Int32)), .val (.int (own_hi q1)), .val (.int (own_lo q1)), .val (.int (own_hi q2)), .val (.int (own_lo q2)), .val (.int (own_hi q3)), .val (.int (own_lo q3)), .val (.ref b119), .val (.ref b123), .val (.int (own_nw [((own_hi q1), (own_lo q1)), ((own_hi q2), (own_lo q2))])), .unset, .unset] [(.int (1 : Int32))])) t → Steps p.tables e below (s₁.setTop (entryFrame m #[(.int p0), (.long q1), (.long q2), (.long q3)] maxLocals)) t := fun t kt => by
            refine pre140 _ ?_
            show Steps p.tables e below (T123.setTop (mkF m 138 #[.val (.int p0), .val (.long q1), .second, .val (.long q2), .second, .val (.long q3), .second, .val (.int (2 : Int32)), .val (.int (own_hi q1)), .val (.int (own_lo q1)), .val (.int (own_hi q2)), .val (.int (own_lo q2)), .val (.int (own_hi q3)), .val (.int (own_lo q3)), .val (.ref b119), .val (.ref b123), .val (.int (own_nw [((own_hi q1), (own_lo q1)), ((own_hi q2), (own_lo q2))])), .unset, .unset] [(.int (own_lo q2)), (.int (own_hi q2))])) _
            refine XS.icmpYes X123.here hx rfl (pc0 := 138) (pc' := 154) rfl (hb hby at_138) rfl (tlt (c139 : (own_hi q2) < (own_lo q2))).1 (by decide) (by decide) ?_
            show Steps p.tables e below (T123.setTop (mkF m 154 #[.val (.int p0), .val (.long q1), .second, .val (.long q2), .second, .val (.long q3), .second, .val (.int (2 : Int32)), .val (.int (own_hi q1)), .val (.int (own_lo q1)), .val (.int (own_hi q2)), .val (.int (own_lo q2)), .val (.int (own_hi q3)), .val (.int (own_lo q3)), .val (.ref b119), .val (.ref b123), .val (.int (own_nw [((own_hi q1), (own_lo q1)), ((own_hi q2), (own_lo q2))])), .unset, .unset] [])) _
            refine XS.iconst X123.here hx rfl (hb hby at_154) ?_
            show Steps p.tables e below (T123.setTop (mkF m 155 #[.val (.int p0), .val (.long q1), .second, .val (.long q2), .second, .val (.long q3), .second, .val (.int (2 : Int32)), .val (.int (own_hi q1)), .val (.int (own_lo q1)), .val (.int (own_hi q2)), .val (.int (own_lo q2)), .val (.int (own_hi q3)), .val (.int (own_lo q3)), .val (.ref b119), .val (.ref b123), .val (.int (own_nw [((own_hi q1), (own_lo q1)), ((own_hi q2), (own_lo q2))])), .unset, .unset] [(.int (1 : Int32))])) _
            refine XS.goto X123.here hx rfl (pc0 := 155) (pc' := 159) rfl (hb hby at_155) (by decide) (by decide) ?_
            exact kt
          rw [show (own_bt [((own_hi q1), (own_lo q1)), ((own_hi q2), (own_lo q2))]) = (1 : Int32) from by simp only [own_bt, c136, c139, if_true, if_false]] at kt
          exact pre141 _ kt
        · have pre142 : ∀ t, Steps p.tables e below (T123.setTop (mkF m 159 #[.val (.int p0), .val (.long q1), .second, .val (.long q2), .second, .val (.long q3), .second, .val (.int (2 : Int32)), .val (.int (own_hi q1)), .val (.int (own_lo q1)), .val (.int (own_hi q2)), .val (.int (own_lo q2)), .val (.int (own_hi q3)), .val (.int (own_lo q3)), .val (.ref b119), .val (.ref b123), .val (.int (own_nw [((own_hi q1), (own_lo q1)), ((own_hi q2), (own_lo q2))])), .unset, .unset] [(.int (0 : Int32))])) t → Steps p.tables e below (s₁.setTop (entryFrame m #[(.int p0), (.long q1), (.long q2), (.long q3)] maxLocals)) t := fun t kt => by
            refine pre140 _ ?_
            show Steps p.tables e below (T123.setTop (mkF m 138 #[.val (.int p0), .val (.long q1), .second, .val (.long q2), .second, .val (.long q3), .second, .val (.int (2 : Int32)), .val (.int (own_hi q1)), .val (.int (own_lo q1)), .val (.int (own_hi q2)), .val (.int (own_lo q2)), .val (.int (own_hi q3)), .val (.int (own_lo q3)), .val (.ref b119), .val (.ref b123), .val (.int (own_nw [((own_hi q1), (own_lo q1)), ((own_hi q2), (own_lo q2))])), .unset, .unset] [(.int (own_lo q2)), (.int (own_hi q2))])) _
            refine XS.icmpNo X123.here hx rfl (hb hby at_138) rfl (flt (c139 : ¬ ((own_hi q2) < (own_lo q2)))).1 ?_
            show Steps p.tables e below (T123.setTop (mkF m 141 #[.val (.int p0), .val (.long q1), .second, .val (.long q2), .second, .val (.long q3), .second, .val (.int (2 : Int32)), .val (.int (own_hi q1)), .val (.int (own_lo q1)), .val (.int (own_hi q2)), .val (.int (own_lo q2)), .val (.int (own_hi q3)), .val (.int (own_lo q3)), .val (.ref b119), .val (.ref b123), .val (.int (own_nw [((own_hi q1), (own_lo q1)), ((own_hi q2), (own_lo q2))])), .unset, .unset] [])) _
            refine XS.iload X123.here hx rfl (hb hby at_141) rfl ?_
            show Steps p.tables e below (T123.setTop (mkF m 143 #[.val (.int p0), .val (.long q1), .second, .val (.long q2), .second, .val (.long q3), .second, .val (.int (2 : Int32)), .val (.int (own_hi q1)), .val (.int (own_lo q1)), .val (.int (own_hi q2)), .val (.int (own_lo q2)), .val (.int (own_hi q3)), .val (.int (own_lo q3)), .val (.ref b119), .val (.ref b123), .val (.int (own_nw [((own_hi q1), (own_lo q1)), ((own_hi q2), (own_lo q2))])), .unset, .unset] [(.int (2 : Int32))])) _
            refine XS.iconst X123.here hx rfl (hb hby at_143) ?_
            show Steps p.tables e below (T123.setTop (mkF m 144 #[.val (.int p0), .val (.long q1), .second, .val (.long q2), .second, .val (.long q3), .second, .val (.int (2 : Int32)), .val (.int (own_hi q1)), .val (.int (own_lo q1)), .val (.int (own_hi q2)), .val (.int (own_lo q2)), .val (.int (own_hi q3)), .val (.int (own_lo q3)), .val (.ref b119), .val (.ref b123), .val (.int (own_nw [((own_hi q1), (own_lo q1)), ((own_hi q2), (own_lo q2))])), .unset, .unset] [(.int (3 : Int32)), (.int (2 : Int32))])) _
            refine XS.icmpYes X123.here hx rfl (pc0 := 144) (pc' := 158) rfl (hb hby at_144) rfl (tlt (by decide : (2 : Int32) < (3 : Int32))).1 (by decide) (by decide) ?_
            show Steps p.tables e below (T123.setTop (mkF m 158 #[.val (.int p0), .val (.long q1), .second, .val (.long q2), .second, .val (.long q3), .second, .val (.int (2 : Int32)), .val (.int (own_hi q1)), .val (.int (own_lo q1)), .val (.int (own_hi q2)), .val (.int (own_lo q2)), .val (.int (own_hi q3)), .val (.int (own_lo q3)), .val (.ref b119), .val (.ref b123), .val (.int (own_nw [((own_hi q1), (own_lo q1)), ((own_hi q2), (own_lo q2))])), .unset, .unset] [])) _
            refine XS.iconst X123.here hx rfl (hb hby at_158) ?_
            exact kt
          rw [show (own_bt [((own_hi q1), (own_lo q1)), ((own_hi q2), (own_lo q2))]) = (0 : Int32) from by simp only [own_bt, c136, c139, if_true, if_false]] at kt
          exact pre142 _ kt
    have pre143 : ∀ t, Steps p.tables e below (T123.setTop (mkF m 161 #[.val (.int p0), .val (.long q1), .second, .val (.long q2), .second, .val (.long q3), .second, .val (.int (2 : Int32)), .val (.int (own_hi q1)), .val (.int (own_lo q1)), .val (.int (own_hi q2)), .val (.int (own_lo q2)), .val (.int (own_hi q3)), .val (.int (own_lo q3)), .val (.ref b119), .val (.ref b123), .val (.int (own_nw [((own_hi q1), (own_lo q1)), ((own_hi q2), (own_lo q2))])), .val (.int (own_bt [((own_hi q1), (own_lo q1)), ((own_hi q2), (own_lo q2))])), .unset] [])) t → Steps p.tables e below (s₁.setTop (entryFrame m #[(.int p0), (.long q1), (.long q2), (.long q3)] maxLocals)) t := fun t kt => by
      refine pre135 _ ?_
      show Steps p.tables e below (T123.setTop (mkF m 159 #[.val (.int p0), .val (.long q1), .second, .val (.long q2), .second, .val (.long q3), .second, .val (.int (2 : Int32)), .val (.int (own_hi q1)), .val (.int (own_lo q1)), .val (.int (own_hi q2)), .val (.int (own_lo q2)), .val (.int (own_hi q3)), .val (.int (own_lo q3)), .val (.ref b119), .val (.ref b123), .val (.int (own_nw [((own_hi q1), (own_lo q1)), ((own_hi q2), (own_lo q2))])), .unset, .unset] [(.int (own_bt [((own_hi q1), (own_lo q1)), ((own_hi q2), (own_lo q2))]))])) _
      refine XS.istore X123.here hx rfl (hb hby at_159) rfl (l' := #[.val (.int p0), .val (.long q1), .second, .val (.long q2), .second, .val (.long q3), .second, .val (.int (2 : Int32)), .val (.int (own_hi q1)), .val (.int (own_lo q1)), .val (.int (own_hi q2)), .val (.int (own_lo q2)), .val (.int (own_hi q3)), .val (.int (own_lo q3)), .val (.ref b119), .val (.ref b123), .val (.int (own_nw [((own_hi q1), (own_lo q1)), ((own_hi q2), (own_lo q2))])), .val (.int (own_bt [((own_hi q1), (own_lo q1)), ((own_hi q2), (own_lo q2))])), .unset]) rfl ?_
      exact kt
    have pre144 : ∀ t, Steps p.tables e below (T123.setTop (mkF m 176 #[.val (.int p0), .val (.long q1), .second, .val (.long q2), .second, .val (.long q3), .second, .val (.int (2 : Int32)), .val (.int (own_hi q1)), .val (.int (own_lo q1)), .val (.int (own_hi q2)), .val (.int (own_lo q2)), .val (.int (own_hi q3)), .val (.int (own_lo q3)), .val (.ref b119), .val (.ref b123), .val (.int (own_nw [((own_hi q1), (own_lo q1)), ((own_hi q2), (own_lo q2))])), .val (.int (own_bt [((own_hi q1), (own_lo q1)), ((own_hi q2), (own_lo q2))])), .unset] [(.int (own_ex (own_nw [((own_hi q1), (own_lo q1)), ((own_hi q2), (own_lo q2))]) (own_bt [((own_hi q1), (own_lo q1)), ((own_hi q2), (own_lo q2))])))])) t → Steps p.tables e below (s₁.setTop (entryFrame m #[(.int p0), (.long q1), (.long q2), (.long q3)] maxLocals)) t := fun t kt => by
      have pre146 : ∀ t, Steps p.tables e below (T123.setTop (mkF m 163 #[.val (.int p0), .val (.long q1), .second, .val (.long q2), .second, .val (.long q3), .second, .val (.int (2 : Int32)), .val (.int (own_hi q1)), .val (.int (own_lo q1)), .val (.int (own_hi q2)), .val (.int (own_lo q2)), .val (.int (own_hi q3)), .val (.int (own_lo q3)), .val (.ref b119), .val (.ref b123), .val (.int (own_nw [((own_hi q1), (own_lo q1)), ((own_hi q2), (own_lo q2))])), .val (.int (own_bt [((own_hi q1), (own_lo q1)), ((own_hi q2), (own_lo q2))])), .unset] [(.int (own_nw [((own_hi q1), (own_lo q1)), ((own_hi q2), (own_lo q2))]))])) t → Steps p.tables e below (s₁.setTop (entryFrame m #[(.int p0), (.long q1), (.long q2), (.long q3)] maxLocals)) t := fun t kt => by
        refine pre143 _ ?_
        show Steps p.tables e below (T123.setTop (mkF m 161 #[.val (.int p0), .val (.long q1), .second, .val (.long q2), .second, .val (.long q3), .second, .val (.int (2 : Int32)), .val (.int (own_hi q1)), .val (.int (own_lo q1)), .val (.int (own_hi q2)), .val (.int (own_lo q2)), .val (.int (own_hi q3)), .val (.int (own_lo q3)), .val (.ref b119), .val (.ref b123), .val (.int (own_nw [((own_hi q1), (own_lo q1)), ((own_hi q2), (own_lo q2))])), .val (.int (own_bt [((own_hi q1), (own_lo q1)), ((own_hi q2), (own_lo q2))])), .unset] [])) _
        refine XS.iload X123.here hx rfl (hb hby at_161) rfl ?_
        exact kt
      by_cases c145 : (own_nw [((own_hi q1), (own_lo q1)), ((own_hi q2), (own_lo q2))]) = (0 : Int32)
      · have pre147 : ∀ t, Steps p.tables e below (T123.setTop (mkF m 176 #[.val (.int p0), .val (.long q1), .second, .val (.long q2), .second, .val (.long q3), .second, .val (.int (2 : Int32)), .val (.int (own_hi q1)), .val (.int (own_lo q1)), .val (.int (own_hi q2)), .val (.int (own_lo q2)), .val (.int (own_hi q3)), .val (.int (own_lo q3)), .val (.ref b119), .val (.ref b123), .val (.int (own_nw [((own_hi q1), (own_lo q1)), ((own_hi q2), (own_lo q2))])), .val (.int (own_bt [((own_hi q1), (own_lo q1)), ((own_hi q2), (own_lo q2))])), .unset] [(.int (0 : Int32))])) t → Steps p.tables e below (s₁.setTop (entryFrame m #[(.int p0), (.long q1), (.long q2), (.long q3)] maxLocals)) t := fun t kt => by
          refine pre146 _ ?_
          show Steps p.tables e below (T123.setTop (mkF m 163 #[.val (.int p0), .val (.long q1), .second, .val (.long q2), .second, .val (.long q3), .second, .val (.int (2 : Int32)), .val (.int (own_hi q1)), .val (.int (own_lo q1)), .val (.int (own_hi q2)), .val (.int (own_lo q2)), .val (.int (own_hi q3)), .val (.int (own_lo q3)), .val (.ref b119), .val (.ref b123), .val (.int (own_nw [((own_hi q1), (own_lo q1)), ((own_hi q2), (own_lo q2))])), .val (.int (own_bt [((own_hi q1), (own_lo q1)), ((own_hi q2), (own_lo q2))])), .unset] [(.int (own_nw [((own_hi q1), (own_lo q1)), ((own_hi q2), (own_lo q2))]))])) _
          refine XS.ifYes X123.here hx rfl (pc0 := 163) (pc' := 175) rfl (hb hby at_163) rfl ((if0 _ _).trans (teq (c145 : (own_nw [((own_hi q1), (own_lo q1)), ((own_hi q2), (own_lo q2))]) = (0 : Int32))).1) (by decide) (by decide) ?_
          show Steps p.tables e below (T123.setTop (mkF m 175 #[.val (.int p0), .val (.long q1), .second, .val (.long q2), .second, .val (.long q3), .second, .val (.int (2 : Int32)), .val (.int (own_hi q1)), .val (.int (own_lo q1)), .val (.int (own_hi q2)), .val (.int (own_lo q2)), .val (.int (own_hi q3)), .val (.int (own_lo q3)), .val (.ref b119), .val (.ref b123), .val (.int (own_nw [((own_hi q1), (own_lo q1)), ((own_hi q2), (own_lo q2))])), .val (.int (own_bt [((own_hi q1), (own_lo q1)), ((own_hi q2), (own_lo q2))])), .unset] [])) _
          refine XS.iconst X123.here hx rfl (hb hby at_175) ?_
          exact kt
        rw [show (own_ex (own_nw [((own_hi q1), (own_lo q1)), ((own_hi q2), (own_lo q2))]) (own_bt [((own_hi q1), (own_lo q1)), ((own_hi q2), (own_lo q2))])) = (0 : Int32) from by simp only [own_ex, c145, if_true, if_false]] at kt
        exact pre147 _ kt
      · have pre149 : ∀ t, Steps p.tables e below (T123.setTop (mkF m 168 #[.val (.int p0), .val (.long q1), .second, .val (.long q2), .second, .val (.long q3), .second, .val (.int (2 : Int32)), .val (.int (own_hi q1)), .val (.int (own_lo q1)), .val (.int (own_hi q2)), .val (.int (own_lo q2)), .val (.int (own_hi q3)), .val (.int (own_lo q3)), .val (.ref b119), .val (.ref b123), .val (.int (own_nw [((own_hi q1), (own_lo q1)), ((own_hi q2), (own_lo q2))])), .val (.int (own_bt [((own_hi q1), (own_lo q1)), ((own_hi q2), (own_lo q2))])), .unset] [(.int (own_bt [((own_hi q1), (own_lo q1)), ((own_hi q2), (own_lo q2))]))])) t → Steps p.tables e below (s₁.setTop (entryFrame m #[(.int p0), (.long q1), (.long q2), (.long q3)] maxLocals)) t := fun t kt => by
          refine pre146 _ ?_
          show Steps p.tables e below (T123.setTop (mkF m 163 #[.val (.int p0), .val (.long q1), .second, .val (.long q2), .second, .val (.long q3), .second, .val (.int (2 : Int32)), .val (.int (own_hi q1)), .val (.int (own_lo q1)), .val (.int (own_hi q2)), .val (.int (own_lo q2)), .val (.int (own_hi q3)), .val (.int (own_lo q3)), .val (.ref b119), .val (.ref b123), .val (.int (own_nw [((own_hi q1), (own_lo q1)), ((own_hi q2), (own_lo q2))])), .val (.int (own_bt [((own_hi q1), (own_lo q1)), ((own_hi q2), (own_lo q2))])), .unset] [(.int (own_nw [((own_hi q1), (own_lo q1)), ((own_hi q2), (own_lo q2))]))])) _
          refine XS.ifNo X123.here hx rfl (hb hby at_163) rfl ((if0 _ _).trans (feq (c145 : ¬ ((own_nw [((own_hi q1), (own_lo q1)), ((own_hi q2), (own_lo q2))]) = (0 : Int32)))).1) ?_
          show Steps p.tables e below (T123.setTop (mkF m 166 #[.val (.int p0), .val (.long q1), .second, .val (.long q2), .second, .val (.long q3), .second, .val (.int (2 : Int32)), .val (.int (own_hi q1)), .val (.int (own_lo q1)), .val (.int (own_hi q2)), .val (.int (own_lo q2)), .val (.int (own_hi q3)), .val (.int (own_lo q3)), .val (.ref b119), .val (.ref b123), .val (.int (own_nw [((own_hi q1), (own_lo q1)), ((own_hi q2), (own_lo q2))])), .val (.int (own_bt [((own_hi q1), (own_lo q1)), ((own_hi q2), (own_lo q2))])), .unset] [])) _
          refine XS.iload X123.here hx rfl (hb hby at_166) rfl ?_
          exact kt
        by_cases c148 : (own_bt [((own_hi q1), (own_lo q1)), ((own_hi q2), (own_lo q2))]) = (0 : Int32)
        · have pre150 : ∀ t, Steps p.tables e below (T123.setTop (mkF m 176 #[.val (.int p0), .val (.long q1), .second, .val (.long q2), .second, .val (.long q3), .second, .val (.int (2 : Int32)), .val (.int (own_hi q1)), .val (.int (own_lo q1)), .val (.int (own_hi q2)), .val (.int (own_lo q2)), .val (.int (own_hi q3)), .val (.int (own_lo q3)), .val (.ref b119), .val (.ref b123), .val (.int (own_nw [((own_hi q1), (own_lo q1)), ((own_hi q2), (own_lo q2))])), .val (.int (own_bt [((own_hi q1), (own_lo q1)), ((own_hi q2), (own_lo q2))])), .unset] [(.int (0 : Int32))])) t → Steps p.tables e below (s₁.setTop (entryFrame m #[(.int p0), (.long q1), (.long q2), (.long q3)] maxLocals)) t := fun t kt => by
            refine pre149 _ ?_
            show Steps p.tables e below (T123.setTop (mkF m 168 #[.val (.int p0), .val (.long q1), .second, .val (.long q2), .second, .val (.long q3), .second, .val (.int (2 : Int32)), .val (.int (own_hi q1)), .val (.int (own_lo q1)), .val (.int (own_hi q2)), .val (.int (own_lo q2)), .val (.int (own_hi q3)), .val (.int (own_lo q3)), .val (.ref b119), .val (.ref b123), .val (.int (own_nw [((own_hi q1), (own_lo q1)), ((own_hi q2), (own_lo q2))])), .val (.int (own_bt [((own_hi q1), (own_lo q1)), ((own_hi q2), (own_lo q2))])), .unset] [(.int (own_bt [((own_hi q1), (own_lo q1)), ((own_hi q2), (own_lo q2))]))])) _
            refine XS.ifYes X123.here hx rfl (pc0 := 168) (pc' := 175) rfl (hb hby at_168) rfl ((if0 _ _).trans (teq (c148 : (own_bt [((own_hi q1), (own_lo q1)), ((own_hi q2), (own_lo q2))]) = (0 : Int32))).1) (by decide) (by decide) ?_
            show Steps p.tables e below (T123.setTop (mkF m 175 #[.val (.int p0), .val (.long q1), .second, .val (.long q2), .second, .val (.long q3), .second, .val (.int (2 : Int32)), .val (.int (own_hi q1)), .val (.int (own_lo q1)), .val (.int (own_hi q2)), .val (.int (own_lo q2)), .val (.int (own_hi q3)), .val (.int (own_lo q3)), .val (.ref b119), .val (.ref b123), .val (.int (own_nw [((own_hi q1), (own_lo q1)), ((own_hi q2), (own_lo q2))])), .val (.int (own_bt [((own_hi q1), (own_lo q1)), ((own_hi q2), (own_lo q2))])), .unset] [])) _
            refine XS.iconst X123.here hx rfl (hb hby at_175) ?_
            exact kt
          rw [show (own_ex (own_nw [((own_hi q1), (own_lo q1)), ((own_hi q2), (own_lo q2))]) (own_bt [((own_hi q1), (own_lo q1)), ((own_hi q2), (own_lo q2))])) = (0 : Int32) from by simp only [own_ex, c145, c148, if_true, if_false]] at kt
          exact pre150 _ kt
        · have pre151 : ∀ t, Steps p.tables e below (T123.setTop (mkF m 176 #[.val (.int p0), .val (.long q1), .second, .val (.long q2), .second, .val (.long q3), .second, .val (.int (2 : Int32)), .val (.int (own_hi q1)), .val (.int (own_lo q1)), .val (.int (own_hi q2)), .val (.int (own_lo q2)), .val (.int (own_hi q3)), .val (.int (own_lo q3)), .val (.ref b119), .val (.ref b123), .val (.int (own_nw [((own_hi q1), (own_lo q1)), ((own_hi q2), (own_lo q2))])), .val (.int (own_bt [((own_hi q1), (own_lo q1)), ((own_hi q2), (own_lo q2))])), .unset] [(.int (1 : Int32))])) t → Steps p.tables e below (s₁.setTop (entryFrame m #[(.int p0), (.long q1), (.long q2), (.long q3)] maxLocals)) t := fun t kt => by
            refine pre149 _ ?_
            show Steps p.tables e below (T123.setTop (mkF m 168 #[.val (.int p0), .val (.long q1), .second, .val (.long q2), .second, .val (.long q3), .second, .val (.int (2 : Int32)), .val (.int (own_hi q1)), .val (.int (own_lo q1)), .val (.int (own_hi q2)), .val (.int (own_lo q2)), .val (.int (own_hi q3)), .val (.int (own_lo q3)), .val (.ref b119), .val (.ref b123), .val (.int (own_nw [((own_hi q1), (own_lo q1)), ((own_hi q2), (own_lo q2))])), .val (.int (own_bt [((own_hi q1), (own_lo q1)), ((own_hi q2), (own_lo q2))])), .unset] [(.int (own_bt [((own_hi q1), (own_lo q1)), ((own_hi q2), (own_lo q2))]))])) _
            refine XS.ifNo X123.here hx rfl (hb hby at_168) rfl ((if0 _ _).trans (feq (c148 : ¬ ((own_bt [((own_hi q1), (own_lo q1)), ((own_hi q2), (own_lo q2))]) = (0 : Int32)))).1) ?_
            show Steps p.tables e below (T123.setTop (mkF m 171 #[.val (.int p0), .val (.long q1), .second, .val (.long q2), .second, .val (.long q3), .second, .val (.int (2 : Int32)), .val (.int (own_hi q1)), .val (.int (own_lo q1)), .val (.int (own_hi q2)), .val (.int (own_lo q2)), .val (.int (own_hi q3)), .val (.int (own_lo q3)), .val (.ref b119), .val (.ref b123), .val (.int (own_nw [((own_hi q1), (own_lo q1)), ((own_hi q2), (own_lo q2))])), .val (.int (own_bt [((own_hi q1), (own_lo q1)), ((own_hi q2), (own_lo q2))])), .unset] [])) _
            refine XS.iconst X123.here hx rfl (hb hby at_171) ?_
            show Steps p.tables e below (T123.setTop (mkF m 172 #[.val (.int p0), .val (.long q1), .second, .val (.long q2), .second, .val (.long q3), .second, .val (.int (2 : Int32)), .val (.int (own_hi q1)), .val (.int (own_lo q1)), .val (.int (own_hi q2)), .val (.int (own_lo q2)), .val (.int (own_hi q3)), .val (.int (own_lo q3)), .val (.ref b119), .val (.ref b123), .val (.int (own_nw [((own_hi q1), (own_lo q1)), ((own_hi q2), (own_lo q2))])), .val (.int (own_bt [((own_hi q1), (own_lo q1)), ((own_hi q2), (own_lo q2))])), .unset] [(.int (1 : Int32))])) _
            refine XS.goto X123.here hx rfl (pc0 := 172) (pc' := 176) rfl (hb hby at_172) (by decide) (by decide) ?_
            exact kt
          rw [show (own_ex (own_nw [((own_hi q1), (own_lo q1)), ((own_hi q2), (own_lo q2))]) (own_bt [((own_hi q1), (own_lo q1)), ((own_hi q2), (own_lo q2))])) = (1 : Int32) from by simp only [own_ex, c145, c148, if_true, if_false]] at kt
          exact pre151 _ kt
    have f152 := (Va119.keep K123 nin0)
    have z153 : n0 ≤ T123.heap.size := (Nat.le_trans z121 K123.1)
    have pre154 : ∀ t, Steps p.tables e below (T123.setTop (mkF m 182 #[.val (.int p0), .val (.long q1), .second, .val (.long q2), .second, .val (.long q3), .second, .val (.int (2 : Int32)), .val (.int (own_hi q1)), .val (.int (own_lo q1)), .val (.int (own_hi q2)), .val (.int (own_lo q2)), .val (.int (own_hi q3)), .val (.int (own_lo q3)), .val (.ref b119), .val (.ref b123), .val (.int (own_nw [((own_hi q1), (own_lo q1)), ((own_hi q2), (own_lo q2))])), .val (.int (own_bt [((own_hi q1), (own_lo q1)), ((own_hi q2), (own_lo q2))])), .val (.int (own_ex (own_nw [((own_hi q1), (own_lo q1)), ((own_hi q2), (own_lo q2))]) (own_bt [((own_hi q1), (own_lo q1)), ((own_hi q2), (own_lo q2))])))] [(.ref b123), (.ref b119)])) t → Steps p.tables e below (s₁.setTop (entryFrame m #[(.int p0), (.long q1), (.long q2), (.long q3)] maxLocals)) t := fun t kt => by
      refine pre144 _ ?_
      show Steps p.tables e below (T123.setTop (mkF m 176 #[.val (.int p0), .val (.long q1), .second, .val (.long q2), .second, .val (.long q3), .second, .val (.int (2 : Int32)), .val (.int (own_hi q1)), .val (.int (own_lo q1)), .val (.int (own_hi q2)), .val (.int (own_lo q2)), .val (.int (own_hi q3)), .val (.int (own_lo q3)), .val (.ref b119), .val (.ref b123), .val (.int (own_nw [((own_hi q1), (own_lo q1)), ((own_hi q2), (own_lo q2))])), .val (.int (own_bt [((own_hi q1), (own_lo q1)), ((own_hi q2), (own_lo q2))])), .unset] [(.int (own_ex (own_nw [((own_hi q1), (own_lo q1)), ((own_hi q2), (own_lo q2))]) (own_bt [((own_hi q1), (own_lo q1)), ((own_hi q2), (own_lo q2))])))])) _
      refine XS.istore X123.here hx rfl (hb hby at_176) rfl (l' := #[.val (.int p0), .val (.long q1), .second, .val (.long q2), .second, .val (.long q3), .second, .val (.int (2 : Int32)), .val (.int (own_hi q1)), .val (.int (own_lo q1)), .val (.int (own_hi q2)), .val (.int (own_lo q2)), .val (.int (own_hi q3)), .val (.int (own_lo q3)), .val (.ref b119), .val (.ref b123), .val (.int (own_nw [((own_hi q1), (own_lo q1)), ((own_hi q2), (own_lo q2))])), .val (.int (own_bt [((own_hi q1), (own_lo q1)), ((own_hi q2), (own_lo q2))])), .val (.int (own_ex (own_nw [((own_hi q1), (own_lo q1)), ((own_hi q2), (own_lo q2))]) (own_bt [((own_hi q1), (own_lo q1)), ((own_hi q2), (own_lo q2))])))]) rfl ?_
      show Steps p.tables e below (T123.setTop (mkF m 178 #[.val (.int p0), .val (.long q1), .second, .val (.long q2), .second, .val (.long q3), .second, .val (.int (2 : Int32)), .val (.int (own_hi q1)), .val (.int (own_lo q1)), .val (.int (own_hi q2)), .val (.int (own_lo q2)), .val (.int (own_hi q3)), .val (.int (own_lo q3)), .val (.ref b119), .val (.ref b123), .val (.int (own_nw [((own_hi q1), (own_lo q1)), ((own_hi q2), (own_lo q2))])), .val (.int (own_bt [((own_hi q1), (own_lo q1)), ((own_hi q2), (own_lo q2))])), .val (.int (own_ex (own_nw [((own_hi q1), (own_lo q1)), ((own_hi q2), (own_lo q2))]) (own_bt [((own_hi q1), (own_lo q1)), ((own_hi q2), (own_lo q2))])))] [])) _
      refine XS.aload X123.here hx rfl (hb hby at_178) rfl rfl ?_
      show Steps p.tables e below (T123.setTop (mkF m 180 #[.val (.int p0), .val (.long q1), .second, .val (.long q2), .second, .val (.long q3), .second, .val (.int (2 : Int32)), .val (.int (own_hi q1)), .val (.int (own_lo q1)), .val (.int (own_hi q2)), .val (.int (own_lo q2)), .val (.int (own_hi q3)), .val (.int (own_lo q3)), .val (.ref b119), .val (.ref b123), .val (.int (own_nw [((own_hi q1), (own_lo q1)), ((own_hi q2), (own_lo q2))])), .val (.int (own_bt [((own_hi q1), (own_lo q1)), ((own_hi q2), (own_lo q2))])), .val (.int (own_ex (own_nw [((own_hi q1), (own_lo q1)), ((own_hi q2), (own_lo q2))]) (own_bt [((own_hi q1), (own_lo q1)), ((own_hi q2), (own_lo q2))])))] [(.ref b119)])) _
      refine XS.aload X123.here hx rfl (hb hby at_180) rfl rfl ?_
      exact kt
    obtain ⟨_, _, ⟨T155, L155, kc155, nc155⟩, -, X155, ⟨Lc155, hQ155, l155, y155, z155⟩, st155⟩ := Jvm.LawKit.callS X123 hx (y := (⟨"com/example/tesserae/tesserae/core/Vectors", "dominates", "([D[D)Z"⟩ : MethodName)) hown (mvT hZ (hw _ (List.mem_of_getElem? (i := 11) rfl))) (mvT hZ (hw _ (List.mem_of_getElem? (i := 12) rfl))) (mvT hZ (hw _ (List.mem_of_getElem? (i := 13) rfl))) (mvT hZ (hw _ (List.mem_of_getElem? (i := 14) rfl))) (by decide) (backOf (W := 0) (rm4m2 l Z a0 hw [] b119 b123 kk119 kk123 (own_hi q1) (own_hi q2) (own_lo q1) (own_lo q2) T123.heap n0 z153 f152 Va123) hZ (hw _ (List.mem_of_getElem? (i := 14) rfl)) (hw _ (List.mem_of_getElem? (i := 13) rfl)) (by decide) (by decide)) (g := (mkF m 182 #[.val (.int p0), .val (.long q1), .second, .val (.long q2), .second, .val (.long q3), .second, .val (.int (2 : Int32)), .val (.int (own_hi q1)), .val (.int (own_lo q1)), .val (.int (own_hi q2)), .val (.int (own_lo q2)), .val (.int (own_hi q3)), .val (.int (own_lo q3)), .val (.ref b119), .val (.ref b123), .val (.int (own_nw [((own_hi q1), (own_lo q1)), ((own_hi q2), (own_lo q2))])), .val (.int (own_bt [((own_hi q1), (own_lo q1)), ((own_hi q2), (own_lo q2))])), .val (.int (own_ex (own_nw [((own_hi q1), (own_lo q1)), ((own_hi q2), (own_lo q2))]) (own_bt [((own_hi q1), (own_lo q1)), ((own_hi q2), (own_lo q2))])))] [(.ref b123), (.ref b119)])) rfl (by rw [hml]; rfl) (argsL := [(.ref b119), (.ref b123)]) (rest := []) (lenOf pd_2 rfl) rfl (by show 2 * 0 + _ ≤ _; exact Nat.le_of_eq rfl) (hb hby at_182) (fun _ _ => ⟨rfl, rfl, (by decide : 2 + 0 ≤ _), (by decide : 4 + 0 ≤ _)⟩)
    dsimp only [Pt.U, Pt.locs, Pt.cells, Pt.slots] at X155 l155 y155 z155 st155 hQ155
    subst l155 y155 z155
    obtain ⟨rfl, N155q, he155⟩ := hQ155
    have N155 := Fr.app N123 N155q
    have pre156 : ∀ t, Steps p.tables e below (T155.setTop (mkF m 185 #[.val (.int p0), .val (.long q1), .second, .val (.long q2), .second, .val (.long q3), .second, .val (.int (2 : Int32)), .val (.int (own_hi q1)), .val (.int (own_lo q1)), .val (.int (own_hi q2)), .val (.int (own_lo q2)), .val (.int (own_hi q3)), .val (.int (own_lo q3)), .val (.ref b119), .val (.ref b123), .val (.int (own_nw [((own_hi q1), (own_lo q1)), ((own_hi q2), (own_lo q2))])), .val (.int (own_bt [((own_hi q1), (own_lo q1)), ((own_hi q2), (own_lo q2))])), .val (.int (own_ex (own_nw [((own_hi q1), (own_lo q1)), ((own_hi q2), (own_lo q2))]) (own_bt [((own_hi q1), (own_lo q1)), ((own_hi q2), (own_lo q2))])))] [(.int (own_dom [((own_hi q1), (own_lo q1)), ((own_hi q2), (own_lo q2))] (0 : Int32)))])) t → Steps p.tables e below (s₁.setTop (entryFrame m #[(.int p0), (.long q1), (.long q2), (.long q3)] maxLocals)) t := fun t kt => pre154 _ (st155 _ kt)
    have pre157 : ∀ t, Steps p.tables e below (T155.setTop (mkF m 195 #[.val (.int p0), .val (.long q1), .second, .val (.long q2), .second, .val (.long q3), .second, .val (.int (2 : Int32)), .val (.int (own_hi q1)), .val (.int (own_lo q1)), .val (.int (own_hi q2)), .val (.int (own_lo q2)), .val (.int (own_hi q3)), .val (.int (own_lo q3)), .val (.ref b119), .val (.ref b123), .val (.int (own_nw [((own_hi q1), (own_lo q1)), ((own_hi q2), (own_lo q2))])), .val (.int (own_bt [((own_hi q1), (own_lo q1)), ((own_hi q2), (own_lo q2))])), .val (.int (own_ex (own_nw [((own_hi q1), (own_lo q1)), ((own_hi q2), (own_lo q2))]) (own_bt [((own_hi q1), (own_lo q1)), ((own_hi q2), (own_lo q2))])))] [(.int (1 : Int32))])) t → Steps p.tables e below (s₁.setTop (entryFrame m #[(.int p0), (.long q1), (.long q2), (.long q3)] maxLocals)) t := fun t kt => by
      refine pre156 _ ?_
      show Steps p.tables e below (T155.setTop (mkF m 185 #[.val (.int p0), .val (.long q1), .second, .val (.long q2), .second, .val (.long q3), .second, .val (.int (2 : Int32)), .val (.int (own_hi q1)), .val (.int (own_lo q1)), .val (.int (own_hi q2)), .val (.int (own_lo q2)), .val (.int (own_hi q3)), .val (.int (own_lo q3)), .val (.ref b119), .val (.ref b123), .val (.int (own_nw [((own_hi q1), (own_lo q1)), ((own_hi q2), (own_lo q2))])), .val (.int (own_bt [((own_hi q1), (own_lo q1)), ((own_hi q2), (own_lo q2))])), .val (.int (own_ex (own_nw [((own_hi q1), (own_lo q1)), ((own_hi q2), (own_lo q2))]) (own_bt [((own_hi q1), (own_lo q1)), ((own_hi q2), (own_lo q2))])))] [(.int (own_dom [((own_hi q1), (own_lo q1)), ((own_hi q2), (own_lo q2))] (0 : Int32)))])) _
      refine XS.iload X155.here hx rfl (hb hby at_185) rfl ?_
      show Steps p.tables e below (T155.setTop (mkF m 187 #[.val (.int p0), .val (.long q1), .second, .val (.long q2), .second, .val (.long q3), .second, .val (.int (2 : Int32)), .val (.int (own_hi q1)), .val (.int (own_lo q1)), .val (.int (own_hi q2)), .val (.int (own_lo q2)), .val (.int (own_hi q3)), .val (.int (own_lo q3)), .val (.ref b119), .val (.ref b123), .val (.int (own_nw [((own_hi q1), (own_lo q1)), ((own_hi q2), (own_lo q2))])), .val (.int (own_bt [((own_hi q1), (own_lo q1)), ((own_hi q2), (own_lo q2))])), .val (.int (own_ex (own_nw [((own_hi q1), (own_lo q1)), ((own_hi q2), (own_lo q2))]) (own_bt [((own_hi q1), (own_lo q1)), ((own_hi q2), (own_lo q2))])))] [(.int (own_ex (own_nw [((own_hi q1), (own_lo q1)), ((own_hi q2), (own_lo q2))]) (own_bt [((own_hi q1), (own_lo q1)), ((own_hi q2), (own_lo q2))]))), (.int (own_dom [((own_hi q1), (own_lo q1)), ((own_hi q2), (own_lo q2))] (0 : Int32)))])) _
      refine XS.icmpNo X155.here hx rfl (hb hby at_187) rfl (teq (own_law2 (own_hi q1) (own_lo q1) (own_hi q2) (own_lo q2) : (own_dom [((own_hi q1), (own_lo q1)), ((own_hi q2), (own_lo q2))] (0 : Int32)) = (own_ex (own_nw [((own_hi q1), (own_lo q1)), ((own_hi q2), (own_lo q2))]) (own_bt [((own_hi q1), (own_lo q1)), ((own_hi q2), (own_lo q2))])))).2 ?_
      show Steps p.tables e below (T155.setTop (mkF m 190 #[.val (.int p0), .val (.long q1), .second, .val (.long q2), .second, .val (.long q3), .second, .val (.int (2 : Int32)), .val (.int (own_hi q1)), .val (.int (own_lo q1)), .val (.int (own_hi q2)), .val (.int (own_lo q2)), .val (.int (own_hi q3)), .val (.int (own_lo q3)), .val (.ref b119), .val (.ref b123), .val (.int (own_nw [((own_hi q1), (own_lo q1)), ((own_hi q2), (own_lo q2))])), .val (.int (own_bt [((own_hi q1), (own_lo q1)), ((own_hi q2), (own_lo q2))])), .val (.int (own_ex (own_nw [((own_hi q1), (own_lo q1)), ((own_hi q2), (own_lo q2))]) (own_bt [((own_hi q1), (own_lo q1)), ((own_hi q2), (own_lo q2))])))] [])) _
      refine XS.iconst X155.here hx rfl (hb hby at_190) ?_
      show Steps p.tables e below (T155.setTop (mkF m 191 #[.val (.int p0), .val (.long q1), .second, .val (.long q2), .second, .val (.long q3), .second, .val (.int (2 : Int32)), .val (.int (own_hi q1)), .val (.int (own_lo q1)), .val (.int (own_hi q2)), .val (.int (own_lo q2)), .val (.int (own_hi q3)), .val (.int (own_lo q3)), .val (.ref b119), .val (.ref b123), .val (.int (own_nw [((own_hi q1), (own_lo q1)), ((own_hi q2), (own_lo q2))])), .val (.int (own_bt [((own_hi q1), (own_lo q1)), ((own_hi q2), (own_lo q2))])), .val (.int (own_ex (own_nw [((own_hi q1), (own_lo q1)), ((own_hi q2), (own_lo q2))]) (own_bt [((own_hi q1), (own_lo q1)), ((own_hi q2), (own_lo q2))])))] [(.int (1 : Int32))])) _
      refine XS.goto X155.here hx rfl (pc0 := 191) (pc' := 195) rfl (hb hby at_191) (by decide) (by decide) ?_
      exact kt
    obtain ⟨fs, hr, hrun, hended, hW, hsame⟩ := X155.leave (v := (some (.int (1 : Int32)))) (fun h => by rw [Bd.returns] at h; cases h)
    refine ⟨_, _, pre157 _ ?_, hrun, hended, _, _, rfl, ?_, ⟨_, rfl⟩, hW, hsame.mono (by decide) (by decide)⟩
    · show Steps p.tables e below (T155.setTop (mkF m 195 #[.val (.int p0), .val (.long q1), .second, .val (.long q2), .second, .val (.long q3), .second, .val (.int (2 : Int32)), .val (.int (own_hi q1)), .val (.int (own_lo q1)), .val (.int (own_hi q2)), .val (.int (own_lo q2)), .val (.int (own_hi q3)), .val (.int (own_lo q3)), .val (.ref b119), .val (.ref b123), .val (.int (own_nw [((own_hi q1), (own_lo q1)), ((own_hi q2), (own_lo q2))])), .val (.int (own_bt [((own_hi q1), (own_lo q1)), ((own_hi q2), (own_lo q2))])), .val (.int (own_ex (own_nw [((own_hi q1), (own_lo q1)), ((own_hi q2), (own_lo q2))]) (own_bt [((own_hi q1), (own_lo q1)), ((own_hi q2), (own_lo q2))])))] [(.int (1 : Int32))])) _
      exact retN X155 hx (t := .boolean) Bd.returns (by simp) (hb hby at_195) hr
    · show Q0 Z p0 q1 q2 q3 h0 n0 _ T155.heap _
      rw [he155]
      exact ⟨rfl, N155⟩
  · have pre158 : ∀ t, Steps p.tables e below (s₁.setTop (mkF m 6 #[.val (.int p0), .val (.long q1), .second, .val (.long q2), .second, .val (.long q3), .second, .val (.int (3 : Int32)), .unset, .unset, .unset, .unset, .unset, .unset, .unset, .unset, .unset, .unset, .unset] [(.long q1)])) t → Steps p.tables e below (s₁.setTop (entryFrame m #[(.int p0), (.long q1), (.long q2), (.long q3)] maxLocals)) t := fun t kt => by
      refine pre1 _ ?_
      show Steps p.tables e below (s₁.setTop (mkF m 3 #[.val (.int p0), .val (.long q1), .second, .val (.long q2), .second, .val (.long q3), .second, .unset, .unset, .unset, .unset, .unset, .unset, .unset, .unset, .unset, .unset, .unset, .unset] [(.int (own_n p0))])) _
      rw [show (own_n p0) = (3 : Int32) from hn]
      show Steps p.tables e below (s₁.setTop (mkF m 3 #[.val (.int p0), .val (.long q1), .second, .val (.long q2), .second, .val (.long q3), .second, .unset, .unset, .unset, .unset, .unset, .unset, .unset, .unset, .unset, .unset, .unset, .unset] [(.int (3 : Int32))])) _
      refine XS.istore X0.here hx rfl (hb hby at_3) rfl (l' := #[.val (.int p0), .val (.long q1), .second, .val (.long q2), .second, .val (.long q3), .second, .val (.int (3 : Int32)), .unset, .unset, .unset, .unset, .unset, .unset, .unset, .unset, .unset, .unset, .unset]) rfl ?_
      show Steps p.tables e below (s₁.setTop (mkF m 5 #[.val (.int p0), .val (.long q1), .second, .val (.long q2), .second, .val (.long q3), .second, .val (.int (3 : Int32)), .unset, .unset, .unset, .unset, .unset, .unset, .unset, .unset, .unset, .unset, .unset] [])) _
      refine XS.lloadN X0.here hx rfl (hb hby at_5) rfl ?_
      exact kt
    obtain ⟨_, _, ⟨T159, L159, kc159, nc159⟩, -, X159, ⟨Lc159, hQ159, l159, y159, z159⟩, st159⟩ := Jvm.LawKit.callS X0 hx (y := (⟨"com/example/tesserae/tesserae/core/VectorsDominatesPinLaw", "hi", "(J)I"⟩ : MethodName)) hown (mvT hZ (hw _ (List.mem_of_getElem? (i := 0) rfl))) (mvT hZ (hw _ (List.mem_of_getElem? (i := 1) rfl))) (mvT hZ (hw _ (List.mem_of_getElem? (i := 2) rfl))) (mvT hZ (hw _ (List.mem_of_getElem? (i := 3) rfl))) (by decide) (backOf (W := 0) (rm1 l Z a0 hw [] q1 h0 n0 Z0) hZ (hw _ (List.mem_of_getElem? (i := 3) rfl)) (hw _ (List.mem_of_getElem? (i := 2) rfl)) (by decide) (by decide)) (g := (mkF m 6 #[.val (.int p0), .val (.long q1), .second, .val (.long q2), .second, .val (.long q3), .second, .val (.int (3 : Int32)), .unset, .unset, .unset, .unset, .unset, .unset, .unset, .unset, .unset, .unset, .unset] [(.long q1)])) rfl (by rw [hml]; rfl) (argsL := [(.long q1)]) (rest := []) (lenOf pd_0 rfl) rfl (by show 2 * 0 + _ ≤ _; exact Nat.le_of_eq rfl) (hb hby at_6) (fun _ _ => ⟨rfl, e0, (by decide : 0 + 0 ≤ _), (by decide : 0 + 0 ≤ _)⟩)
    dsimp only [Pt.U, Pt.locs, Pt.cells, Pt.slots] at X159 l159 y159 z159 st159 hQ159
    subst l159 y159 z159
    obtain ⟨rfl, N159q, he159⟩ := hQ159
    have N159 := Fr.app N0 N159q
    have pre160 : ∀ t, Steps p.tables e below (T159.setTop (mkF m 9 #[.val (.int p0), .val (.long q1), .second, .val (.long q2), .second, .val (.long q3), .second, .val (.int (3 : Int32)), .unset, .unset, .unset, .unset, .unset, .unset, .unset, .unset, .unset, .unset, .unset] [(.int (own_hi q1))])) t → Steps p.tables e below (s₁.setTop (entryFrame m #[(.int p0), (.long q1), (.long q2), (.long q3)] maxLocals)) t := fun t kt => pre158 _ (st159 _ kt)
    have pre161 : ∀ t, Steps p.tables e below (T159.setTop (mkF m 12 #[.val (.int p0), .val (.long q1), .second, .val (.long q2), .second, .val (.long q3), .second, .val (.int (3 : Int32)), .val (.int (own_hi q1)), .unset, .unset, .unset, .unset, .unset, .unset, .unset, .unset, .unset, .unset] [(.long q1)])) t → Steps p.tables e below (s₁.setTop (entryFrame m #[(.int p0), (.long q1), (.long q2), (.long q3)] maxLocals)) t := fun t kt => by
      refine pre160 _ ?_
      show Steps p.tables e below (T159.setTop (mkF m 9 #[.val (.int p0), .val (.long q1), .second, .val (.long q2), .second, .val (.long q3), .second, .val (.int (3 : Int32)), .unset, .unset, .unset, .unset, .unset, .unset, .unset, .unset, .unset, .unset, .unset] [(.int (own_hi q1))])) _
      refine XS.istore X159.here hx rfl (hb hby at_9) rfl (l' := #[.val (.int p0), .val (.long q1), .second, .val (.long q2), .second, .val (.long q3), .second, .val (.int (3 : Int32)), .val (.int (own_hi q1)), .unset, .unset, .unset, .unset, .unset, .unset, .unset, .unset, .unset, .unset]) rfl ?_
      show Steps p.tables e below (T159.setTop (mkF m 11 #[.val (.int p0), .val (.long q1), .second, .val (.long q2), .second, .val (.long q3), .second, .val (.int (3 : Int32)), .val (.int (own_hi q1)), .unset, .unset, .unset, .unset, .unset, .unset, .unset, .unset, .unset, .unset] [])) _
      refine XS.lloadN X159.here hx rfl (hb hby at_11) rfl ?_
      exact kt
    obtain ⟨_, _, ⟨T162, L162, kc162, nc162⟩, -, X162, ⟨Lc162, hQ162, l162, y162, z162⟩, st162⟩ := Jvm.LawKit.callS X159 hx (y := (⟨"com/example/tesserae/tesserae/core/VectorsDominatesPinLaw", "lo", "(J)I"⟩ : MethodName)) hown (mvT hZ (hw _ (List.mem_of_getElem? (i := 4) rfl))) (mvT hZ (hw _ (List.mem_of_getElem? (i := 5) rfl))) (mvT hZ (hw _ (List.mem_of_getElem? (i := 2) rfl))) (mvT hZ (hw _ (List.mem_of_getElem? (i := 6) rfl))) (by decide) (backOf (W := 0) (rm2 l Z a0 hw [] q1 h0 n0 Z0) hZ (hw _ (List.mem_of_getElem? (i := 6) rfl)) (hw _ (List.mem_of_getElem? (i := 2) rfl)) (by decide) (by decide)) (g := (mkF m 12 #[.val (.int p0), .val (.long q1), .second, .val (.long q2), .second, .val (.long q3), .second, .val (.int (3 : Int32)), .val (.int (own_hi q1)), .unset, .unset, .unset, .unset, .unset, .unset, .unset, .unset, .unset, .unset] [(.long q1)])) rfl (by rw [hml]; rfl) (argsL := [(.long q1)]) (rest := []) (lenOf pd_0 rfl) rfl (by show 2 * 0 + _ ≤ _; exact Nat.le_of_eq rfl) (hb hby at_12) (fun _ _ => ⟨rfl, he159, (by decide : 0 + 0 ≤ _), (by decide : 0 + 0 ≤ _)⟩)
    dsimp only [Pt.U, Pt.locs, Pt.cells, Pt.slots] at X162 l162 y162 z162 st162 hQ162
    subst l162 y162 z162
    obtain ⟨rfl, N162q, he162⟩ := hQ162
    have N162 := Fr.app N159 N162q
    have pre163 : ∀ t, Steps p.tables e below (T162.setTop (mkF m 15 #[.val (.int p0), .val (.long q1), .second, .val (.long q2), .second, .val (.long q3), .second, .val (.int (3 : Int32)), .val (.int (own_hi q1)), .unset, .unset, .unset, .unset, .unset, .unset, .unset, .unset, .unset, .unset] [(.int (own_lo q1))])) t → Steps p.tables e below (s₁.setTop (entryFrame m #[(.int p0), (.long q1), (.long q2), (.long q3)] maxLocals)) t := fun t kt => pre161 _ (st162 _ kt)
    have pre164 : ∀ t, Steps p.tables e below (T162.setTop (mkF m 18 #[.val (.int p0), .val (.long q1), .second, .val (.long q2), .second, .val (.long q3), .second, .val (.int (3 : Int32)), .val (.int (own_hi q1)), .val (.int (own_lo q1)), .unset, .unset, .unset, .unset, .unset, .unset, .unset, .unset, .unset] [(.long q2)])) t → Steps p.tables e below (s₁.setTop (entryFrame m #[(.int p0), (.long q1), (.long q2), (.long q3)] maxLocals)) t := fun t kt => by
      refine pre163 _ ?_
      show Steps p.tables e below (T162.setTop (mkF m 15 #[.val (.int p0), .val (.long q1), .second, .val (.long q2), .second, .val (.long q3), .second, .val (.int (3 : Int32)), .val (.int (own_hi q1)), .unset, .unset, .unset, .unset, .unset, .unset, .unset, .unset, .unset, .unset] [(.int (own_lo q1))])) _
      refine XS.istore X162.here hx rfl (hb hby at_15) rfl (l' := #[.val (.int p0), .val (.long q1), .second, .val (.long q2), .second, .val (.long q3), .second, .val (.int (3 : Int32)), .val (.int (own_hi q1)), .val (.int (own_lo q1)), .unset, .unset, .unset, .unset, .unset, .unset, .unset, .unset, .unset]) rfl ?_
      show Steps p.tables e below (T162.setTop (mkF m 17 #[.val (.int p0), .val (.long q1), .second, .val (.long q2), .second, .val (.long q3), .second, .val (.int (3 : Int32)), .val (.int (own_hi q1)), .val (.int (own_lo q1)), .unset, .unset, .unset, .unset, .unset, .unset, .unset, .unset, .unset] [])) _
      refine XS.lloadN X162.here hx rfl (hb hby at_17) rfl ?_
      exact kt
    obtain ⟨_, _, ⟨T165, L165, kc165, nc165⟩, -, X165, ⟨Lc165, hQ165, l165, y165, z165⟩, st165⟩ := Jvm.LawKit.callS X162 hx (y := (⟨"com/example/tesserae/tesserae/core/VectorsDominatesPinLaw", "hi", "(J)I"⟩ : MethodName)) hown (mvT hZ (hw _ (List.mem_of_getElem? (i := 0) rfl))) (mvT hZ (hw _ (List.mem_of_getElem? (i := 1) rfl))) (mvT hZ (hw _ (List.mem_of_getElem? (i := 2) rfl))) (mvT hZ (hw _ (List.mem_of_getElem? (i := 3) rfl))) (by decide) (backOf (W := 0) (rm1 l Z a0 hw [] q2 h0 n0 Z0) hZ (hw _ (List.mem_of_getElem? (i := 3) rfl)) (hw _ (List.mem_of_getElem? (i := 2) rfl)) (by decide) (by decide)) (g := (mkF m 18 #[.val (.int p0), .val (.long q1), .second, .val (.long q2), .second, .val (.long q3), .second, .val (.int (3 : Int32)), .val (.int (own_hi q1)), .val (.int (own_lo q1)), .unset, .unset, .unset, .unset, .unset, .unset, .unset, .unset, .unset] [(.long q2)])) rfl (by rw [hml]; rfl) (argsL := [(.long q2)]) (rest := []) (lenOf pd_0 rfl) rfl (by show 2 * 0 + _ ≤ _; exact Nat.le_of_eq rfl) (hb hby at_18) (fun _ _ => ⟨rfl, he162, (by decide : 0 + 0 ≤ _), (by decide : 0 + 0 ≤ _)⟩)
    dsimp only [Pt.U, Pt.locs, Pt.cells, Pt.slots] at X165 l165 y165 z165 st165 hQ165
    subst l165 y165 z165
    obtain ⟨rfl, N165q, he165⟩ := hQ165
    have N165 := Fr.app N162 N165q
    have pre166 : ∀ t, Steps p.tables e below (T165.setTop (mkF m 21 #[.val (.int p0), .val (.long q1), .second, .val (.long q2), .second, .val (.long q3), .second, .val (.int (3 : Int32)), .val (.int (own_hi q1)), .val (.int (own_lo q1)), .unset, .unset, .unset, .unset, .unset, .unset, .unset, .unset, .unset] [(.int (own_hi q2))])) t → Steps p.tables e below (s₁.setTop (entryFrame m #[(.int p0), (.long q1), (.long q2), (.long q3)] maxLocals)) t := fun t kt => pre164 _ (st165 _ kt)
    have pre167 : ∀ t, Steps p.tables e below (T165.setTop (mkF m 24 #[.val (.int p0), .val (.long q1), .second, .val (.long q2), .second, .val (.long q3), .second, .val (.int (3 : Int32)), .val (.int (own_hi q1)), .val (.int (own_lo q1)), .val (.int (own_hi q2)), .unset, .unset, .unset, .unset, .unset, .unset, .unset, .unset] [(.long q2)])) t → Steps p.tables e below (s₁.setTop (entryFrame m #[(.int p0), (.long q1), (.long q2), (.long q3)] maxLocals)) t := fun t kt => by
      refine pre166 _ ?_
      show Steps p.tables e below (T165.setTop (mkF m 21 #[.val (.int p0), .val (.long q1), .second, .val (.long q2), .second, .val (.long q3), .second, .val (.int (3 : Int32)), .val (.int (own_hi q1)), .val (.int (own_lo q1)), .unset, .unset, .unset, .unset, .unset, .unset, .unset, .unset, .unset] [(.int (own_hi q2))])) _
      refine XS.istore X165.here hx rfl (hb hby at_21) rfl (l' := #[.val (.int p0), .val (.long q1), .second, .val (.long q2), .second, .val (.long q3), .second, .val (.int (3 : Int32)), .val (.int (own_hi q1)), .val (.int (own_lo q1)), .val (.int (own_hi q2)), .unset, .unset, .unset, .unset, .unset, .unset, .unset, .unset]) rfl ?_
      show Steps p.tables e below (T165.setTop (mkF m 23 #[.val (.int p0), .val (.long q1), .second, .val (.long q2), .second, .val (.long q3), .second, .val (.int (3 : Int32)), .val (.int (own_hi q1)), .val (.int (own_lo q1)), .val (.int (own_hi q2)), .unset, .unset, .unset, .unset, .unset, .unset, .unset, .unset] [])) _
      refine XS.lloadN X165.here hx rfl (hb hby at_23) rfl ?_
      exact kt
    obtain ⟨_, _, ⟨T168, L168, kc168, nc168⟩, -, X168, ⟨Lc168, hQ168, l168, y168, z168⟩, st168⟩ := Jvm.LawKit.callS X165 hx (y := (⟨"com/example/tesserae/tesserae/core/VectorsDominatesPinLaw", "lo", "(J)I"⟩ : MethodName)) hown (mvT hZ (hw _ (List.mem_of_getElem? (i := 4) rfl))) (mvT hZ (hw _ (List.mem_of_getElem? (i := 5) rfl))) (mvT hZ (hw _ (List.mem_of_getElem? (i := 2) rfl))) (mvT hZ (hw _ (List.mem_of_getElem? (i := 6) rfl))) (by decide) (backOf (W := 0) (rm2 l Z a0 hw [] q2 h0 n0 Z0) hZ (hw _ (List.mem_of_getElem? (i := 6) rfl)) (hw _ (List.mem_of_getElem? (i := 2) rfl)) (by decide) (by decide)) (g := (mkF m 24 #[.val (.int p0), .val (.long q1), .second, .val (.long q2), .second, .val (.long q3), .second, .val (.int (3 : Int32)), .val (.int (own_hi q1)), .val (.int (own_lo q1)), .val (.int (own_hi q2)), .unset, .unset, .unset, .unset, .unset, .unset, .unset, .unset] [(.long q2)])) rfl (by rw [hml]; rfl) (argsL := [(.long q2)]) (rest := []) (lenOf pd_0 rfl) rfl (by show 2 * 0 + _ ≤ _; exact Nat.le_of_eq rfl) (hb hby at_24) (fun _ _ => ⟨rfl, he165, (by decide : 0 + 0 ≤ _), (by decide : 0 + 0 ≤ _)⟩)
    dsimp only [Pt.U, Pt.locs, Pt.cells, Pt.slots] at X168 l168 y168 z168 st168 hQ168
    subst l168 y168 z168
    obtain ⟨rfl, N168q, he168⟩ := hQ168
    have N168 := Fr.app N165 N168q
    have pre169 : ∀ t, Steps p.tables e below (T168.setTop (mkF m 27 #[.val (.int p0), .val (.long q1), .second, .val (.long q2), .second, .val (.long q3), .second, .val (.int (3 : Int32)), .val (.int (own_hi q1)), .val (.int (own_lo q1)), .val (.int (own_hi q2)), .unset, .unset, .unset, .unset, .unset, .unset, .unset, .unset] [(.int (own_lo q2))])) t → Steps p.tables e below (s₁.setTop (entryFrame m #[(.int p0), (.long q1), (.long q2), (.long q3)] maxLocals)) t := fun t kt => pre167 _ (st168 _ kt)
    have pre170 : ∀ t, Steps p.tables e below (T168.setTop (mkF m 31 #[.val (.int p0), .val (.long q1), .second, .val (.long q2), .second, .val (.long q3), .second, .val (.int (3 : Int32)), .val (.int (own_hi q1)), .val (.int (own_lo q1)), .val (.int (own_hi q2)), .val (.int (own_lo q2)), .unset, .unset, .unset, .unset, .unset, .unset, .unset] [(.long q3)])) t → Steps p.tables e below (s₁.setTop (entryFrame m #[(.int p0), (.long q1), (.long q2), (.long q3)] maxLocals)) t := fun t kt => by
      refine pre169 _ ?_
      show Steps p.tables e below (T168.setTop (mkF m 27 #[.val (.int p0), .val (.long q1), .second, .val (.long q2), .second, .val (.long q3), .second, .val (.int (3 : Int32)), .val (.int (own_hi q1)), .val (.int (own_lo q1)), .val (.int (own_hi q2)), .unset, .unset, .unset, .unset, .unset, .unset, .unset, .unset] [(.int (own_lo q2))])) _
      refine XS.istore X168.here hx rfl (hb hby at_27) rfl (l' := #[.val (.int p0), .val (.long q1), .second, .val (.long q2), .second, .val (.long q3), .second, .val (.int (3 : Int32)), .val (.int (own_hi q1)), .val (.int (own_lo q1)), .val (.int (own_hi q2)), .val (.int (own_lo q2)), .unset, .unset, .unset, .unset, .unset, .unset, .unset]) rfl ?_
      show Steps p.tables e below (T168.setTop (mkF m 29 #[.val (.int p0), .val (.long q1), .second, .val (.long q2), .second, .val (.long q3), .second, .val (.int (3 : Int32)), .val (.int (own_hi q1)), .val (.int (own_lo q1)), .val (.int (own_hi q2)), .val (.int (own_lo q2)), .unset, .unset, .unset, .unset, .unset, .unset, .unset] [])) _
      refine XS.lload X168.here hx rfl (hb hby at_29) rfl ?_
      exact kt
    obtain ⟨_, _, ⟨T171, L171, kc171, nc171⟩, -, X171, ⟨Lc171, hQ171, l171, y171, z171⟩, st171⟩ := Jvm.LawKit.callS X168 hx (y := (⟨"com/example/tesserae/tesserae/core/VectorsDominatesPinLaw", "hi", "(J)I"⟩ : MethodName)) hown (mvT hZ (hw _ (List.mem_of_getElem? (i := 0) rfl))) (mvT hZ (hw _ (List.mem_of_getElem? (i := 1) rfl))) (mvT hZ (hw _ (List.mem_of_getElem? (i := 2) rfl))) (mvT hZ (hw _ (List.mem_of_getElem? (i := 3) rfl))) (by decide) (backOf (W := 0) (rm1 l Z a0 hw [] q3 h0 n0 Z0) hZ (hw _ (List.mem_of_getElem? (i := 3) rfl)) (hw _ (List.mem_of_getElem? (i := 2) rfl)) (by decide) (by decide)) (g := (mkF m 31 #[.val (.int p0), .val (.long q1), .second, .val (.long q2), .second, .val (.long q3), .second, .val (.int (3 : Int32)), .val (.int (own_hi q1)), .val (.int (own_lo q1)), .val (.int (own_hi q2)), .val (.int (own_lo q2)), .unset, .unset, .unset, .unset, .unset, .unset, .unset] [(.long q3)])) rfl (by rw [hml]; rfl) (argsL := [(.long q3)]) (rest := []) (lenOf pd_0 rfl) rfl (by show 2 * 0 + _ ≤ _; exact Nat.le_of_eq rfl) (hb hby at_31) (fun _ _ => ⟨rfl, he168, (by decide : 0 + 0 ≤ _), (by decide : 0 + 0 ≤ _)⟩)
    dsimp only [Pt.U, Pt.locs, Pt.cells, Pt.slots] at X171 l171 y171 z171 st171 hQ171
    subst l171 y171 z171
    obtain ⟨rfl, N171q, he171⟩ := hQ171
    have N171 := Fr.app N168 N171q
    have pre172 : ∀ t, Steps p.tables e below (T171.setTop (mkF m 34 #[.val (.int p0), .val (.long q1), .second, .val (.long q2), .second, .val (.long q3), .second, .val (.int (3 : Int32)), .val (.int (own_hi q1)), .val (.int (own_lo q1)), .val (.int (own_hi q2)), .val (.int (own_lo q2)), .unset, .unset, .unset, .unset, .unset, .unset, .unset] [(.int (own_hi q3))])) t → Steps p.tables e below (s₁.setTop (entryFrame m #[(.int p0), (.long q1), (.long q2), (.long q3)] maxLocals)) t := fun t kt => pre170 _ (st171 _ kt)
    have pre173 : ∀ t, Steps p.tables e below (T171.setTop (mkF m 38 #[.val (.int p0), .val (.long q1), .second, .val (.long q2), .second, .val (.long q3), .second, .val (.int (3 : Int32)), .val (.int (own_hi q1)), .val (.int (own_lo q1)), .val (.int (own_hi q2)), .val (.int (own_lo q2)), .val (.int (own_hi q3)), .unset, .unset, .unset, .unset, .unset, .unset] [(.long q3)])) t → Steps p.tables e below (s₁.setTop (entryFrame m #[(.int p0), (.long q1), (.long q2), (.long q3)] maxLocals)) t := fun t kt => by
      refine pre172 _ ?_
      show Steps p.tables e below (T171.setTop (mkF m 34 #[.val (.int p0), .val (.long q1), .second, .val (.long q2), .second, .val (.long q3), .second, .val (.int (3 : Int32)), .val (.int (own_hi q1)), .val (.int (own_lo q1)), .val (.int (own_hi q2)), .val (.int (own_lo q2)), .unset, .unset, .unset, .unset, .unset, .unset, .unset] [(.int (own_hi q3))])) _
      refine XS.istore X171.here hx rfl (hb hby at_34) rfl (l' := #[.val (.int p0), .val (.long q1), .second, .val (.long q2), .second, .val (.long q3), .second, .val (.int (3 : Int32)), .val (.int (own_hi q1)), .val (.int (own_lo q1)), .val (.int (own_hi q2)), .val (.int (own_lo q2)), .val (.int (own_hi q3)), .unset, .unset, .unset, .unset, .unset, .unset]) rfl ?_
      show Steps p.tables e below (T171.setTop (mkF m 36 #[.val (.int p0), .val (.long q1), .second, .val (.long q2), .second, .val (.long q3), .second, .val (.int (3 : Int32)), .val (.int (own_hi q1)), .val (.int (own_lo q1)), .val (.int (own_hi q2)), .val (.int (own_lo q2)), .val (.int (own_hi q3)), .unset, .unset, .unset, .unset, .unset, .unset] [])) _
      refine XS.lload X171.here hx rfl (hb hby at_36) rfl ?_
      exact kt
    obtain ⟨_, _, ⟨T174, L174, kc174, nc174⟩, -, X174, ⟨Lc174, hQ174, l174, y174, z174⟩, st174⟩ := Jvm.LawKit.callS X171 hx (y := (⟨"com/example/tesserae/tesserae/core/VectorsDominatesPinLaw", "lo", "(J)I"⟩ : MethodName)) hown (mvT hZ (hw _ (List.mem_of_getElem? (i := 4) rfl))) (mvT hZ (hw _ (List.mem_of_getElem? (i := 5) rfl))) (mvT hZ (hw _ (List.mem_of_getElem? (i := 2) rfl))) (mvT hZ (hw _ (List.mem_of_getElem? (i := 6) rfl))) (by decide) (backOf (W := 0) (rm2 l Z a0 hw [] q3 h0 n0 Z0) hZ (hw _ (List.mem_of_getElem? (i := 6) rfl)) (hw _ (List.mem_of_getElem? (i := 2) rfl)) (by decide) (by decide)) (g := (mkF m 38 #[.val (.int p0), .val (.long q1), .second, .val (.long q2), .second, .val (.long q3), .second, .val (.int (3 : Int32)), .val (.int (own_hi q1)), .val (.int (own_lo q1)), .val (.int (own_hi q2)), .val (.int (own_lo q2)), .val (.int (own_hi q3)), .unset, .unset, .unset, .unset, .unset, .unset] [(.long q3)])) rfl (by rw [hml]; rfl) (argsL := [(.long q3)]) (rest := []) (lenOf pd_0 rfl) rfl (by show 2 * 0 + _ ≤ _; exact Nat.le_of_eq rfl) (hb hby at_38) (fun _ _ => ⟨rfl, he171, (by decide : 0 + 0 ≤ _), (by decide : 0 + 0 ≤ _)⟩)
    dsimp only [Pt.U, Pt.locs, Pt.cells, Pt.slots] at X174 l174 y174 z174 st174 hQ174
    subst l174 y174 z174
    obtain ⟨rfl, N174q, he174⟩ := hQ174
    have N174 := Fr.app N171 N174q
    have pre175 : ∀ t, Steps p.tables e below (T174.setTop (mkF m 41 #[.val (.int p0), .val (.long q1), .second, .val (.long q2), .second, .val (.long q3), .second, .val (.int (3 : Int32)), .val (.int (own_hi q1)), .val (.int (own_lo q1)), .val (.int (own_hi q2)), .val (.int (own_lo q2)), .val (.int (own_hi q3)), .unset, .unset, .unset, .unset, .unset, .unset] [(.int (own_lo q3))])) t → Steps p.tables e below (s₁.setTop (entryFrame m #[(.int p0), (.long q1), (.long q2), (.long q3)] maxLocals)) t := fun t kt => pre173 _ (st174 _ kt)
    have pre176 : ∀ t, Steps p.tables e below (T174.setTop (mkF m 51 #[.val (.int p0), .val (.long q1), .second, .val (.long q2), .second, .val (.long q3), .second, .val (.int (3 : Int32)), .val (.int (own_hi q1)), .val (.int (own_lo q1)), .val (.int (own_hi q2)), .val (.int (own_lo q2)), .val (.int (own_hi q3)), .val (.int (own_lo q3)), .unset, .unset, .unset, .unset, .unset] [(.int (own_hi q3)), (.int (own_hi q2)), (.int (own_hi q1)), (.int (3 : Int32))])) t → Steps p.tables e below (s₁.setTop (entryFrame m #[(.int p0), (.long q1), (.long q2), (.long q3)] maxLocals)) t := fun t kt => by
      refine pre175 _ ?_
      show Steps p.tables e below (T174.setTop (mkF m 41 #[.val (.int p0), .val (.long q1), .second, .val (.long q2), .second, .val (.long q3), .second, .val (.int (3 : Int32)), .val (.int (own_hi q1)), .val (.int (own_lo q1)), .val (.int (own_hi q2)), .val (.int (own_lo q2)), .val (.int (own_hi q3)), .unset, .unset, .unset, .unset, .unset, .unset] [(.int (own_lo q3))])) _
      refine XS.istore X174.here hx rfl (hb hby at_41) rfl (l' := #[.val (.int p0), .val (.long q1), .second, .val (.long q2), .second, .val (.long q3), .second, .val (.int (3 : Int32)), .val (.int (own_hi q1)), .val (.int (own_lo q1)), .val (.int (own_hi q2)), .val (.int (own_lo q2)), .val (.int (own_hi q3)), .val (.int (own_lo q3)), .unset, .unset, .unset, .unset, .unset]) rfl ?_
      show Steps p.tables e below (T174.setTop (mkF m 43 #[.val (.int p0), .val (.long q1), .second, .val (.long q2), .second, .val (.long q3), .second, .val (.int (3 : Int32)), .val (.int (own_hi q1)), .val (.int (own_lo q1)), .val (.int (own_hi q2)), .val (.int (own_lo q2)), .val (.int (own_hi q3)), .val (.int (own_lo q3)), .unset, .unset, .unset, .unset, .unset] [])) _
      refine XS.iload X174.here hx rfl (hb hby at_43) rfl ?_
      show Steps p.tables e below (T174.setTop (mkF m 45 #[.val (.int p0), .val (.long q1), .second, .val (.long q2), .second, .val (.long q3), .second, .val (.int (3 : Int32)), .val (.int (own_hi q1)), .val (.int (own_lo q1)), .val (.int (own_hi q2)), .val (.int (own_lo q2)), .val (.int (own_hi q3)), .val (.int (own_lo q3)), .unset, .unset, .unset, .unset, .unset] [(.int (3 : Int32))])) _
      refine XS.iload X174.here hx rfl (hb hby at_45) rfl ?_
      show Steps p.tables e below (T174.setTop (mkF m 47 #[.val (.int p0), .val (.long q1), .second, .val (.long q2), .second, .val (.long q3), .second, .val (.int (3 : Int32)), .val (.int (own_hi q1)), .val (.int (own_lo q1)), .val (.int (own_hi q2)), .val (.int (own_lo q2)), .val (.int (own_hi q3)), .val (.int (own_lo q3)), .unset, .unset, .unset, .unset, .unset] [(.int (own_hi q1)), (.int (3 : Int32))])) _
      refine XS.iload X174.here hx rfl (hb hby at_47) rfl ?_
      show Steps p.tables e below (T174.setTop (mkF m 49 #[.val (.int p0), .val (.long q1), .second, .val (.long q2), .second, .val (.long q3), .second, .val (.int (3 : Int32)), .val (.int (own_hi q1)), .val (.int (own_lo q1)), .val (.int (own_hi q2)), .val (.int (own_lo q2)), .val (.int (own_hi q3)), .val (.int (own_lo q3)), .unset, .unset, .unset, .unset, .unset] [(.int (own_hi q2)), (.int (own_hi q1)), (.int (3 : Int32))])) _
      refine XS.iload X174.here hx rfl (hb hby at_49) rfl ?_
      exact kt
    obtain ⟨_, _, ⟨T177, L177, kc177, nc177⟩, -, X177, ⟨Lc177, hQ177, l177, y177, z177⟩, st177⟩ := Jvm.LawKit.callS X174 hx (y := (⟨"com/example/tesserae/tesserae/core/VectorsDominatesPinLaw", "make", "(IIII)[D"⟩ : MethodName)) hown (mvT hZ (hw _ (List.mem_of_getElem? (i := 7) rfl))) (mvT hZ (hw _ (List.mem_of_getElem? (i := 8) rfl))) (mvT hZ (hw _ (List.mem_of_getElem? (i := 2) rfl))) (mvT hZ (hw _ (List.mem_of_getElem? (i := 9) rfl))) (by decide) (backOf (W := 0) (rm3m3 l Z a0 hw [] (own_hi q1) (own_hi q2) (own_hi q3) h0 n0 Z0) hZ (hw _ (List.mem_of_getElem? (i := 9) rfl)) (hw _ (List.mem_of_getElem? (i := 2) rfl)) (by decide) (by decide)) (g := (mkF m 51 #[.val (.int p0), .val (.long q1), .second, .val (.long q2), .second, .val (.long q3), .second, .val (.int (3 : Int32)), .val (.int (own_hi q1)), .val (.int (own_lo q1)), .val (.int (own_hi q2)), .val (.int (own_lo q2)), .val (.int (own_hi q3)), .val (.int (own_lo q3)), .unset, .unset, .unset, .unset, .unset] [(.int (own_hi q3)), (.int (own_hi q2)), (.int (own_hi q1)), (.int (3 : Int32))])) rfl (by rw [hml]; rfl) (argsL := [(.int (3 : Int32)), (.int (own_hi q1)), (.int (own_hi q2)), (.int (own_hi q3))]) (rest := []) (lenOf pd_1 rfl) rfl (by show 2 * 0 + _ ≤ _; exact Nat.le_of_eq rfl) (hb hby at_51) (fun _ _ => ⟨rfl, he174, (by decide : 0 + 1 ≤ _), (by decide : 0 + 3 ≤ _)⟩)
    dsimp only [Pt.U, Pt.locs, Pt.cells, Pt.slots] at X177 l177 y177 z177 st177 hQ177
    subst l177 y177 z177
    obtain ⟨rfl, N177q, K177, ⟨kk177, Va177⟩⟩ := hQ177
    have N177 := Fr.app N174 N177q
    obtain ⟨b177, gq177⟩ : ∃ z, z = h0.size := ⟨_, rfl⟩
    rw [← gq177] at Va177 st177
    have gg_b177 : n0 ≤ b177 := Nat.le_trans Z0 (Nat.le_of_eq gq177.symm)
    have pre178 : ∀ t, Steps p.tables e below (T177.setTop (mkF m 54 #[.val (.int p0), .val (.long q1), .second, .val (.long q2), .second, .val (.long q3), .second, .val (.int (3 : Int32)), .val (.int (own_hi q1)), .val (.int (own_lo q1)), .val (.int (own_hi q2)), .val (.int (own_lo q2)), .val (.int (own_hi q3)), .val (.int (own_lo q3)), .unset, .unset, .unset, .unset, .unset] [(.ref b177)])) t → Steps p.tables e below (s₁.setTop (entryFrame m #[(.int p0), (.long q1), (.long q2), (.long q3)] maxLocals)) t := fun t kt => pre176 _ (st177 _ kt)
    have z179 : n0 ≤ T177.heap.size := (Nat.le_trans Z0 K177.1)
    have pre180 : ∀ t, Steps p.tables e below (T177.setTop (mkF m 64 #[.val (.int p0), .val (.long q1), .second, .val (.long q2), .second, .val (.long q3), .second, .val (.int (3 : Int32)), .val (.int (own_hi q1)), .val (.int (own_lo q1)), .val (.int (own_hi q2)), .val (.int (own_lo q2)), .val (.int (own_hi q3)), .val (.int (own_lo q3)), .val (.ref b177), .unset, .unset, .unset, .unset] [(.int (own_lo q3)), (.int (own_lo q2)), (.int (own_lo q1)), (.int (3 : Int32))])) t → Steps p.tables e below (s₁.setTop (entryFrame m #[(.int p0), (.long q1), (.long q2), (.long q3)] maxLocals)) t := fun t kt => by
      refine pre178 _ ?_
      show Steps p.tables e below (T177.setTop (mkF m 54 #[.val (.int p0), .val (.long q1), .second, .val (.long q2), .second, .val (.long q3), .second, .val (.int (3 : Int32)), .val (.int (own_hi q1)), .val (.int (own_lo q1)), .val (.int (own_hi q2)), .val (.int (own_lo q2)), .val (.int (own_hi q3)), .val (.int (own_lo q3)), .unset, .unset, .unset, .unset, .unset] [(.ref b177)])) _
      refine XS.astore X177.here hx rfl (hb hby at_54) rfl rfl (l' := #[.val (.int p0), .val (.long q1), .second, .val (.long q2), .second, .val (.long q3), .second, .val (.int (3 : Int32)), .val (.int (own_hi q1)), .val (.int (own_lo q1)), .val (.int (own_hi q2)), .val (.int (own_lo q2)), .val (.int (own_hi q3)), .val (.int (own_lo q3)), .val (.ref b177), .unset, .unset, .unset, .unset]) rfl ?_
      show Steps p.tables e below (T177.setTop (mkF m 56 #[.val (.int p0), .val (.long q1), .second, .val (.long q2), .second, .val (.long q3), .second, .val (.int (3 : Int32)), .val (.int (own_hi q1)), .val (.int (own_lo q1)), .val (.int (own_hi q2)), .val (.int (own_lo q2)), .val (.int (own_hi q3)), .val (.int (own_lo q3)), .val (.ref b177), .unset, .unset, .unset, .unset] [])) _
      refine XS.iload X177.here hx rfl (hb hby at_56) rfl ?_
      show Steps p.tables e below (T177.setTop (mkF m 58 #[.val (.int p0), .val (.long q1), .second, .val (.long q2), .second, .val (.long q3), .second, .val (.int (3 : Int32)), .val (.int (own_hi q1)), .val (.int (own_lo q1)), .val (.int (own_hi q2)), .val (.int (own_lo q2)), .val (.int (own_hi q3)), .val (.int (own_lo q3)), .val (.ref b177), .unset, .unset, .unset, .unset] [(.int (3 : Int32))])) _
      refine XS.iload X177.here hx rfl (hb hby at_58) rfl ?_
      show Steps p.tables e below (T177.setTop (mkF m 60 #[.val (.int p0), .val (.long q1), .second, .val (.long q2), .second, .val (.long q3), .second, .val (.int (3 : Int32)), .val (.int (own_hi q1)), .val (.int (own_lo q1)), .val (.int (own_hi q2)), .val (.int (own_lo q2)), .val (.int (own_hi q3)), .val (.int (own_lo q3)), .val (.ref b177), .unset, .unset, .unset, .unset] [(.int (own_lo q1)), (.int (3 : Int32))])) _
      refine XS.iload X177.here hx rfl (hb hby at_60) rfl ?_
      show Steps p.tables e below (T177.setTop (mkF m 62 #[.val (.int p0), .val (.long q1), .second, .val (.long q2), .second, .val (.long q3), .second, .val (.int (3 : Int32)), .val (.int (own_hi q1)), .val (.int (own_lo q1)), .val (.int (own_hi q2)), .val (.int (own_lo q2)), .val (.int (own_hi q3)), .val (.int (own_lo q3)), .val (.ref b177), .unset, .unset, .unset, .unset] [(.int (own_lo q2)), (.int (own_lo q1)), (.int (3 : Int32))])) _
      refine XS.iload X177.here hx rfl (hb hby at_62) rfl ?_
      exact kt
    obtain ⟨_, _, ⟨T181, L181, kc181, nc181⟩, -, X181, ⟨Lc181, hQ181, l181, y181, z181⟩, st181⟩ := Jvm.LawKit.callS X177 hx (y := (⟨"com/example/tesserae/tesserae/core/VectorsDominatesPinLaw", "make", "(IIII)[D"⟩ : MethodName)) hown (mvT hZ (hw _ (List.mem_of_getElem? (i := 7) rfl))) (mvT hZ (hw _ (List.mem_of_getElem? (i := 8) rfl))) (mvT hZ (hw _ (List.mem_of_getElem? (i := 2) rfl))) (mvT hZ (hw _ (List.mem_of_getElem? (i := 9) rfl))) (by decide) (backOf (W := 0) (rm3m3 l Z a0 hw [] (own_lo q1) (own_lo q2) (own_lo q3) T177.heap n0 z179) hZ (hw _ (List.mem_of_getElem? (i := 9) rfl)) (hw _ (List.mem_of_getElem? (i := 2) rfl)) (by decide) (by decide)) (g := (mkF m 64 #[.val (.int p0), .val (.long q1), .second, .val (.long q2), .second, .val (.long q3), .second, .val (.int (3 : Int32)), .val (.int (own_hi q1)), .val (.int (own_lo q1)), .val (.int (own_hi q2)), .val (.int (own_lo q2)), .val (.int (own_hi q3)), .val (.int (own_lo q3)), .val (.ref b177), .unset, .unset, .unset, .unset] [(.int (own_lo q3)), (.int (own_lo q2)), (.int (own_lo q1)), (.int (3 : Int32))])) rfl (by rw [hml]; rfl) (argsL := [(.int (3 : Int32)), (.int (own_lo q1)), (.int (own_lo q2)), (.int (own_lo q3))]) (rest := []) (lenOf pd_1 rfl) rfl (by show 2 * 0 + _ ≤ _; exact Nat.le_of_eq rfl) (hb hby at_64) (fun _ _ => ⟨rfl, rfl, (by decide : 1 + 1 ≤ _), (by decide : 3 + 3 ≤ _)⟩)
    dsimp only [Pt.U, Pt.locs, Pt.cells, Pt.slots] at X181 l181 y181 z181 st181 hQ181
    subst l181 y181 z181
    obtain ⟨rfl, N181q, K181, ⟨kk181, Va181⟩⟩ := hQ181
    have N181 := Fr.app N177 N181q
    obtain ⟨b181, gq181⟩ : ∃ z, z = T177.heap.size := ⟨_, rfl⟩
    rw [← gq181] at Va181 st181
    have gg_b181 : n0 ≤ b181 := Nat.le_trans z179 (Nat.le_of_eq gq181.symm)
    have pre182 : ∀ t, Steps p.tables e below (T181.setTop (mkF m 67 #[.val (.int p0), .val (.long q1), .second, .val (.long q2), .second, .val (.long q3), .second, .val (.int (3 : Int32)), .val (.int (own_hi q1)), .val (.int (own_lo q1)), .val (.int (own_hi q2)), .val (.int (own_lo q2)), .val (.int (own_hi q3)), .val (.int (own_lo q3)), .val (.ref b177), .unset, .unset, .unset, .unset] [(.ref b181)])) t → Steps p.tables e below (s₁.setTop (entryFrame m #[(.int p0), (.long q1), (.long q2), (.long q3)] maxLocals)) t := fun t kt => pre180 _ (st181 _ kt)
    have pre183 : ∀ t, Steps p.tables e below (T181.setTop (mkF m 69 #[.val (.int p0), .val (.long q1), .second, .val (.long q2), .second, .val (.long q3), .second, .val (.int (3 : Int32)), .val (.int (own_hi q1)), .val (.int (own_lo q1)), .val (.int (own_hi q2)), .val (.int (own_lo q2)), .val (.int (own_hi q3)), .val (.int (own_lo q3)), .val (.ref b177), .val (.ref b181), .unset, .unset, .unset] [])) t → Steps p.tables e below (s₁.setTop (entryFrame m #[(.int p0), (.long q1), (.long q2), (.long q3)] maxLocals)) t := fun t kt => by
      refine pre182 _ ?_
      show Steps p.tables e below (T181.setTop (mkF m 67 #[.val (.int p0), .val (.long q1), .second, .val (.long q2), .second, .val (.long q3), .second, .val (.int (3 : Int32)), .val (.int (own_hi q1)), .val (.int (own_lo q1)), .val (.int (own_hi q2)), .val (.int (own_lo q2)), .val (.int (own_hi q3)), .val (.int (own_lo q3)), .val (.ref b177), .unset, .unset, .unset, .unset] [(.ref b181)])) _
      refine XS.astore X181.here hx rfl (hb hby at_67) rfl rfl (l' := #[.val (.int p0), .val (.long q1), .second, .val (.long q2), .second, .val (.long q3), .second, .val (.int (3 : Int32)), .val (.int (own_hi q1)), .val (.int (own_lo q1)), .val (.int (own_hi q2)), .val (.int (own_lo q2)), .val (.int (own_hi q3)), .val (.int (own_lo q3)), .val (.ref b177), .val (.ref b181), .unset, .unset, .unset]) rfl ?_
      exact kt
    have pre184 : ∀ t, Steps p.tables e below (T181.setTop (mkF m 113 #[.val (.int p0), .val (.long q1), .second, .val (.long q2), .second, .val (.long q3), .second, .val (.int (3 : Int32)), .val (.int (own_hi q1)), .val (.int (own_lo q1)), .val (.int (own_hi q2)), .val (.int (own_lo q2)), .val (.int (own_hi q3)), .val (.int (own_lo q3)), .val (.ref b177), .val (.ref b181), .unset, .unset, .unset] [(.int (own_nw [((own_hi q1), (own_lo q1)), ((own_hi q2), (own_lo q2)), ((own_hi q3), (own_lo q3))]))])) t → Steps p.tables e below (s₁.setTop (entryFrame m #[(.int p0), (.long q1), (.long q2), (.long q3)] maxLocals)) t := fun t kt => by
      have pre186 : ∀ t, Steps p.tables e below (T181.setTop (mkF m 79 #[.val (.int p0), .val (.long q1), .second, .val (.long q2), .second, .val (.long q3), .second, .val (.int (3 : Int32)), .val (.int (own_hi q1)), .val (.int (own_lo q1)), .val (.int (own_hi q2)), .val (.int (own_lo q2)), .val (.int (own_hi q3)), .val (.int (own_lo q3)), .val (.ref b177), .val (.ref b181), .unset, .unset, .unset] [(.int (own_lo q1)), (.int (own_hi q1))])) t → Steps p.tables e below (s₁.setTop (entryFrame m #[(.int p0), (.long q1), (.long q2), (.long q3)] maxLocals)) t := fun t kt => by
        refine pre183 _ ?_
        show Steps p.tables e below (T181.setTop (mkF m 69 #[.val (.int p0), .val (.long q1), .second, .val (.long q2), .second, .val (.long q3), .second, .val (.int (3 : Int32)), .val (.int (own_hi q1)), .val (.int (own_lo q1)), .val (.int (own_hi q2)), .val (.int (own_lo q2)), .val (.int (own_hi q3)), .val (.int (own_lo q3)), .val (.ref b177), .val (.ref b181), .unset, .unset, .unset] [])) _
        refine XS.iload X181.here hx rfl (hb hby at_69) rfl ?_
        show Steps p.tables e below (T181.setTop (mkF m 71 #[.val (.int p0), .val (.long q1), .second, .val (.long q2), .second, .val (.long q3), .second, .val (.int (3 : Int32)), .val (.int (own_hi q1)), .val (.int (own_lo q1)), .val (.int (own_hi q2)), .val (.int (own_lo q2)), .val (.int (own_hi q3)), .val (.int (own_lo q3)), .val (.ref b177), .val (.ref b181), .unset, .unset, .unset] [(.int (3 : Int32))])) _
        refine XS.iconst X181.here hx rfl (hb hby at_71) ?_
        show Steps p.tables e below (T181.setTop (mkF m 72 #[.val (.int p0), .val (.long q1), .second, .val (.long q2), .second, .val (.long q3), .second, .val (.int (3 : Int32)), .val (.int (own_hi q1)), .val (.int (own_lo q1)), .val (.int (own_hi q2)), .val (.int (own_lo q2)), .val (.int (own_hi q3)), .val (.int (own_lo q3)), .val (.ref b177), .val (.ref b181), .unset, .unset, .unset] [(.int (1 : Int32)), (.int (3 : Int32))])) _
        refine XS.icmpNo X181.here hx rfl (hb hby at_72) rfl (flt (by decide : ¬ ((3 : Int32) < (1 : Int32)))).1 ?_
        show Steps p.tables e below (T181.setTop (mkF m 75 #[.val (.int p0), .val (.long q1), .second, .val (.long q2), .second, .val (.long q3), .second, .val (.int (3 : Int32)), .val (.int (own_hi q1)), .val (.int (own_lo q1)), .val (.int (own_hi q2)), .val (.int (own_lo q2)), .val (.int (own_hi q3)), .val (.int (own_lo q3)), .val (.ref b177), .val (.ref b181), .unset, .unset, .unset] [])) _
        refine XS.iload X181.here hx rfl (hb hby at_75) rfl ?_
        show Steps p.tables e below (T181.setTop (mkF m 77 #[.val (.int p0), .val (.long q1), .second, .val (.long q2), .second, .val (.long q3), .second, .val (.int (3 : Int32)), .val (.int (own_hi q1)), .val (.int (own_lo q1)), .val (.int (own_hi q2)), .val (.int (own_lo q2)), .val (.int (own_hi q3)), .val (.int (own_lo q3)), .val (.ref b177), .val (.ref b181), .unset, .unset, .unset] [(.int (own_hi q1))])) _
        refine XS.iload X181.here hx rfl (hb hby at_77) rfl ?_
        exact kt
      by_cases c185 : (own_lo q1) < (own_hi q1)
      · have pre187 : ∀ t, Steps p.tables e below (T181.setTop (mkF m 113 #[.val (.int p0), .val (.long q1), .second, .val (.long q2), .second, .val (.long q3), .second, .val (.int (3 : Int32)), .val (.int (own_hi q1)), .val (.int (own_lo q1)), .val (.int (own_hi q2)), .val (.int (own_lo q2)), .val (.int (own_hi q3)), .val (.int (own_lo q3)), .val (.ref b177), .val (.ref b181), .unset, .unset, .unset] [(.int (0 : Int32))])) t → Steps p.tables e below (s₁.setTop (entryFrame m #[(.int p0), (.long q1), (.long q2), (.long q3)] maxLocals)) t := fun t kt => by
          refine pre186 _ ?_
          show Steps p.tables e below (T181.setTop (mkF m 79 #[.val (.int p0), .val (.long q1), .second, .val (.long q2), .second, .val (.long q3), .second, .val (.int (3 : Int32)), .val (.int (own_hi q1)), .val (.int (own_lo q1)), .val (.int (own_hi q2)), .val (.int (own_lo q2)), .val (.int (own_hi q3)), .val (.int (own_lo q3)), .val (.ref b177), .val (.ref b181), .unset, .unset, .unset] [(.int (own_lo q1)), (.int (own_hi q1))])) _
          refine XS.icmpYes X181.here hx rfl (pc0 := 79) (pc' := 112) rfl (hb hby at_79) rfl (tlt (c185 : (own_lo q1) < (own_hi q1))).2.2.1 (by decide) (by decide) ?_
          show Steps p.tables e below (T181.setTop (mkF m 112 #[.val (.int p0), .val (.long q1), .second, .val (.long q2), .second, .val (.long q3), .second, .val (.int (3 : Int32)), .val (.int (own_hi q1)), .val (.int (own_lo q1)), .val (.int (own_hi q2)), .val (.int (own_lo q2)), .val (.int (own_hi q3)), .val (.int (own_lo q3)), .val (.ref b177), .val (.ref b181), .unset, .unset, .unset] [])) _
          refine XS.iconst X181.here hx rfl (hb hby at_112) ?_
          exact kt
        rw [show (own_nw [((own_hi q1), (own_lo q1)), ((own_hi q2), (own_lo q2)), ((own_hi q3), (own_lo q3))]) = (0 : Int32) from by simp only [own_nw, c185, if_true, if_false]] at kt
        exact pre187 _ kt
      · have pre189 : ∀ t, Steps p.tables e below (T181.setTop (mkF m 92 #[.val (.int p0), .val (.long q1), .second, .val (.long q2), .second, .val (.long q3), .second, .val (.int (3 : Int32)), .val (.int (own_hi q1)), .val (.int (own_lo q1)), .val (.int (own_hi q2)), .val (.int (own_lo q2)), .val (.int (own_hi q3)), .val (.int (own_lo q3)), .val (.ref b177), .val (.ref b181), .unset, .unset, .unset] [(.int (own_lo q2)), (.int (own_hi q2))])) t → Steps p.tables e below (s₁.setTop (entryFrame m #[(.int p0), (.long q1), (.long q2), (.long q3)] maxLocals)) t := fun t kt => by
          refine pre186 _ ?_
          show Steps p.tables e below (T181.setTop (mkF m 79 #[.val (.int p0), .val (.long q1), .second, .val (.long q2), .second, .val (.long q3), .second, .val (.int (3 : Int32)), .val (.int (own_hi q1)), .val (.int (own_lo q1)), .val (.int (own_hi q2)), .val (.int (own_lo q2)), .val (.int (own_hi q3)), .val (.int (own_lo q3)), .val (.ref b177), .val (.ref b181), .unset, .unset, .unset] [(.int (own_lo q1)), (.int (own_hi q1))])) _
          refine XS.icmpNo X181.here hx rfl (hb hby at_79) rfl (flt (c185 : ¬ ((own_lo q1) < (own_hi q1)))).2.2.1 ?_
          show Steps p.tables e below (T181.setTop (mkF m 82 #[.val (.int p0), .val (.long q1), .second, .val (.long q2), .second, .val (.long q3), .second, .val (.int (3 : Int32)), .val (.int (own_hi q1)), .val (.int (own_lo q1)), .val (.int (own_hi q2)), .val (.int (own_lo q2)), .val (.int (own_hi q3)), .val (.int (own_lo q3)), .val (.ref b177), .val (.ref b181), .unset, .unset, .unset] [])) _
          refine XS.iload X181.here hx rfl (hb hby at_82) rfl ?_
          show Steps p.tables e below (T181.setTop (mkF m 84 #[.val (.int p0), .val (.long q1), .second, .val (.long q2), .second, .val (.long q3), .second, .val (.int (3 : Int32)), .val (.int (own_hi q1)), .val (.int (own_lo q1)), .val (.int (own_hi q2)), .val (.int (own_lo q2)), .val (.int (own_hi q3)), .val (.int (own_lo q3)), .val (.ref b177), .val (.ref b181), .unset, .unset, .unset] [(.int (3 : Int32))])) _
          refine XS.iconst X181.here hx rfl (hb hby at_84) ?_
          show Steps p.tables e below (T181.setTop (mkF m 85 #[.val (.int p0), .val (.long q1), .second, .val (.long q2), .second, .val (.long q3), .second, .val (.int (3 : Int32)), .val (.int (own_hi q1)), .val (.int (own_lo q1)), .val (.int (own_hi q2)), .val (.int (own_lo q2)), .val (.int (own_hi q3)), .val (.int (own_lo q3)), .val (.ref b177), .val (.ref b181), .unset, .unset, .unset] [(.int (2 : Int32)), (.int (3 : Int32))])) _
          refine XS.icmpNo X181.here hx rfl (hb hby at_85) rfl (flt (by decide : ¬ ((3 : Int32) < (2 : Int32)))).1 ?_
          show Steps p.tables e below (T181.setTop (mkF m 88 #[.val (.int p0), .val (.long q1), .second, .val (.long q2), .second, .val (.long q3), .second, .val (.int (3 : Int32)), .val (.int (own_hi q1)), .val (.int (own_lo q1)), .val (.int (own_hi q2)), .val (.int (own_lo q2)), .val (.int (own_hi q3)), .val (.int (own_lo q3)), .val (.ref b177), .val (.ref b181), .unset, .unset, .unset] [])) _
          refine XS.iload X181.here hx rfl (hb hby at_88) rfl ?_
          show Steps p.tables e below (T181.setTop (mkF m 90 #[.val (.int p0), .val (.long q1), .second, .val (.long q2), .second, .val (.long q3), .second, .val (.int (3 : Int32)), .val (.int (own_hi q1)), .val (.int (own_lo q1)), .val (.int (own_hi q2)), .val (.int (own_lo q2)), .val (.int (own_hi q3)), .val (.int (own_lo q3)), .val (.ref b177), .val (.ref b181), .unset, .unset, .unset] [(.int (own_hi q2))])) _
          refine XS.iload X181.here hx rfl (hb hby at_90) rfl ?_
          exact kt
        by_cases c188 : (own_lo q2) < (own_hi q2)
        · have pre190 : ∀ t, Steps p.tables e below (T181.setTop (mkF m 113 #[.val (.int p0), .val (.long q1), .second, .val (.long q2), .second, .val (.long q3), .second, .val (.int (3 : Int32)), .val (.int (own_hi q1)), .val (.int (own_lo q1)), .val (.int (own_hi q2)), .val (.int (own_lo q2)), .val (.int (own_hi q3)), .val (.int (own_lo q3)), .val (.ref b177), .val (.ref b181), .unset, .unset, .unset] [(.int (0 : Int32))])) t → Steps p.tables e below (s₁.setTop (entryFrame m #[(.int p0), (.long q1), (.long q2), (.long q3)] maxLocals)) t := fun t kt => by
            refine pre189 _ ?_
            show Steps p.tables e below (T181.setTop (mkF m 92 #[.val (.int p0), .val (.long q1), .second, .val (.long q2), .second, .val (.long q3), .second, .val (.int (3 : Int32)), .val (.int (own_hi q1)), .val (.int (own_lo q1)), .val (.int (own_hi q2)), .val (.int (own_lo q2)), .val (.int (own_hi q3)), .val (.int (own_lo q3)), .val (.ref b177), .val (.ref b181), .unset, .unset, .unset] [(.int (own_lo q2)), (.int (own_hi q2))])) _
            refine XS.icmpYes X181.here hx rfl (pc0 := 92) (pc' := 112) rfl (hb hby at_92) rfl (tlt (c188 : (own_lo q2) < (own_hi q2))).2.2.1 (by decide) (by decide) ?_
            show Steps p.tables e below (T181.setTop (mkF m 112 #[.val (.int p0), .val (.long q1), .second, .val (.long q2), .second, .val (.long q3), .second, .val (.int (3 : Int32)), .val (.int (own_hi q1)), .val (.int (own_lo q1)), .val (.int (own_hi q2)), .val (.int (own_lo q2)), .val (.int (own_hi q3)), .val (.int (own_lo q3)), .val (.ref b177), .val (.ref b181), .unset, .unset, .unset] [])) _
            refine XS.iconst X181.here hx rfl (hb hby at_112) ?_
            exact kt
          rw [show (own_nw [((own_hi q1), (own_lo q1)), ((own_hi q2), (own_lo q2)), ((own_hi q3), (own_lo q3))]) = (0 : Int32) from by simp only [own_nw, c185, c188, if_true, if_false]] at kt
          exact pre190 _ kt
        · have pre192 : ∀ t, Steps p.tables e below (T181.setTop (mkF m 105 #[.val (.int p0), .val (.long q1), .second, .val (.long q2), .second, .val (.long q3), .second, .val (.int (3 : Int32)), .val (.int (own_hi q1)), .val (.int (own_lo q1)), .val (.int (own_hi q2)), .val (.int (own_lo q2)), .val (.int (own_hi q3)), .val (.int (own_lo q3)), .val (.ref b177), .val (.ref b181), .unset, .unset, .unset] [(.int (own_lo q3)), (.int (own_hi q3))])) t → Steps p.tables e below (s₁.setTop (entryFrame m #[(.int p0), (.long q1), (.long q2), (.long q3)] maxLocals)) t := fun t kt => by
            refine pre189 _ ?_
            show Steps p.tables e below (T181.setTop (mkF m 92 #[.val (.int p0), .val (.long q1), .second, .val (.long q2), .second, .val (.long q3), .second, .val (.int (3 : Int32)), .val (.int (own_hi q1)), .val (.int (own_lo q1)), .val (.int (own_hi q2)), .val (.int (own_lo q2)), .val (.int (own_hi q3)), .val (.int (own_lo q3)), .val (.ref b177), .val (.ref b181), .unset, .unset, .unset] [(.int (own_lo q2)), (.int (own_hi q2))])) _
            refine XS.icmpNo X181.here hx rfl (hb hby at_92) rfl (flt (c188 : ¬ ((own_lo q2) < (own_hi q2)))).2.2.1 ?_
            show Steps p.tables e below (T181.setTop (mkF m 95 #[.val (.int p0), .val (.long q1), .second, .val (.long q2), .second, .val (.long q3), .second, .val (.int (3 : Int32)), .val (.int (own_hi q1)), .val (.int (own_lo q1)), .val (.int (own_hi q2)), .val (.int (own_lo q2)), .val (.int (own_hi q3)), .val (.int (own_lo q3)), .val (.ref b177), .val (.ref b181), .unset, .unset, .unset] [])) _
            refine XS.iload X181.here hx rfl (hb hby at_95) rfl ?_
            show Steps p.tables e below (T181.setTop (mkF m 97 #[.val (.int p0), .val (.long q1), .second, .val (.long q2), .second, .val (.long q3), .second, .val (.int (3 : Int32)), .val (.int (own_hi q1)), .val (.int (own_lo q1)), .val (.int (own_hi q2)), .val (.int (own_lo q2)), .val (.int (own_hi q3)), .val (.int (own_lo q3)), .val (.ref b177), .val (.ref b181), .unset, .unset, .unset] [(.int (3 : Int32))])) _
            refine XS.iconst X181.here hx rfl (hb hby at_97) ?_
            show Steps p.tables e below (T181.setTop (mkF m 98 #[.val (.int p0), .val (.long q1), .second, .val (.long q2), .second, .val (.long q3), .second, .val (.int (3 : Int32)), .val (.int (own_hi q1)), .val (.int (own_lo q1)), .val (.int (own_hi q2)), .val (.int (own_lo q2)), .val (.int (own_hi q3)), .val (.int (own_lo q3)), .val (.ref b177), .val (.ref b181), .unset, .unset, .unset] [(.int (3 : Int32)), (.int (3 : Int32))])) _
            refine XS.icmpNo X181.here hx rfl (hb hby at_98) rfl (flt (by decide : ¬ ((3 : Int32) < (3 : Int32)))).1 ?_
            show Steps p.tables e below (T181.setTop (mkF m 101 #[.val (.int p0), .val (.long q1), .second, .val (.long q2), .second, .val (.long q3), .second, .val (.int (3 : Int32)), .val (.int (own_hi q1)), .val (.int (own_lo q1)), .val (.int (own_hi q2)), .val (.int (own_lo q2)), .val (.int (own_hi q3)), .val (.int (own_lo q3)), .val (.ref b177), .val (.ref b181), .unset, .unset, .unset] [])) _
            refine XS.iload X181.here hx rfl (hb hby at_101) rfl ?_
            show Steps p.tables e below (T181.setTop (mkF m 103 #[.val (.int p0), .val (.long q1), .second, .val (.long q2), .second, .val (.long q3), .second, .val (.int (3 : Int32)), .val (.int (own_hi q1)), .val (.int (own_lo q1)), .val (.int (own_hi q2)), .val (.int (own_lo q2)), .val (.int (own_hi q3)), .val (.int (own_lo q3)), .val (.ref b177), .val (.ref b181), .unset, .unset, .unset] [(.int (own_hi q3))])) _
            refine XS.iload X181.here hx rfl (hb hby at_103) rfl ?_
            exact kt
          by_cases c191 : (own_lo q3) < (own_hi q3)
          · have pre193 : ∀ t, Steps p.tables e below (T181.setTop (mkF m 113 #[.val (.int p0), .val (.long q1), .second, .val (.long q2), .second, .val (.long q3), .second, .val (.int (3 : Int32)), .val (.int (own_hi q1)), .val (.int (own_lo q1)), .val (.int (own_hi q2)), .val (.int (own_lo q2)), .val (.int (own_hi q3)), .val (.int (own_lo q3)), .val (.ref b177), .val (.ref b181), .unset, .unset, .unset] [(.int (0 : Int32))])) t → Steps p.tables e below (s₁.setTop (entryFrame m #[(.int p0), (.long q1), (.long q2), (.long q3)] maxLocals)) t := fun t kt => by
              refine pre192 _ ?_
              show Steps p.tables e below (T181.setTop (mkF m 105 #[.val (.int p0), .val (.long q1), .second, .val (.long q2), .second, .val (.long q3), .second, .val (.int (3 : Int32)), .val (.int (own_hi q1)), .val (.int (own_lo q1)), .val (.int (own_hi q2)), .val (.int (own_lo q2)), .val (.int (own_hi q3)), .val (.int (own_lo q3)), .val (.ref b177), .val (.ref b181), .unset, .unset, .unset] [(.int (own_lo q3)), (.int (own_hi q3))])) _
              refine XS.icmpYes X181.here hx rfl (pc0 := 105) (pc' := 112) rfl (hb hby at_105) rfl (tlt (c191 : (own_lo q3) < (own_hi q3))).2.2.1 (by decide) (by decide) ?_
              show Steps p.tables e below (T181.setTop (mkF m 112 #[.val (.int p0), .val (.long q1), .second, .val (.long q2), .second, .val (.long q3), .second, .val (.int (3 : Int32)), .val (.int (own_hi q1)), .val (.int (own_lo q1)), .val (.int (own_hi q2)), .val (.int (own_lo q2)), .val (.int (own_hi q3)), .val (.int (own_lo q3)), .val (.ref b177), .val (.ref b181), .unset, .unset, .unset] [])) _
              refine XS.iconst X181.here hx rfl (hb hby at_112) ?_
              exact kt
            rw [show (own_nw [((own_hi q1), (own_lo q1)), ((own_hi q2), (own_lo q2)), ((own_hi q3), (own_lo q3))]) = (0 : Int32) from by simp only [own_nw, c185, c188, c191, if_true, if_false]] at kt
            exact pre193 _ kt
          · have pre194 : ∀ t, Steps p.tables e below (T181.setTop (mkF m 113 #[.val (.int p0), .val (.long q1), .second, .val (.long q2), .second, .val (.long q3), .second, .val (.int (3 : Int32)), .val (.int (own_hi q1)), .val (.int (own_lo q1)), .val (.int (own_hi q2)), .val (.int (own_lo q2)), .val (.int (own_hi q3)), .val (.int (own_lo q3)), .val (.ref b177), .val (.ref b181), .unset, .unset, .unset] [(.int (1 : Int32))])) t → Steps p.tables e below (s₁.setTop (entryFrame m #[(.int p0), (.long q1), (.long q2), (.long q3)] maxLocals)) t := fun t kt => by
              refine pre192 _ ?_
              show Steps p.tables e below (T181.setTop (mkF m 105 #[.val (.int p0), .val (.long q1), .second, .val (.long q2), .second, .val (.long q3), .second, .val (.int (3 : Int32)), .val (.int (own_hi q1)), .val (.int (own_lo q1)), .val (.int (own_hi q2)), .val (.int (own_lo q2)), .val (.int (own_hi q3)), .val (.int (own_lo q3)), .val (.ref b177), .val (.ref b181), .unset, .unset, .unset] [(.int (own_lo q3)), (.int (own_hi q3))])) _
              refine XS.icmpNo X181.here hx rfl (hb hby at_105) rfl (flt (c191 : ¬ ((own_lo q3) < (own_hi q3)))).2.2.1 ?_
              show Steps p.tables e below (T181.setTop (mkF m 108 #[.val (.int p0), .val (.long q1), .second, .val (.long q2), .second, .val (.long q3), .second, .val (.int (3 : Int32)), .val (.int (own_hi q1)), .val (.int (own_lo q1)), .val (.int (own_hi q2)), .val (.int (own_lo q2)), .val (.int (own_hi q3)), .val (.int (own_lo q3)), .val (.ref b177), .val (.ref b181), .unset, .unset, .unset] [])) _
              refine XS.iconst X181.here hx rfl (hb hby at_108) ?_
              show Steps p.tables e below (T181.setTop (mkF m 109 #[.val (.int p0), .val (.long q1), .second, .val (.long q2), .second, .val (.long q3), .second, .val (.int (3 : Int32)), .val (.int (own_hi q1)), .val (.int (own_lo q1)), .val (.int (own_hi q2)), .val (.int (own_lo q2)), .val (.int (own_hi q3)), .val (.int (own_lo q3)), .val (.ref b177), .val (.ref b181), .unset, .unset, .unset] [(.int (1 : Int32))])) _
              refine XS.goto X181.here hx rfl (pc0 := 109) (pc' := 113) rfl (hb hby at_109) (by decide) (by decide) ?_
              exact kt
            rw [show (own_nw [((own_hi q1), (own_lo q1)), ((own_hi q2), (own_lo q2)), ((own_hi q3), (own_lo q3))]) = (1 : Int32) from by simp only [own_nw, c185, c188, c191, if_true, if_false]] at kt
            exact pre194 _ kt
    have pre195 : ∀ t, Steps p.tables e below (T181.setTop (mkF m 115 #[.val (.int p0), .val (.long q1), .second, .val (.long q2), .second, .val (.long q3), .second, .val (.int (3 : Int32)), .val (.int (own_hi q1)), .val (.int (own_lo q1)), .val (.int (own_hi q2)), .val (.int (own_lo q2)), .val (.int (own_hi q3)), .val (.int (own_lo q3)), .val (.ref b177), .val (.ref b181), .val (.int (own_nw [((own_hi q1), (own_lo q1)), ((own_hi q2), (own_lo q2)), ((own_hi q3), (own_lo q3))])), .unset, .unset] [])) t → Steps p.tables e below (s₁.setTop (entryFrame m #[(.int p0), (.long q1), (.long q2), (.long q3)] maxLocals)) t := fun t kt => by
      refine pre184 _ ?_
      show Steps p.tables e below (T181.setTop (mkF m 113 #[.val (.int p0), .val (.long q1), .second, .val (.long q2), .second, .val (.long q3), .second, .val (.int (3 : Int32)), .val (.int (own_hi q1)), .val (.int (own_lo q1)), .val (.int (own_hi q2)), .val (.int (own_lo q2)), .val (.int (own_hi q3)), .val (.int (own_lo q3)), .val (.ref b177), .val (.ref b181), .unset, .unset, .unset] [(.int (own_nw [((own_hi q1), (own_lo q1)), ((own_hi q2), (own_lo q2)), ((own_hi q3), (own_lo q3))]))])) _
      refine XS.istore X181.here hx rfl (hb hby at_113) rfl (l' := #[.val (.int p0), .val (.long q1), .second, .val (.long q2), .second, .val (.long q3), .second, .val (.int (3 : Int32)), .val (.int (own_hi q1)), .val (.int (own_lo q1)), .val (.int (own_hi q2)), .val (.int (own_lo q2)), .val (.int (own_hi q3)), .val (.int (own_lo q3)), .val (.ref b177), .val (.ref b181), .val (.int (own_nw [((own_hi q1), (own_lo q1)), ((own_hi q2), (own_lo q2)), ((own_hi q3), (own_lo q3))])), .unset, .unset]) rfl ?_
      exact kt
    have pre196 : ∀ t, Steps p.tables e below (T181.setTop (mkF m 159 #[.val (.int p0), .val (.long q1), .second, .val (.long q2), .second, .val (.long q3), .second, .val (.int (3 : Int32)), .val (.int (own_hi q1)), .val (.int (own_lo q1)), .val (.int (own_hi q2)), .val (.int (own_lo q2)), .val (.int (own_hi q3)), .val (.int (own_lo q3)), .val (.ref b177), .val (.ref b181), .val (.int (own_nw [((own_hi q1), (own_lo q1)), ((own_hi q2), (own_lo q2)), ((own_hi q3), (own_lo q3))])), .unset, .unset] [(.int (own_bt [((own_hi q1), (own_lo q1)), ((own_hi q2), (own_lo q2)), ((own_hi q3), (own_lo q3))]))])) t → Steps p.tables e below (s₁.setTop (entryFrame m #[(.int p0), (.long q1), (.long q2), (.long q3)] maxLocals)) t := fun t kt => by
      have pre198 : ∀ t, Steps p.tables e below (T181.setTop (mkF m 125 #[.val (.int p0), .val (.long q1), .second, .val (.long q2), .second, .val (.long q3), .second, .val (.int (3 : Int32)), .val (.int (own_hi q1)), .val (.int (own_lo q1)), .val (.int (own_hi q2)), .val (.int (own_lo q2)), .val (.int (own_hi q3)), .val (.int (own_lo q3)), .val (.ref b177), .val (.ref b181), .val (.int (own_nw [((own_hi q1), (own_lo q1)), ((own_hi q2), (own_lo q2)), ((own_hi q3), (own_lo q3))])), .unset, .unset] [(.int (own_lo q1)), (.int (own_hi q1))])) t → Steps p.tables e below (s₁.setTop (entryFrame m #[(.int p0), (.long q1), (.long q2), (.long q3)] maxLocals)) t := fun t kt => by
        refine pre195 _ ?_
        show Steps p.tables e below (T181.setTop (mkF m 115 #[.val (.int p0), .val (.long q1), .second, .val (.long q2), .second, .val (.long q3), .second, .val (.int (3 : Int32)), .val (.int (own_hi q1)), .val (.int (own_lo q1)), .val (.int (own_hi q2)), .val (.int (own_lo q2)), .val (.int (own_hi q3)), .val (.int (own_lo q3)), .val (.ref b177), .val (.ref b181), .val (.int (own_nw [((own_hi q1), (own_lo q1)), ((own_hi q2), (own_lo q2)), ((own_hi q3), (own_lo q3))])), .unset, .unset] [])) _
        refine XS.iload X181.here hx rfl (hb hby at_115) rfl ?_
        show Steps p.tables e below (T181.setTop (mkF m 117 #[.val (.int p0), .val (.long q1), .second, .val (.long q2), .second, .val (.long q3), .second, .val (.int (3 : Int32)), .val (.int (own_hi q1)), .val (.int (own_lo q1)), .val (.int (own_hi q2)), .val (.int (own_lo q2)), .val (.int (own_hi q3)), .val (.int (own_lo q3)), .val (.ref b177), .val (.ref b181), .val (.int (own_nw [((own_hi q1), (own_lo q1)), ((own_hi q2), (own_lo q2)), ((own_hi q3), (own_lo q3))])), .unset, .unset] [(.int (3 : Int32))])) _
        refine XS.iconst X181.here hx rfl (hb hby at_117) ?_
        show Steps p.tables e below (T181.setTop (mkF m 118 #[.val (.int p0), .val (.long q1), .second, .val (.long q2), .second, .val (.long q3), .second, .val (.int (3 : Int32)), .val (.int (own_hi q1)), .val (.int (own_lo q1)), .val (.int (own_hi q2)), .val (.int (own_lo q2)), .val (.int (own_hi q3)), .val (.int (own_lo q3)), .val (.ref b177), .val (.ref b181), .val (.int (own_nw [((own_hi q1), (own_lo q1)), ((own_hi q2), (own_lo q2)), ((own_hi q3), (own_lo q3))])), .unset, .unset] [(.int (1 : Int32)), (.int (3 : Int32))])) _
        refine XS.icmpNo X181.here hx rfl (hb hby at_118) rfl (flt (by decide : ¬ ((3 : Int32) < (1 : Int32)))).1 ?_
        show Steps p.tables e below (T181.setTop (mkF m 121 #[.val (.int p0), .val (.long q1), .second, .val (.long q2), .second, .val (.long q3), .second, .val (.int (3 : Int32)), .val (.int (own_hi q1)), .val (.int (own_lo q1)), .val (.int (own_hi q2)), .val (.int (own_lo q2)), .val (.int (own_hi q3)), .val (.int (own_lo q3)), .val (.ref b177), .val (.ref b181), .val (.int (own_nw [((own_hi q1), (own_lo q1)), ((own_hi q2), (own_lo q2)), ((own_hi q3), (own_lo q3))])), .unset, .unset] [])) _
        refine XS.iload X181.here hx rfl (hb hby at_121) rfl ?_
        show Steps p.tables e below (T181.setTop (mkF m 123 #[.val (.int p0), .val (.long q1), .second, .val (.long q2), .second, .val (.long q3), .second, .val (.int (3 : Int32)), .val (.int (own_hi q1)), .val (.int (own_lo q1)), .val (.int (own_hi q2)), .val (.int (own_lo q2)), .val (.int (own_hi q3)), .val (.int (own_lo q3)), .val (.ref b177), .val (.ref b181), .val (.int (own_nw [((own_hi q1), (own_lo q1)), ((own_hi q2), (own_lo q2)), ((own_hi q3), (own_lo q3))])), .unset, .unset] [(.int (own_hi q1))])) _
        refine XS.iload X181.here hx rfl (hb hby at_123) rfl ?_
        exact kt
      by_cases c197 : (own_hi q1) < (own_lo q1)
      · have pre199 : ∀ t, Steps p.tables e below (T181.setTop (mkF m 159 #[.val (.int p0), .val (.long q1), .second, .val (.long q2), .second, .val (.long q3), .second, .val (.int (3 : Int32)), .val (.int (own_hi q1)), .val (.int (own_lo q1)), .val (.int (own_hi q2)), .val (.int (own_lo q2)), .val (.int (own_hi q3)), .val (.int (own_lo q3)), .val (.ref b177), .val (.ref b181), .val (.int (own_nw [((own_hi q1), (own_lo q1)), ((own_hi q2), (own_lo q2)), ((own_hi q3), (own_lo q3))])), .unset, .unset] [(.int (1 : Int32))])) t → Steps p.tables e below (s₁.setTop (entryFrame m #[(.int p0), (.long q1), (.long q2), (.long q3)] maxLocals)) t := fun t kt => by
          refine pre198 _ ?_
          show Steps p.tables e below (T181.setTop (mkF m 125 #[.val (.int p0), .val (.long q1), .second, .val (.long q2), .second, .val (.long q3), .second, .val (.int (3 : Int32)), .val (.int (own_hi q1)), .val (.int (own_lo q1)), .val (.int (own_hi q2)), .val (.int (own_lo q2)), .val (.int (own_hi q3)), .val (.int (own_lo q3)), .val (.ref b177), .val (.ref b181), .val (.int (own_nw [((own_hi q1), (own_lo q1)), ((own_hi q2), (own_lo q2)), ((own_hi q3), (own_lo q3))])), .unset, .unset] [(.int (own_lo q1)), (.int (own_hi q1))])) _
          refine XS.icmpYes X181.here hx rfl (pc0 := 125) (pc' := 154) rfl (hb hby at_125) rfl (tlt (c197 : (own_hi q1) < (own_lo q1))).1 (by decide) (by decide) ?_
          show Steps p.tables e below (T181.setTop (mkF m 154 #[.val (.int p0), .val (.long q1), .second, .val (.long q2), .second, .val (.long q3), .second, .val (.int (3 : Int32)), .val (.int (own_hi q1)), .val (.int (own_lo q1)), .val (.int (own_hi q2)), .val (.int (own_lo q2)), .val (.int (own_hi q3)), .val (.int (own_lo q3)), .val (.ref b177), .val (.ref b181), .val (.int (own_nw [((own_hi q1), (own_lo q1)), ((own_hi q2), (own_lo q2)), ((own_hi q3), (own_lo q3))])), .unset, .unset] [])) _
          refine XS.iconst X181.here hx rfl (hb hby at_154) ?_
          show Steps p.tables e below (T181.setTop (mkF m 155 #[.val (.int p0), .val (.long q1), .second, .val (.long q2), .second, .val (.long q3), .second, .val (.int (3 : Int32)), .val (.int (own_hi q1)), .val (.int (own_lo q1)), .val (.int (own_hi q2)), .val (.int (own_lo q2)), .val (.int (own_hi q3)), .val (.int (own_lo q3)), .val (.ref b177), .val (.ref b181), .val (.int (own_nw [((own_hi q1), (own_lo q1)), ((own_hi q2), (own_lo q2)), ((own_hi q3), (own_lo q3))])), .unset, .unset] [(.int (1 : Int32))])) _
          refine XS.goto X181.here hx rfl (pc0 := 155) (pc' := 159) rfl (hb hby at_155) (by decide) (by decide) ?_
          exact kt
        rw [show (own_bt [((own_hi q1), (own_lo q1)), ((own_hi q2), (own_lo q2)), ((own_hi q3), (own_lo q3))]) = (1 : Int32) from by simp only [own_bt, c197, if_true, if_false]] at kt
        exact pre199 _ kt
      · have pre201 : ∀ t, Steps p.tables e below (T181.setTop (mkF m 138 #[.val (.int p0), .val (.long q1), .second, .val (.long q2), .second, .val (.long q3), .second, .val (.int (3 : Int32)), .val (.int (own_hi q1)), .val (.int (own_lo q1)), .val (.int (own_hi q2)), .val (.int (own_lo q2)), .val (.int (own_hi q3)), .val (.int (own_lo q3)), .val (.ref b177), .val (.ref b181), .val (.int (own_nw [((own_hi q1), (own_lo q1)), ((own_hi q2), (own_lo q2)), ((own_hi q3), (own_lo q3))])), .unset, .unset] [(.int (own_lo q2)), (.int (own_hi q2))])) t → Steps p.tables e below (s₁.setTop (entryFrame m #[(.int p0), (.long q1), (.long q2), (.long q3)] maxLocals)) t := fun t kt => by
          refine pre198 _ ?_
          show Steps p.tables e below (T181.setTop (mkF m 125 #[.val (.int p0), .val (.long q1), .second, .val (.long q2), .second, .val (.long q3), .second, .val (.int (3 : Int32)), .val (.int (own_hi q1)), .val (.int (own_lo q1)), .val (.int (own_hi q2)), .val (.int (own_lo q2)), .val (.int (own_hi q3)), .val (.int (own_lo q3)), .val (.ref b177), .val (.ref b181), .val (.int (own_nw [((own_hi q1), (own_lo q1)), ((own_hi q2), (own_lo q2)), ((own_hi q3), (own_lo q3))])), .unset, .unset] [(.int (own_lo q1)), (.int (own_hi q1))])) _
          refine XS.icmpNo X181.here hx rfl (hb hby at_125) rfl (flt (c197 : ¬ ((own_hi q1) < (own_lo q1)))).1 ?_
          show Steps p.tables e below (T181.setTop (mkF m 128 #[.val (.int p0), .val (.long q1), .second, .val (.long q2), .second, .val (.long q3), .second, .val (.int (3 : Int32)), .val (.int (own_hi q1)), .val (.int (own_lo q1)), .val (.int (own_hi q2)), .val (.int (own_lo q2)), .val (.int (own_hi q3)), .val (.int (own_lo q3)), .val (.ref b177), .val (.ref b181), .val (.int (own_nw [((own_hi q1), (own_lo q1)), ((own_hi q2), (own_lo q2)), ((own_hi q3), (own_lo q3))])), .unset, .unset] [])) _
          refine XS.iload X181.here hx rfl (hb hby at_128) rfl ?_
          show Steps p.tables e below (T181.setTop (mkF m 130 #[.val (.int p0), .val (.long q1), .second, .val (.long q2), .second, .val (.long q3), .second, .val (.int (3 : Int32)), .val (.int (own_hi q1)), .val (.int (own_lo q1)), .val (.int (own_hi q2)), .val (.int (own_lo q2)), .val (.int (own_hi q3)), .val (.int (own_lo q3)), .val (.ref b177), .val (.ref b181), .val (.int (own_nw [((own_hi q1), (own_lo q1)), ((own_hi q2), (own_lo q2)), ((own_hi q3), (own_lo q3))])), .unset, .unset] [(.int (3 : Int32))])) _
          refine XS.iconst X181.here hx rfl (hb hby at_130) ?_
          show Steps p.tables e below (T181.setTop (mkF m 131 #[.val (.int p0), .val (.long q1), .second, .val (.long q2), .second, .val (.long q3), .second, .val (.int (3 : Int32)), .val (.int (own_hi q1)), .val (.int (own_lo q1)), .val (.int (own_hi q2)), .val (.int (own_lo q2)), .val (.int (own_hi q3)), .val (.int (own_lo q3)), .val (.ref b177), .val (.ref b181), .val (.int (own_nw [((own_hi q1), (own_lo q1)), ((own_hi q2), (own_lo q2)), ((own_hi q3), (own_lo q3))])), .unset, .unset] [(.int (2 : Int32)), (.int (3 : Int32))])) _
          refine XS.icmpNo X181.here hx rfl (hb hby at_131) rfl (flt (by decide : ¬ ((3 : Int32) < (2 : Int32)))).1 ?_
          show Steps p.tables e below (T181.setTop (mkF m 134 #[.val (.int p0), .val (.long q1), .second, .val (.long q2), .second, .val (.long q3), .second, .val (.int (3 : Int32)), .val (.int (own_hi q1)), .val (.int (own_lo q1)), .val (.int (own_hi q2)), .val (.int (own_lo q2)), .val (.int (own_hi q3)), .val (.int (own_lo q3)), .val (.ref b177), .val (.ref b181), .val (.int (own_nw [((own_hi q1), (own_lo q1)), ((own_hi q2), (own_lo q2)), ((own_hi q3), (own_lo q3))])), .unset, .unset] [])) _
          refine XS.iload X181.here hx rfl (hb hby at_134) rfl ?_
          show Steps p.tables e below (T181.setTop (mkF m 136 #[.val (.int p0), .val (.long q1), .second, .val (.long q2), .second, .val (.long q3), .second, .val (.int (3 : Int32)), .val (.int (own_hi q1)), .val (.int (own_lo q1)), .val (.int (own_hi q2)), .val (.int (own_lo q2)), .val (.int (own_hi q3)), .val (.int (own_lo q3)), .val (.ref b177), .val (.ref b181), .val (.int (own_nw [((own_hi q1), (own_lo q1)), ((own_hi q2), (own_lo q2)), ((own_hi q3), (own_lo q3))])), .unset, .unset] [(.int (own_hi q2))])) _
          refine XS.iload X181.here hx rfl (hb hby at_136) rfl ?_
          exact kt
        by_cases c200 : (own_hi q2) < (own_lo q2)
        · have pre202 : ∀ t, Steps p.tables e below (T181.setTop (mkF m 159 #[.val (.int p0), .val (.long q1), .second, .val (.long q2), .second, .val (.long q3), .second, .val (.int (3 : Int32)), .val (.int (own_hi q1)), .val (.int (own_lo q1)), .val (.int (own_hi q2)), .val (.int (own_lo q2)), .val (.int (own_hi q3)), .val (.int (own_lo q3)), .val (.ref b177), .val (.ref b181), .val (.int (own_nw [((own_hi q1), (own_lo q1)), ((own_hi q2), (own_lo q2)), ((own_hi q3), (own_lo q3))])), .unset, .unset] [(.int (1 : Int32))])) t → Steps p.tables e below (s₁.setTop (entryFrame m #[(.int p0), (.long q1), (.long q2), (.long q3)] maxLocals)) t := fun t kt => by
            refine pre201 _ ?_
            show Steps p.tables e below (T181.setTop (mkF m 138 #[.val (.int p0), .val (.long q1), .second, .val (.long q2), .second, .val (.long q3), .second, .val (.int (3 : Int32)), .val (.int (own_hi q1)), .val (.int (own_lo q1)), .val (.int (own_hi q2)), .val (.int (own_lo q2)), .val (.int (own_hi q3)), .val (.int (own_lo q3)), .val (.ref b177), .val (.ref b181), .val (.int (own_nw [((own_hi q1), (own_lo q1)), ((own_hi q2), (own_lo q2)), ((own_hi q3), (own_lo q3))])), .unset, .unset] [(.int (own_lo q2)), (.int (own_hi q2))])) _
            refine XS.icmpYes X181.here hx rfl (pc0 := 138) (pc' := 154) rfl (hb hby at_138) rfl (tlt (c200 : (own_hi q2) < (own_lo q2))).1 (by decide) (by decide) ?_
            show Steps p.tables e below (T181.setTop (mkF m 154 #[.val (.int p0), .val (.long q1), .second, .val (.long q2), .second, .val (.long q3), .second, .val (.int (3 : Int32)), .val (.int (own_hi q1)), .val (.int (own_lo q1)), .val (.int (own_hi q2)), .val (.int (own_lo q2)), .val (.int (own_hi q3)), .val (.int (own_lo q3)), .val (.ref b177), .val (.ref b181), .val (.int (own_nw [((own_hi q1), (own_lo q1)), ((own_hi q2), (own_lo q2)), ((own_hi q3), (own_lo q3))])), .unset, .unset] [])) _
            refine XS.iconst X181.here hx rfl (hb hby at_154) ?_
            show Steps p.tables e below (T181.setTop (mkF m 155 #[.val (.int p0), .val (.long q1), .second, .val (.long q2), .second, .val (.long q3), .second, .val (.int (3 : Int32)), .val (.int (own_hi q1)), .val (.int (own_lo q1)), .val (.int (own_hi q2)), .val (.int (own_lo q2)), .val (.int (own_hi q3)), .val (.int (own_lo q3)), .val (.ref b177), .val (.ref b181), .val (.int (own_nw [((own_hi q1), (own_lo q1)), ((own_hi q2), (own_lo q2)), ((own_hi q3), (own_lo q3))])), .unset, .unset] [(.int (1 : Int32))])) _
            refine XS.goto X181.here hx rfl (pc0 := 155) (pc' := 159) rfl (hb hby at_155) (by decide) (by decide) ?_
            exact kt
          rw [show (own_bt [((own_hi q1), (own_lo q1)), ((own_hi q2), (own_lo q2)), ((own_hi q3), (own_lo q3))]) = (1 : Int32) from by simp only [own_bt, c197, c200, if_true, if_false]] at kt
          exact pre202 _ kt
        · have pre204 : ∀ t, Steps p.tables e below (T181.setTop (mkF m 151 #[.val (.int p0), .val (.long q1), .second, .val (.long q2), .second, .val (.long q3), .second, .val (.int (3 : Int32)), .val (.int (own_hi q1)), .val (.int (own_lo q1)), .val (.int (own_hi q2)), .val (.int (own_lo q2)), .val (.int (own_hi q3)), .val (.int (own_lo q3)), .val (.ref b177), .val (.ref b181), .val (.int (own_nw [((own_hi q1), (own_lo q1)), ((own_hi q2), (own_lo q2)), ((own_hi q3), (own_lo q3))])), .unset, .unset] [(.int (own_lo q3)), (.int (own_hi q3))])) t → Steps p.tables e below (s₁.setTop (entryFrame m #[(.int p0), (.long q1), (.long q2), (.long q3)] maxLocals)) t := fun t kt => by
            refine pre201 _ ?_
            show Steps p.tables e below (T181.setTop (mkF m 138 #[.val (.int p0), .val (.long q1), .second, .val (.long q2), .second, .val (.long q3), .second, .val (.int (3 : Int32)), .val (.int (own_hi q1)), .val (.int (own_lo q1)), .val (.int (own_hi q2)), .val (.int (own_lo q2)), .val (.int (own_hi q3)), .val (.int (own_lo q3)), .val (.ref b177), .val (.ref b181), .val (.int (own_nw [((own_hi q1), (own_lo q1)), ((own_hi q2), (own_lo q2)), ((own_hi q3), (own_lo q3))])), .unset, .unset] [(.int (own_lo q2)), (.int (own_hi q2))])) _
            refine XS.icmpNo X181.here hx rfl (hb hby at_138) rfl (flt (c200 : ¬ ((own_hi q2) < (own_lo q2)))).1 ?_
            show Steps p.tables e below (T181.setTop (mkF m 141 #[.val (.int p0), .val (.long q1), .second, .val (.long q2), .second, .val (.long q3), .second, .val (.int (3 : Int32)), .val (.int (own_hi q1)), .val (.int (own_lo q1)), .val (.int (own_hi q2)), .val (.int (own_lo q2)), .val (.int (own_hi q3)), .val (.int (own_lo q3)), .val (.ref b177), .val (.ref b181), .val (.int (own_nw [((own_hi q1), (own_lo q1)), ((own_hi q2), (own_lo q2)), ((own_hi q3), (own_lo q3))])), .unset, .unset] [])) _
            refine XS.iload X181.here hx rfl (hb hby at_141) rfl ?_
            show Steps p.tables e below (T181.setTop (mkF m 143 #[.val (.int p0), .val (.long q1), .second, .val (.long q2), .second, .val (.long q3), .second, .val (.int (3 : Int32)), .val (.int (own_hi q1)), .val (.int (own_lo q1)), .val (.int (own_hi q2)), .val (.int (own_lo q2)), .val (.int (own_hi q3)), .val (.int (own_lo q3)), .val (.ref b177), .val (.ref b181), .val (.int (own_nw [((own_hi q1), (own_lo q1)), ((own_hi q2), (own_lo q2)), ((own_hi q3), (own_lo q3))])), .unset, .unset] [(.int (3 : Int32))])) _
            refine XS.iconst X181.here hx rfl (hb hby at_143) ?_
            show Steps p.tables e below (T181.setTop (mkF m 144 #[.val (.int p0), .val (.long q1), .second, .val (.long q2), .second, .val (.long q3), .second, .val (.int (3 : Int32)), .val (.int (own_hi q1)), .val (.int (own_lo q1)), .val (.int (own_hi q2)), .val (.int (own_lo q2)), .val (.int (own_hi q3)), .val (.int (own_lo q3)), .val (.ref b177), .val (.ref b181), .val (.int (own_nw [((own_hi q1), (own_lo q1)), ((own_hi q2), (own_lo q2)), ((own_hi q3), (own_lo q3))])), .unset, .unset] [(.int (3 : Int32)), (.int (3 : Int32))])) _
            refine XS.icmpNo X181.here hx rfl (hb hby at_144) rfl (flt (by decide : ¬ ((3 : Int32) < (3 : Int32)))).1 ?_
            show Steps p.tables e below (T181.setTop (mkF m 147 #[.val (.int p0), .val (.long q1), .second, .val (.long q2), .second, .val (.long q3), .second, .val (.int (3 : Int32)), .val (.int (own_hi q1)), .val (.int (own_lo q1)), .val (.int (own_hi q2)), .val (.int (own_lo q2)), .val (.int (own_hi q3)), .val (.int (own_lo q3)), .val (.ref b177), .val (.ref b181), .val (.int (own_nw [((own_hi q1), (own_lo q1)), ((own_hi q2), (own_lo q2)), ((own_hi q3), (own_lo q3))])), .unset, .unset] [])) _
            refine XS.iload X181.here hx rfl (hb hby at_147) rfl ?_
            show Steps p.tables e below (T181.setTop (mkF m 149 #[.val (.int p0), .val (.long q1), .second, .val (.long q2), .second, .val (.long q3), .second, .val (.int (3 : Int32)), .val (.int (own_hi q1)), .val (.int (own_lo q1)), .val (.int (own_hi q2)), .val (.int (own_lo q2)), .val (.int (own_hi q3)), .val (.int (own_lo q3)), .val (.ref b177), .val (.ref b181), .val (.int (own_nw [((own_hi q1), (own_lo q1)), ((own_hi q2), (own_lo q2)), ((own_hi q3), (own_lo q3))])), .unset, .unset] [(.int (own_hi q3))])) _
            refine XS.iload X181.here hx rfl (hb hby at_149) rfl ?_
            exact kt
          by_cases c203 : (own_hi q3) < (own_lo q3)
          · have pre205 : ∀ t, Steps p.tables e below (T181.setTop (mkF m 159 #[.val (.int p0), .val (.long q1), .second, .val (.long q2), .second, .val (.long q3), .second, .val (.int (3 : Int32)), .val (.int (own_hi q1)), .val (.int (own_lo q1)), .val (.int (own_hi q2)), .val (.int (own_lo q2)), .val (.int (own_hi q3)), .val (.int (own_lo q3)), .val (.ref b177), .val (.ref b181), .val (.int (own_nw [((own_hi q1), (own_lo q1)), ((own_hi q2), (own_lo q2)), ((own_hi q3), (own_lo q3))])), .unset, .unset] [(.int (1 : Int32))])) t → Steps p.tables e below (s₁.setTop (entryFrame m #[(.int p0), (.long q1), (.long q2), (.long q3)] maxLocals)) t := fun t kt => by
              refine pre204 _ ?_
              show Steps p.tables e below (T181.setTop (mkF m 151 #[.val (.int p0), .val (.long q1), .second, .val (.long q2), .second, .val (.long q3), .second, .val (.int (3 : Int32)), .val (.int (own_hi q1)), .val (.int (own_lo q1)), .val (.int (own_hi q2)), .val (.int (own_lo q2)), .val (.int (own_hi q3)), .val (.int (own_lo q3)), .val (.ref b177), .val (.ref b181), .val (.int (own_nw [((own_hi q1), (own_lo q1)), ((own_hi q2), (own_lo q2)), ((own_hi q3), (own_lo q3))])), .unset, .unset] [(.int (own_lo q3)), (.int (own_hi q3))])) _
              refine XS.icmpNo X181.here hx rfl (hb hby at_151) rfl (tlt (c203 : (own_hi q3) < (own_lo q3))).2.1 ?_
              show Steps p.tables e below (T181.setTop (mkF m 154 #[.val (.int p0), .val (.long q1), .second, .val (.long q2), .second, .val (.long q3), .second, .val (.int (3 : Int32)), .val (.int (own_hi q1)), .val (.int (own_lo q1)), .val (.int (own_hi q2)), .val (.int (own_lo q2)), .val (.int (own_hi q3)), .val (.int (own_lo q3)), .val (.ref b177), .val (.ref b181), .val (.int (own_nw [((own_hi q1), (own_lo q1)), ((own_hi q2), (own_lo q2)), ((own_hi q3), (own_lo q3))])), .unset, .unset] [])) _
              refine XS.iconst X181.here hx rfl (hb hby at_154) ?_
              show Steps p.tables e below (T181.setTop (mkF m 155 #[.val (.int p0), .val (.long q1), .second, .val (.long q2), .second, .val (.long q3), .second, .val (.int (3 : Int32)), .val (.int (own_hi q1)), .val (.int (own_lo q1)), .val (.int (own_hi q2)), .val (.int (own_lo q2)), .val (.int (own_hi q3)), .val (.int (own_lo q3)), .val (.ref b177), .val (.ref b181), .val (.int (own_nw [((own_hi q1), (own_lo q1)), ((own_hi q2), (own_lo q2)), ((own_hi q3), (own_lo q3))])), .unset, .unset] [(.int (1 : Int32))])) _
              refine XS.goto X181.here hx rfl (pc0 := 155) (pc' := 159) rfl (hb hby at_155) (by decide) (by decide) ?_
              exact kt
            rw [show (own_bt [((own_hi q1), (own_lo q1)), ((own_hi q2), (own_lo q2)), ((own_hi q3), (own_lo q3))]) = (1 : Int32) from by simp only [own_bt, c197, c200, c203, if_true, if_false]] at kt
            exact pre205 _ kt
          · have pre206 : ∀ t, Steps p.tables e below (T181.setTop (mkF m 159 #[.val (.int p0), .val (.long q1), .second, .val (.long q2), .second, .val (.long q3), .second, .val (.int (3 : Int32)), .val (.int (own_hi q1)), .val (.int (own_lo q1)), .val (.int (own_hi q2)), .val (.int (own_lo q2)), .val (.int (own_hi q3)), .val (.int (own_lo q3)), .val (.ref b177), .val (.ref b181), .val (.int (own_nw [((own_hi q1), (own_lo q1)), ((own_hi q2), (own_lo q2)), ((own_hi q3), (own_lo q3))])), .unset, .unset] [(.int (0 : Int32))])) t → Steps p.tables e below (s₁.setTop (entryFrame m #[(.int p0), (.long q1), (.long q2), (.long q3)] maxLocals)) t := fun t kt => by
              refine pre204 _ ?_
              show Steps p.tables e below (T181.setTop (mkF m 151 #[.val (.int p0), .val (.long q1), .second, .val (.long q2), .second, .val (.long q3), .second, .val (.int (3 : Int32)), .val (.int (own_hi q1)), .val (.int (own_lo q1)), .val (.int (own_hi q2)), .val (.int (own_lo q2)), .val (.int (own_hi q3)), .val (.int (own_lo q3)), .val (.ref b177), .val (.ref b181), .val (.int (own_nw [((own_hi q1), (own_lo q1)), ((own_hi q2), (own_lo q2)), ((own_hi q3), (own_lo q3))])), .unset, .unset] [(.int (own_lo q3)), (.int (own_hi q3))])) _
              refine XS.icmpYes X181.here hx rfl (pc0 := 151) (pc' := 158) rfl (hb hby at_151) rfl (flt (c203 : ¬ ((own_hi q3) < (own_lo q3)))).2.1 (by decide) (by decide) ?_
              show Steps p.tables e below (T181.setTop (mkF m 158 #[.val (.int p0), .val (.long q1), .second, .val (.long q2), .second, .val (.long q3), .second, .val (.int (3 : Int32)), .val (.int (own_hi q1)), .val (.int (own_lo q1)), .val (.int (own_hi q2)), .val (.int (own_lo q2)), .val (.int (own_hi q3)), .val (.int (own_lo q3)), .val (.ref b177), .val (.ref b181), .val (.int (own_nw [((own_hi q1), (own_lo q1)), ((own_hi q2), (own_lo q2)), ((own_hi q3), (own_lo q3))])), .unset, .unset] [])) _
              refine XS.iconst X181.here hx rfl (hb hby at_158) ?_
              exact kt
            rw [show (own_bt [((own_hi q1), (own_lo q1)), ((own_hi q2), (own_lo q2)), ((own_hi q3), (own_lo q3))]) = (0 : Int32) from by simp only [own_bt, c197, c200, c203, if_true, if_false]] at kt
            exact pre206 _ kt
    have pre207 : ∀ t, Steps p.tables e below (T181.setTop (mkF m 161 #[.val (.int p0), .val (.long q1), .second, .val (.long q2), .second, .val (.long q3), .second, .val (.int (3 : Int32)), .val (.int (own_hi q1)), .val (.int (own_lo q1)), .val (.int (own_hi q2)), .val (.int (own_lo q2)), .val (.int (own_hi q3)), .val (.int (own_lo q3)), .val (.ref b177), .val (.ref b181), .val (.int (own_nw [((own_hi q1), (own_lo q1)), ((own_hi q2), (own_lo q2)), ((own_hi q3), (own_lo q3))])), .val (.int (own_bt [((own_hi q1), (own_lo q1)), ((own_hi q2), (own_lo q2)), ((own_hi q3), (own_lo q3))])), .unset] [])) t → Steps p.tables e below (s₁.setTop (entryFrame m #[(.int p0), (.long q1), (.long q2), (.long q3)] maxLocals)) t := fun t kt => by
      refine pre196 _ ?_
      show Steps p.tables e below (T181.setTop (mkF m 159 #[.val (.int p0), .val (.long q1), .second, .val (.long q2), .second, .val (.long q3), .second, .val (.int (3 : Int32)), .val (.int (own_hi q1)), .val (.int (own_lo q1)), .val (.int (own_hi q2)), .val (.int (own_lo q2)), .val (.int (own_hi q3)), .val (.int (own_lo q3)), .val (.ref b177), .val (.ref b181), .val (.int (own_nw [((own_hi q1), (own_lo q1)), ((own_hi q2), (own_lo q2)), ((own_hi q3), (own_lo q3))])), .unset, .unset] [(.int (own_bt [((own_hi q1), (own_lo q1)), ((own_hi q2), (own_lo q2)), ((own_hi q3), (own_lo q3))]))])) _
      refine XS.istore X181.here hx rfl (hb hby at_159) rfl (l' := #[.val (.int p0), .val (.long q1), .second, .val (.long q2), .second, .val (.long q3), .second, .val (.int (3 : Int32)), .val (.int (own_hi q1)), .val (.int (own_lo q1)), .val (.int (own_hi q2)), .val (.int (own_lo q2)), .val (.int (own_hi q3)), .val (.int (own_lo q3)), .val (.ref b177), .val (.ref b181), .val (.int (own_nw [((own_hi q1), (own_lo q1)), ((own_hi q2), (own_lo q2)), ((own_hi q3), (own_lo q3))])), .val (.int (own_bt [((own_hi q1), (own_lo q1)), ((own_hi q2), (own_lo q2)), ((own_hi q3), (own_lo q3))])), .unset]) rfl ?_
      exact kt
    have pre208 : ∀ t, Steps p.tables e below (T181.setTop (mkF m 176 #[.val (.int p0), .val (.long q1), .second, .val (.long q2), .second, .val (.long q3), .second, .val (.int (3 : Int32)), .val (.int (own_hi q1)), .val (.int (own_lo q1)), .val (.int (own_hi q2)), .val (.int (own_lo q2)), .val (.int (own_hi q3)), .val (.int (own_lo q3)), .val (.ref b177), .val (.ref b181), .val (.int (own_nw [((own_hi q1), (own_lo q1)), ((own_hi q2), (own_lo q2)), ((own_hi q3), (own_lo q3))])), .val (.int (own_bt [((own_hi q1), (own_lo q1)), ((own_hi q2), (own_lo q2)), ((own_hi q3), (own_lo q3))])), .unset] [(.int (own_ex (own_nw [((own_hi q1), (own_lo q1)), ((own_hi q2), (own_lo q2)), ((own_hi q3), (own_lo q3))]) (own_bt [((own_hi q1), (own_lo q1)), ((own_hi q2), (own_lo q2)), ((own_hi q3), (own_lo q3))])))])) t → Steps p.tables e below (s₁.setTop (entryFrame m #[(.int p0), (.long q1), (.long q2), (.long q3)] maxLocals)) t := fun t kt => by
      have pre210 : ∀ t, Steps p.tables e below (T181.setTop (mkF m 163 #[.val (.int p0), .val (.long q1), .second, .val (.long q2), .second, .val (.long q3), .second, .val (.int (3 : Int32)), .val (.int (own_hi q1)), .val (.int (own_lo q1)), .val (.int (own_hi q2)), .val (.int (own_lo q2)), .val (.int (own_hi q3)), .val (.int (own_lo q3)), .val (.ref b177), .val (.ref b181), .val (.int (own_nw [((own_hi q1), (own_lo q1)), ((own_hi q2), (own_lo q2)), ((own_hi q3), (own_lo q3))])), .val (.int (own_bt [((own_hi q1), (own_lo q1)), ((own_hi q2), (own_lo q2)), ((own_hi q3), (own_lo q3))])), .unset] [(.int (own_nw [((own_hi q1), (own_lo q1)), ((own_hi q2), (own_lo q2)), ((own_hi q3), (own_lo q3))]))])) t → Steps p.tables e below (s₁.setTop (entryFrame m #[(.int p0), (.long q1), (.long q2), (.long q3)] maxLocals)) t := fun t kt => by
        refine pre207 _ ?_
        show Steps p.tables e below (T181.setTop (mkF m 161 #[.val (.int p0), .val (.long q1), .second, .val (.long q2), .second, .val (.long q3), .second, .val (.int (3 : Int32)), .val (.int (own_hi q1)), .val (.int (own_lo q1)), .val (.int (own_hi q2)), .val (.int (own_lo q2)), .val (.int (own_hi q3)), .val (.int (own_lo q3)), .val (.ref b177), .val (.ref b181), .val (.int (own_nw [((own_hi q1), (own_lo q1)), ((own_hi q2), (own_lo q2)), ((own_hi q3), (own_lo q3))])), .val (.int (own_bt [((own_hi q1), (own_lo q1)), ((own_hi q2), (own_lo q2)), ((own_hi q3), (own_lo q3))])), .unset] [])) _
        refine XS.iload X181.here hx rfl (hb hby at_161) rfl ?_
        exact kt
      by_cases c209 : (own_nw [((own_hi q1), (own_lo q1)), ((own_hi q2), (own_lo q2)), ((own_hi q3), (own_lo q3))]) = (0 : Int32)
      · have pre211 : ∀ t, Steps p.tables e below (T181.setTop (mkF m 176 #[.val (.int p0), .val (.long q1), .second, .val (.long q2), .second, .val (.long q3), .second, .val (.int (3 : Int32)), .val (.int (own_hi q1)), .val (.int (own_lo q1)), .val (.int (own_hi q2)), .val (.int (own_lo q2)), .val (.int (own_hi q3)), .val (.int (own_lo q3)), .val (.ref b177), .val (.ref b181), .val (.int (own_nw [((own_hi q1), (own_lo q1)), ((own_hi q2), (own_lo q2)), ((own_hi q3), (own_lo q3))])), .val (.int (own_bt [((own_hi q1), (own_lo q1)), ((own_hi q2), (own_lo q2)), ((own_hi q3), (own_lo q3))])), .unset] [(.int (0 : Int32))])) t → Steps p.tables e below (s₁.setTop (entryFrame m #[(.int p0), (.long q1), (.long q2), (.long q3)] maxLocals)) t := fun t kt => by
          refine pre210 _ ?_
          show Steps p.tables e below (T181.setTop (mkF m 163 #[.val (.int p0), .val (.long q1), .second, .val (.long q2), .second, .val (.long q3), .second, .val (.int (3 : Int32)), .val (.int (own_hi q1)), .val (.int (own_lo q1)), .val (.int (own_hi q2)), .val (.int (own_lo q2)), .val (.int (own_hi q3)), .val (.int (own_lo q3)), .val (.ref b177), .val (.ref b181), .val (.int (own_nw [((own_hi q1), (own_lo q1)), ((own_hi q2), (own_lo q2)), ((own_hi q3), (own_lo q3))])), .val (.int (own_bt [((own_hi q1), (own_lo q1)), ((own_hi q2), (own_lo q2)), ((own_hi q3), (own_lo q3))])), .unset] [(.int (own_nw [((own_hi q1), (own_lo q1)), ((own_hi q2), (own_lo q2)), ((own_hi q3), (own_lo q3))]))])) _
          refine XS.ifYes X181.here hx rfl (pc0 := 163) (pc' := 175) rfl (hb hby at_163) rfl ((if0 _ _).trans (teq (c209 : (own_nw [((own_hi q1), (own_lo q1)), ((own_hi q2), (own_lo q2)), ((own_hi q3), (own_lo q3))]) = (0 : Int32))).1) (by decide) (by decide) ?_
          show Steps p.tables e below (T181.setTop (mkF m 175 #[.val (.int p0), .val (.long q1), .second, .val (.long q2), .second, .val (.long q3), .second, .val (.int (3 : Int32)), .val (.int (own_hi q1)), .val (.int (own_lo q1)), .val (.int (own_hi q2)), .val (.int (own_lo q2)), .val (.int (own_hi q3)), .val (.int (own_lo q3)), .val (.ref b177), .val (.ref b181), .val (.int (own_nw [((own_hi q1), (own_lo q1)), ((own_hi q2), (own_lo q2)), ((own_hi q3), (own_lo q3))])), .val (.int (own_bt [((own_hi q1), (own_lo q1)), ((own_hi q2), (own_lo q2)), ((own_hi q3), (own_lo q3))])), .unset] [])) _
          refine XS.iconst X181.here hx rfl (hb hby at_175) ?_
          exact kt
        rw [show (own_ex (own_nw [((own_hi q1), (own_lo q1)), ((own_hi q2), (own_lo q2)), ((own_hi q3), (own_lo q3))]) (own_bt [((own_hi q1), (own_lo q1)), ((own_hi q2), (own_lo q2)), ((own_hi q3), (own_lo q3))])) = (0 : Int32) from by simp only [own_ex, c209, if_true, if_false]] at kt
        exact pre211 _ kt
      · have pre213 : ∀ t, Steps p.tables e below (T181.setTop (mkF m 168 #[.val (.int p0), .val (.long q1), .second, .val (.long q2), .second, .val (.long q3), .second, .val (.int (3 : Int32)), .val (.int (own_hi q1)), .val (.int (own_lo q1)), .val (.int (own_hi q2)), .val (.int (own_lo q2)), .val (.int (own_hi q3)), .val (.int (own_lo q3)), .val (.ref b177), .val (.ref b181), .val (.int (own_nw [((own_hi q1), (own_lo q1)), ((own_hi q2), (own_lo q2)), ((own_hi q3), (own_lo q3))])), .val (.int (own_bt [((own_hi q1), (own_lo q1)), ((own_hi q2), (own_lo q2)), ((own_hi q3), (own_lo q3))])), .unset] [(.int (own_bt [((own_hi q1), (own_lo q1)), ((own_hi q2), (own_lo q2)), ((own_hi q3), (own_lo q3))]))])) t → Steps p.tables e below (s₁.setTop (entryFrame m #[(.int p0), (.long q1), (.long q2), (.long q3)] maxLocals)) t := fun t kt => by
          refine pre210 _ ?_
          show Steps p.tables e below (T181.setTop (mkF m 163 #[.val (.int p0), .val (.long q1), .second, .val (.long q2), .second, .val (.long q3), .second, .val (.int (3 : Int32)), .val (.int (own_hi q1)), .val (.int (own_lo q1)), .val (.int (own_hi q2)), .val (.int (own_lo q2)), .val (.int (own_hi q3)), .val (.int (own_lo q3)), .val (.ref b177), .val (.ref b181), .val (.int (own_nw [((own_hi q1), (own_lo q1)), ((own_hi q2), (own_lo q2)), ((own_hi q3), (own_lo q3))])), .val (.int (own_bt [((own_hi q1), (own_lo q1)), ((own_hi q2), (own_lo q2)), ((own_hi q3), (own_lo q3))])), .unset] [(.int (own_nw [((own_hi q1), (own_lo q1)), ((own_hi q2), (own_lo q2)), ((own_hi q3), (own_lo q3))]))])) _
          refine XS.ifNo X181.here hx rfl (hb hby at_163) rfl ((if0 _ _).trans (feq (c209 : ¬ ((own_nw [((own_hi q1), (own_lo q1)), ((own_hi q2), (own_lo q2)), ((own_hi q3), (own_lo q3))]) = (0 : Int32)))).1) ?_
          show Steps p.tables e below (T181.setTop (mkF m 166 #[.val (.int p0), .val (.long q1), .second, .val (.long q2), .second, .val (.long q3), .second, .val (.int (3 : Int32)), .val (.int (own_hi q1)), .val (.int (own_lo q1)), .val (.int (own_hi q2)), .val (.int (own_lo q2)), .val (.int (own_hi q3)), .val (.int (own_lo q3)), .val (.ref b177), .val (.ref b181), .val (.int (own_nw [((own_hi q1), (own_lo q1)), ((own_hi q2), (own_lo q2)), ((own_hi q3), (own_lo q3))])), .val (.int (own_bt [((own_hi q1), (own_lo q1)), ((own_hi q2), (own_lo q2)), ((own_hi q3), (own_lo q3))])), .unset] [])) _
          refine XS.iload X181.here hx rfl (hb hby at_166) rfl ?_
          exact kt
        by_cases c212 : (own_bt [((own_hi q1), (own_lo q1)), ((own_hi q2), (own_lo q2)), ((own_hi q3), (own_lo q3))]) = (0 : Int32)
        · have pre214 : ∀ t, Steps p.tables e below (T181.setTop (mkF m 176 #[.val (.int p0), .val (.long q1), .second, .val (.long q2), .second, .val (.long q3), .second, .val (.int (3 : Int32)), .val (.int (own_hi q1)), .val (.int (own_lo q1)), .val (.int (own_hi q2)), .val (.int (own_lo q2)), .val (.int (own_hi q3)), .val (.int (own_lo q3)), .val (.ref b177), .val (.ref b181), .val (.int (own_nw [((own_hi q1), (own_lo q1)), ((own_hi q2), (own_lo q2)), ((own_hi q3), (own_lo q3))])), .val (.int (own_bt [((own_hi q1), (own_lo q1)), ((own_hi q2), (own_lo q2)), ((own_hi q3), (own_lo q3))])), .unset] [(.int (0 : Int32))])) t → Steps p.tables e below (s₁.setTop (entryFrame m #[(.int p0), (.long q1), (.long q2), (.long q3)] maxLocals)) t := fun t kt => by
            refine pre213 _ ?_
            show Steps p.tables e below (T181.setTop (mkF m 168 #[.val (.int p0), .val (.long q1), .second, .val (.long q2), .second, .val (.long q3), .second, .val (.int (3 : Int32)), .val (.int (own_hi q1)), .val (.int (own_lo q1)), .val (.int (own_hi q2)), .val (.int (own_lo q2)), .val (.int (own_hi q3)), .val (.int (own_lo q3)), .val (.ref b177), .val (.ref b181), .val (.int (own_nw [((own_hi q1), (own_lo q1)), ((own_hi q2), (own_lo q2)), ((own_hi q3), (own_lo q3))])), .val (.int (own_bt [((own_hi q1), (own_lo q1)), ((own_hi q2), (own_lo q2)), ((own_hi q3), (own_lo q3))])), .unset] [(.int (own_bt [((own_hi q1), (own_lo q1)), ((own_hi q2), (own_lo q2)), ((own_hi q3), (own_lo q3))]))])) _
            refine XS.ifYes X181.here hx rfl (pc0 := 168) (pc' := 175) rfl (hb hby at_168) rfl ((if0 _ _).trans (teq (c212 : (own_bt [((own_hi q1), (own_lo q1)), ((own_hi q2), (own_lo q2)), ((own_hi q3), (own_lo q3))]) = (0 : Int32))).1) (by decide) (by decide) ?_
            show Steps p.tables e below (T181.setTop (mkF m 175 #[.val (.int p0), .val (.long q1), .second, .val (.long q2), .second, .val (.long q3), .second, .val (.int (3 : Int32)), .val (.int (own_hi q1)), .val (.int (own_lo q1)), .val (.int (own_hi q2)), .val (.int (own_lo q2)), .val (.int (own_hi q3)), .val (.int (own_lo q3)), .val (.ref b177), .val (.ref b181), .val (.int (own_nw [((own_hi q1), (own_lo q1)), ((own_hi q2), (own_lo q2)), ((own_hi q3), (own_lo q3))])), .val (.int (own_bt [((own_hi q1), (own_lo q1)), ((own_hi q2), (own_lo q2)), ((own_hi q3), (own_lo q3))])), .unset] [])) _
            refine XS.iconst X181.here hx rfl (hb hby at_175) ?_
            exact kt
          rw [show (own_ex (own_nw [((own_hi q1), (own_lo q1)), ((own_hi q2), (own_lo q2)), ((own_hi q3), (own_lo q3))]) (own_bt [((own_hi q1), (own_lo q1)), ((own_hi q2), (own_lo q2)), ((own_hi q3), (own_lo q3))])) = (0 : Int32) from by simp only [own_ex, c209, c212, if_true, if_false]] at kt
          exact pre214 _ kt
        · have pre215 : ∀ t, Steps p.tables e below (T181.setTop (mkF m 176 #[.val (.int p0), .val (.long q1), .second, .val (.long q2), .second, .val (.long q3), .second, .val (.int (3 : Int32)), .val (.int (own_hi q1)), .val (.int (own_lo q1)), .val (.int (own_hi q2)), .val (.int (own_lo q2)), .val (.int (own_hi q3)), .val (.int (own_lo q3)), .val (.ref b177), .val (.ref b181), .val (.int (own_nw [((own_hi q1), (own_lo q1)), ((own_hi q2), (own_lo q2)), ((own_hi q3), (own_lo q3))])), .val (.int (own_bt [((own_hi q1), (own_lo q1)), ((own_hi q2), (own_lo q2)), ((own_hi q3), (own_lo q3))])), .unset] [(.int (1 : Int32))])) t → Steps p.tables e below (s₁.setTop (entryFrame m #[(.int p0), (.long q1), (.long q2), (.long q3)] maxLocals)) t := fun t kt => by
            refine pre213 _ ?_
            show Steps p.tables e below (T181.setTop (mkF m 168 #[.val (.int p0), .val (.long q1), .second, .val (.long q2), .second, .val (.long q3), .second, .val (.int (3 : Int32)), .val (.int (own_hi q1)), .val (.int (own_lo q1)), .val (.int (own_hi q2)), .val (.int (own_lo q2)), .val (.int (own_hi q3)), .val (.int (own_lo q3)), .val (.ref b177), .val (.ref b181), .val (.int (own_nw [((own_hi q1), (own_lo q1)), ((own_hi q2), (own_lo q2)), ((own_hi q3), (own_lo q3))])), .val (.int (own_bt [((own_hi q1), (own_lo q1)), ((own_hi q2), (own_lo q2)), ((own_hi q3), (own_lo q3))])), .unset] [(.int (own_bt [((own_hi q1), (own_lo q1)), ((own_hi q2), (own_lo q2)), ((own_hi q3), (own_lo q3))]))])) _
            refine XS.ifNo X181.here hx rfl (hb hby at_168) rfl ((if0 _ _).trans (feq (c212 : ¬ ((own_bt [((own_hi q1), (own_lo q1)), ((own_hi q2), (own_lo q2)), ((own_hi q3), (own_lo q3))]) = (0 : Int32)))).1) ?_
            show Steps p.tables e below (T181.setTop (mkF m 171 #[.val (.int p0), .val (.long q1), .second, .val (.long q2), .second, .val (.long q3), .second, .val (.int (3 : Int32)), .val (.int (own_hi q1)), .val (.int (own_lo q1)), .val (.int (own_hi q2)), .val (.int (own_lo q2)), .val (.int (own_hi q3)), .val (.int (own_lo q3)), .val (.ref b177), .val (.ref b181), .val (.int (own_nw [((own_hi q1), (own_lo q1)), ((own_hi q2), (own_lo q2)), ((own_hi q3), (own_lo q3))])), .val (.int (own_bt [((own_hi q1), (own_lo q1)), ((own_hi q2), (own_lo q2)), ((own_hi q3), (own_lo q3))])), .unset] [])) _
            refine XS.iconst X181.here hx rfl (hb hby at_171) ?_
            show Steps p.tables e below (T181.setTop (mkF m 172 #[.val (.int p0), .val (.long q1), .second, .val (.long q2), .second, .val (.long q3), .second, .val (.int (3 : Int32)), .val (.int (own_hi q1)), .val (.int (own_lo q1)), .val (.int (own_hi q2)), .val (.int (own_lo q2)), .val (.int (own_hi q3)), .val (.int (own_lo q3)), .val (.ref b177), .val (.ref b181), .val (.int (own_nw [((own_hi q1), (own_lo q1)), ((own_hi q2), (own_lo q2)), ((own_hi q3), (own_lo q3))])), .val (.int (own_bt [((own_hi q1), (own_lo q1)), ((own_hi q2), (own_lo q2)), ((own_hi q3), (own_lo q3))])), .unset] [(.int (1 : Int32))])) _
            refine XS.goto X181.here hx rfl (pc0 := 172) (pc' := 176) rfl (hb hby at_172) (by decide) (by decide) ?_
            exact kt
          rw [show (own_ex (own_nw [((own_hi q1), (own_lo q1)), ((own_hi q2), (own_lo q2)), ((own_hi q3), (own_lo q3))]) (own_bt [((own_hi q1), (own_lo q1)), ((own_hi q2), (own_lo q2)), ((own_hi q3), (own_lo q3))])) = (1 : Int32) from by simp only [own_ex, c209, c212, if_true, if_false]] at kt
          exact pre215 _ kt
    have f216 := (Va177.keep K181 nin0)
    have z217 : n0 ≤ T181.heap.size := (Nat.le_trans z179 K181.1)
    have pre218 : ∀ t, Steps p.tables e below (T181.setTop (mkF m 182 #[.val (.int p0), .val (.long q1), .second, .val (.long q2), .second, .val (.long q3), .second, .val (.int (3 : Int32)), .val (.int (own_hi q1)), .val (.int (own_lo q1)), .val (.int (own_hi q2)), .val (.int (own_lo q2)), .val (.int (own_hi q3)), .val (.int (own_lo q3)), .val (.ref b177), .val (.ref b181), .val (.int (own_nw [((own_hi q1), (own_lo q1)), ((own_hi q2), (own_lo q2)), ((own_hi q3), (own_lo q3))])), .val (.int (own_bt [((own_hi q1), (own_lo q1)), ((own_hi q2), (own_lo q2)), ((own_hi q3), (own_lo q3))])), .val (.int (own_ex (own_nw [((own_hi q1), (own_lo q1)), ((own_hi q2), (own_lo q2)), ((own_hi q3), (own_lo q3))]) (own_bt [((own_hi q1), (own_lo q1)), ((own_hi q2), (own_lo q2)), ((own_hi q3), (own_lo q3))])))] [(.ref b181), (.ref b177)])) t → Steps p.tables e below (s₁.setTop (entryFrame m #[(.int p0), (.long q1), (.long q2), (.long q3)] maxLocals)) t := fun t kt => by
      refine pre208 _ ?_
      show Steps p.tables e below (T181.setTop (mkF m 176 #[.val (.int p0), .val (.long q1), .second, .val (.long q2), .second, .val (.long q3), .second, .val (.int (3 : Int32)), .val (.int (own_hi q1)), .val (.int (own_lo q1)), .val (.int (own_hi q2)), .val (.int (own_lo q2)), .val (.int (own_hi q3)), .val (.int (own_lo q3)), .val (.ref b177), .val (.ref b181), .val (.int (own_nw [((own_hi q1), (own_lo q1)), ((own_hi q2), (own_lo q2)), ((own_hi q3), (own_lo q3))])), .val (.int (own_bt [((own_hi q1), (own_lo q1)), ((own_hi q2), (own_lo q2)), ((own_hi q3), (own_lo q3))])), .unset] [(.int (own_ex (own_nw [((own_hi q1), (own_lo q1)), ((own_hi q2), (own_lo q2)), ((own_hi q3), (own_lo q3))]) (own_bt [((own_hi q1), (own_lo q1)), ((own_hi q2), (own_lo q2)), ((own_hi q3), (own_lo q3))])))])) _
      refine XS.istore X181.here hx rfl (hb hby at_176) rfl (l' := #[.val (.int p0), .val (.long q1), .second, .val (.long q2), .second, .val (.long q3), .second, .val (.int (3 : Int32)), .val (.int (own_hi q1)), .val (.int (own_lo q1)), .val (.int (own_hi q2)), .val (.int (own_lo q2)), .val (.int (own_hi q3)), .val (.int (own_lo q3)), .val (.ref b177), .val (.ref b181), .val (.int (own_nw [((own_hi q1), (own_lo q1)), ((own_hi q2), (own_lo q2)), ((own_hi q3), (own_lo q3))])), .val (.int (own_bt [((own_hi q1), (own_lo q1)), ((own_hi q2), (own_lo q2)), ((own_hi q3), (own_lo q3))])), .val (.int (own_ex (own_nw [((own_hi q1), (own_lo q1)), ((own_hi q2), (own_lo q2)), ((own_hi q3), (own_lo q3))]) (own_bt [((own_hi q1), (own_lo q1)), ((own_hi q2), (own_lo q2)), ((own_hi q3), (own_lo q3))])))]) rfl ?_
      show Steps p.tables e below (T181.setTop (mkF m 178 #[.val (.int p0), .val (.long q1), .second, .val (.long q2), .second, .val (.long q3), .second, .val (.int (3 : Int32)), .val (.int (own_hi q1)), .val (.int (own_lo q1)), .val (.int (own_hi q2)), .val (.int (own_lo q2)), .val (.int (own_hi q3)), .val (.int (own_lo q3)), .val (.ref b177), .val (.ref b181), .val (.int (own_nw [((own_hi q1), (own_lo q1)), ((own_hi q2), (own_lo q2)), ((own_hi q3), (own_lo q3))])), .val (.int (own_bt [((own_hi q1), (own_lo q1)), ((own_hi q2), (own_lo q2)), ((own_hi q3), (own_lo q3))])), .val (.int (own_ex (own_nw [((own_hi q1), (own_lo q1)), ((own_hi q2), (own_lo q2)), ((own_hi q3), (own_lo q3))]) (own_bt [((own_hi q1), (own_lo q1)), ((own_hi q2), (own_lo q2)), ((own_hi q3), (own_lo q3))])))] [])) _
      refine XS.aload X181.here hx rfl (hb hby at_178) rfl rfl ?_
      show Steps p.tables e below (T181.setTop (mkF m 180 #[.val (.int p0), .val (.long q1), .second, .val (.long q2), .second, .val (.long q3), .second, .val (.int (3 : Int32)), .val (.int (own_hi q1)), .val (.int (own_lo q1)), .val (.int (own_hi q2)), .val (.int (own_lo q2)), .val (.int (own_hi q3)), .val (.int (own_lo q3)), .val (.ref b177), .val (.ref b181), .val (.int (own_nw [((own_hi q1), (own_lo q1)), ((own_hi q2), (own_lo q2)), ((own_hi q3), (own_lo q3))])), .val (.int (own_bt [((own_hi q1), (own_lo q1)), ((own_hi q2), (own_lo q2)), ((own_hi q3), (own_lo q3))])), .val (.int (own_ex (own_nw [((own_hi q1), (own_lo q1)), ((own_hi q2), (own_lo q2)), ((own_hi q3), (own_lo q3))]) (own_bt [((own_hi q1), (own_lo q1)), ((own_hi q2), (own_lo q2)), ((own_hi q3), (own_lo q3))])))] [(.ref b177)])) _
      refine XS.aload X181.here hx rfl (hb hby at_180) rfl rfl ?_
      exact kt
    obtain ⟨_, _, ⟨T219, L219, kc219, nc219⟩, -, X219, ⟨Lc219, hQ219, l219, y219, z219⟩, st219⟩ := Jvm.LawKit.callS X181 hx (y := (⟨"com/example/tesserae/tesserae/core/Vectors", "dominates", "([D[D)Z"⟩ : MethodName)) hown (mvT hZ (hw _ (List.mem_of_getElem? (i := 11) rfl))) (mvT hZ (hw _ (List.mem_of_getElem? (i := 12) rfl))) (mvT hZ (hw _ (List.mem_of_getElem? (i := 13) rfl))) (mvT hZ (hw _ (List.mem_of_getElem? (i := 14) rfl))) (by decide) (backOf (W := 0) (rm4m3 l Z a0 hw [] b177 b181 kk177 kk181 (own_hi q1) (own_hi q2) (own_hi q3) (own_lo q1) (own_lo q2) (own_lo q3) T181.heap n0 z217 f216 Va181) hZ (hw _ (List.mem_of_getElem? (i := 14) rfl)) (hw _ (List.mem_of_getElem? (i := 13) rfl)) (by decide) (by decide)) (g := (mkF m 182 #[.val (.int p0), .val (.long q1), .second, .val (.long q2), .second, .val (.long q3), .second, .val (.int (3 : Int32)), .val (.int (own_hi q1)), .val (.int (own_lo q1)), .val (.int (own_hi q2)), .val (.int (own_lo q2)), .val (.int (own_hi q3)), .val (.int (own_lo q3)), .val (.ref b177), .val (.ref b181), .val (.int (own_nw [((own_hi q1), (own_lo q1)), ((own_hi q2), (own_lo q2)), ((own_hi q3), (own_lo q3))])), .val (.int (own_bt [((own_hi q1), (own_lo q1)), ((own_hi q2), (own_lo q2)), ((own_hi q3), (own_lo q3))])), .val (.int (own_ex (own_nw [((own_hi q1), (own_lo q1)), ((own_hi q2), (own_lo q2)), ((own_hi q3), (own_lo q3))]) (own_bt [((own_hi q1), (own_lo q1)), ((own_hi q2), (own_lo q2)), ((own_hi q3), (own_lo q3))])))] [(.ref b181), (.ref b177)])) rfl (by rw [hml]; rfl) (argsL := [(.ref b177), (.ref b181)]) (rest := []) (lenOf pd_2 rfl) rfl (by show 2 * 0 + _ ≤ _; exact Nat.le_of_eq rfl) (hb hby at_182) (fun _ _ => ⟨rfl, rfl, (by decide : 2 + 0 ≤ _), (by decide : 6 + 0 ≤ _)⟩)
    dsimp only [Pt.U, Pt.locs, Pt.cells, Pt.slots] at X219 l219 y219 z219 st219 hQ219
    subst l219 y219 z219
    obtain ⟨rfl, N219q, he219⟩ := hQ219
    have N219 := Fr.app N181 N219q
    have pre220 : ∀ t, Steps p.tables e below (T219.setTop (mkF m 185 #[.val (.int p0), .val (.long q1), .second, .val (.long q2), .second, .val (.long q3), .second, .val (.int (3 : Int32)), .val (.int (own_hi q1)), .val (.int (own_lo q1)), .val (.int (own_hi q2)), .val (.int (own_lo q2)), .val (.int (own_hi q3)), .val (.int (own_lo q3)), .val (.ref b177), .val (.ref b181), .val (.int (own_nw [((own_hi q1), (own_lo q1)), ((own_hi q2), (own_lo q2)), ((own_hi q3), (own_lo q3))])), .val (.int (own_bt [((own_hi q1), (own_lo q1)), ((own_hi q2), (own_lo q2)), ((own_hi q3), (own_lo q3))])), .val (.int (own_ex (own_nw [((own_hi q1), (own_lo q1)), ((own_hi q2), (own_lo q2)), ((own_hi q3), (own_lo q3))]) (own_bt [((own_hi q1), (own_lo q1)), ((own_hi q2), (own_lo q2)), ((own_hi q3), (own_lo q3))])))] [(.int (own_dom [((own_hi q1), (own_lo q1)), ((own_hi q2), (own_lo q2)), ((own_hi q3), (own_lo q3))] (0 : Int32)))])) t → Steps p.tables e below (s₁.setTop (entryFrame m #[(.int p0), (.long q1), (.long q2), (.long q3)] maxLocals)) t := fun t kt => pre218 _ (st219 _ kt)
    have pre221 : ∀ t, Steps p.tables e below (T219.setTop (mkF m 195 #[.val (.int p0), .val (.long q1), .second, .val (.long q2), .second, .val (.long q3), .second, .val (.int (3 : Int32)), .val (.int (own_hi q1)), .val (.int (own_lo q1)), .val (.int (own_hi q2)), .val (.int (own_lo q2)), .val (.int (own_hi q3)), .val (.int (own_lo q3)), .val (.ref b177), .val (.ref b181), .val (.int (own_nw [((own_hi q1), (own_lo q1)), ((own_hi q2), (own_lo q2)), ((own_hi q3), (own_lo q3))])), .val (.int (own_bt [((own_hi q1), (own_lo q1)), ((own_hi q2), (own_lo q2)), ((own_hi q3), (own_lo q3))])), .val (.int (own_ex (own_nw [((own_hi q1), (own_lo q1)), ((own_hi q2), (own_lo q2)), ((own_hi q3), (own_lo q3))]) (own_bt [((own_hi q1), (own_lo q1)), ((own_hi q2), (own_lo q2)), ((own_hi q3), (own_lo q3))])))] [(.int (1 : Int32))])) t → Steps p.tables e below (s₁.setTop (entryFrame m #[(.int p0), (.long q1), (.long q2), (.long q3)] maxLocals)) t := fun t kt => by
      refine pre220 _ ?_
      show Steps p.tables e below (T219.setTop (mkF m 185 #[.val (.int p0), .val (.long q1), .second, .val (.long q2), .second, .val (.long q3), .second, .val (.int (3 : Int32)), .val (.int (own_hi q1)), .val (.int (own_lo q1)), .val (.int (own_hi q2)), .val (.int (own_lo q2)), .val (.int (own_hi q3)), .val (.int (own_lo q3)), .val (.ref b177), .val (.ref b181), .val (.int (own_nw [((own_hi q1), (own_lo q1)), ((own_hi q2), (own_lo q2)), ((own_hi q3), (own_lo q3))])), .val (.int (own_bt [((own_hi q1), (own_lo q1)), ((own_hi q2), (own_lo q2)), ((own_hi q3), (own_lo q3))])), .val (.int (own_ex (own_nw [((own_hi q1), (own_lo q1)), ((own_hi q2), (own_lo q2)), ((own_hi q3), (own_lo q3))]) (own_bt [((own_hi q1), (own_lo q1)), ((own_hi q2), (own_lo q2)), ((own_hi q3), (own_lo q3))])))] [(.int (own_dom [((own_hi q1), (own_lo q1)), ((own_hi q2), (own_lo q2)), ((own_hi q3), (own_lo q3))] (0 : Int32)))])) _
      refine XS.iload X219.here hx rfl (hb hby at_185) rfl ?_
      show Steps p.tables e below (T219.setTop (mkF m 187 #[.val (.int p0), .val (.long q1), .second, .val (.long q2), .second, .val (.long q3), .second, .val (.int (3 : Int32)), .val (.int (own_hi q1)), .val (.int (own_lo q1)), .val (.int (own_hi q2)), .val (.int (own_lo q2)), .val (.int (own_hi q3)), .val (.int (own_lo q3)), .val (.ref b177), .val (.ref b181), .val (.int (own_nw [((own_hi q1), (own_lo q1)), ((own_hi q2), (own_lo q2)), ((own_hi q3), (own_lo q3))])), .val (.int (own_bt [((own_hi q1), (own_lo q1)), ((own_hi q2), (own_lo q2)), ((own_hi q3), (own_lo q3))])), .val (.int (own_ex (own_nw [((own_hi q1), (own_lo q1)), ((own_hi q2), (own_lo q2)), ((own_hi q3), (own_lo q3))]) (own_bt [((own_hi q1), (own_lo q1)), ((own_hi q2), (own_lo q2)), ((own_hi q3), (own_lo q3))])))] [(.int (own_ex (own_nw [((own_hi q1), (own_lo q1)), ((own_hi q2), (own_lo q2)), ((own_hi q3), (own_lo q3))]) (own_bt [((own_hi q1), (own_lo q1)), ((own_hi q2), (own_lo q2)), ((own_hi q3), (own_lo q3))]))), (.int (own_dom [((own_hi q1), (own_lo q1)), ((own_hi q2), (own_lo q2)), ((own_hi q3), (own_lo q3))] (0 : Int32)))])) _
      refine XS.icmpNo X219.here hx rfl (hb hby at_187) rfl (teq (own_law3 (own_hi q1) (own_lo q1) (own_hi q2) (own_lo q2) (own_hi q3) (own_lo q3) : (own_dom [((own_hi q1), (own_lo q1)), ((own_hi q2), (own_lo q2)), ((own_hi q3), (own_lo q3))] (0 : Int32)) = (own_ex (own_nw [((own_hi q1), (own_lo q1)), ((own_hi q2), (own_lo q2)), ((own_hi q3), (own_lo q3))]) (own_bt [((own_hi q1), (own_lo q1)), ((own_hi q2), (own_lo q2)), ((own_hi q3), (own_lo q3))])))).2 ?_
      show Steps p.tables e below (T219.setTop (mkF m 190 #[.val (.int p0), .val (.long q1), .second, .val (.long q2), .second, .val (.long q3), .second, .val (.int (3 : Int32)), .val (.int (own_hi q1)), .val (.int (own_lo q1)), .val (.int (own_hi q2)), .val (.int (own_lo q2)), .val (.int (own_hi q3)), .val (.int (own_lo q3)), .val (.ref b177), .val (.ref b181), .val (.int (own_nw [((own_hi q1), (own_lo q1)), ((own_hi q2), (own_lo q2)), ((own_hi q3), (own_lo q3))])), .val (.int (own_bt [((own_hi q1), (own_lo q1)), ((own_hi q2), (own_lo q2)), ((own_hi q3), (own_lo q3))])), .val (.int (own_ex (own_nw [((own_hi q1), (own_lo q1)), ((own_hi q2), (own_lo q2)), ((own_hi q3), (own_lo q3))]) (own_bt [((own_hi q1), (own_lo q1)), ((own_hi q2), (own_lo q2)), ((own_hi q3), (own_lo q3))])))] [])) _
      refine XS.iconst X219.here hx rfl (hb hby at_190) ?_
      show Steps p.tables e below (T219.setTop (mkF m 191 #[.val (.int p0), .val (.long q1), .second, .val (.long q2), .second, .val (.long q3), .second, .val (.int (3 : Int32)), .val (.int (own_hi q1)), .val (.int (own_lo q1)), .val (.int (own_hi q2)), .val (.int (own_lo q2)), .val (.int (own_hi q3)), .val (.int (own_lo q3)), .val (.ref b177), .val (.ref b181), .val (.int (own_nw [((own_hi q1), (own_lo q1)), ((own_hi q2), (own_lo q2)), ((own_hi q3), (own_lo q3))])), .val (.int (own_bt [((own_hi q1), (own_lo q1)), ((own_hi q2), (own_lo q2)), ((own_hi q3), (own_lo q3))])), .val (.int (own_ex (own_nw [((own_hi q1), (own_lo q1)), ((own_hi q2), (own_lo q2)), ((own_hi q3), (own_lo q3))]) (own_bt [((own_hi q1), (own_lo q1)), ((own_hi q2), (own_lo q2)), ((own_hi q3), (own_lo q3))])))] [(.int (1 : Int32))])) _
      refine XS.goto X219.here hx rfl (pc0 := 191) (pc' := 195) rfl (hb hby at_191) (by decide) (by decide) ?_
      exact kt
    obtain ⟨fs, hr, hrun, hended, hW, hsame⟩ := X219.leave (v := (some (.int (1 : Int32)))) (fun h => by rw [Bd.returns] at h; cases h)
    refine ⟨_, _, pre221 _ ?_, hrun, hended, _, _, rfl, ?_, ⟨_, rfl⟩, hW, hsame.mono (by decide) (by decide)⟩
    · show Steps p.tables e below (T219.setTop (mkF m 195 #[.val (.int p0), .val (.long q1), .second, .val (.long q2), .second, .val (.long q3), .second, .val (.int (3 : Int32)), .val (.int (own_hi q1)), .val (.int (own_lo q1)), .val (.int (own_hi q2)), .val (.int (own_lo q2)), .val (.int (own_hi q3)), .val (.int (own_lo q3)), .val (.ref b177), .val (.ref b181), .val (.int (own_nw [((own_hi q1), (own_lo q1)), ((own_hi q2), (own_lo q2)), ((own_hi q3), (own_lo q3))])), .val (.int (own_bt [((own_hi q1), (own_lo q1)), ((own_hi q2), (own_lo q2)), ((own_hi q3), (own_lo q3))])), .val (.int (own_ex (own_nw [((own_hi q1), (own_lo q1)), ((own_hi q2), (own_lo q2)), ((own_hi q3), (own_lo q3))]) (own_bt [((own_hi q1), (own_lo q1)), ((own_hi q2), (own_lo q2)), ((own_hi q3), (own_lo q3))])))] [(.int (1 : Int32))])) _
      exact retN X219 hx (t := .boolean) Bd.returns (by simp) (hb hby at_195) hr
    · show Q0 Z p0 q1 q2 q3 h0 n0 _ T219.heap _
      rw [he219]
      exact ⟨rfl, N219⟩
set_option maxRecDepth 65536 in
set_option maxHeartbeats 40000000 in
theorem comes_1 {Post : Tables → Env → Array Value → State → Outcome → State → Prop} (hpost : ∀ tb e args s v u, (limb_1_1.after args s (.returned v) u = true ∧ limb_1_2.after args s (.returned v) u = true ∧ True) → FrameEnd s (.returned v) u (Jvm.fieldLocs frame_1_writes args s ++ Jvm.arrayLocs frame_1_arrays args s ++ Jvm.staticLocs frame_1_statics s) 16 128 → Post tb e args s (.returned v) u) :
    ArmFor flags0 classFile x code maxLocals ret World_1 tables_1 room_1 Calls_1 rest_1 Pre_1 Post := by
  intro l hfl _ _ p e ha hc hk s m args below hf hA hF happ hP
  obtain ⟨hcalls, hrest, hpre⟩ := hP
  obtain ⟨-, -, -, hnamed, -, -, -, hat⟩ := (Spec.applies_iff hf).mp happ
  obtain ⟨hg, hn⟩ := and_e (Cond.before_iff.mp (show (Jvm.Cond.and given_1 narrow_1).before args s = true from hpre))
  obtain ⟨gc, g0⟩ := and_e hg
  obtain ⟨gg0, g1⟩ := and_e g0
  obtain ⟨gg1, g2⟩ := and_e g1
  obtain ⟨gg2, g3⟩ := and_e g2
  obtain ⟨w0, w1, w2, w3, rfl⟩ : ∃ w0 w1 w2 w3 : Value, args = #[w0, w1, w2, w3] := by
    have hs : args.size = 4 := by simpa [Cond.value, given_1] using gc
    obtain ⟨L⟩ := args
    match L, hs with
    | [w0, w1, w2, w3], _ => exact ⟨w0, w1, w2, w3, rfl⟩
  have hw := fun d (hd : d ∈ tables_1) => atoms_spec (ws := Jvm.Cond.code x code maxLocals ret :: tables_1) hat d (List.mem_cons_of_mem _ hd)
  have hfit : Fit s := fun {y c} hc i hi => by
    obtain ⟨ha, rfl⟩ := Array.getElem?_eq_some_iff.mp hc
    have q := List.all_eq_true.mp ((Array.all_eq_true_iff_forall_mem.mp hF) _ (Array.getElem_mem ha)) i (List.mem_range.mpr hi)
    simpa [Array.getElem?_eq_getElem hi] using q
  obtain ⟨i0, ei0⟩ := is_v gg0
  obtain rfl : w0 = (.int i0) := Option.some.inj ei0
  obtain ⟨i1, ei1⟩ := isL_v gg1
  obtain rfl : w1 = (.long i1) := Option.some.inj ei1
  obtain ⟨i2, ei2⟩ := isL_v gg2
  obtain rfl : w2 = (.long i2) := Option.some.inj ei2
  obtain ⟨i3, ei3⟩ := isL_v g3
  obtain rfl : w3 = (.long i3) := Option.some.inj ei3
  obtain ⟨n, o, h1, h2, h3, _, L, rfl, ⟨rfl, N⟩, hq⟩ := rm0 l s _ hw tables_1 i0 i1 i2 i3  s.heap s.heap.size (Nat.le_refl _)  p e ha hc hk s m _ below hf ((Spec.applies_iff_loose hf).mp happ).1 ⟨rfl, State.Warmed39.refl s, rfl⟩ trivial
  refine ⟨n, _, h1, h2, h3, hpost _ _ _ _ _ _ ⟨Cond.after_iff.mpr rfl, Cond.after_iff.mpr (eq_i res_at (Term.int_eval (1)) rfl), trivial⟩ ⟨hq.1, hq.2.1, (hq.2.2.sift fun y hy => Or.inr (N y hy)).mono (by decide) (by decide)⟩⟩
theorem main_1_1 : Claimed_1_1 := comes_1 fun _ _ _ _ _ _ h hF => ⟨h.1, hF⟩
theorem main_1_2 : Claimed_1_2 := comes_1 fun _ _ _ _ _ _ h hF => ⟨h.2.1, hF⟩
end Jvm.Pilot.@@N@@
namespace Jvm.Pilot.@@N@@
open Jvm Jvm.ClassFile Sem Op Lib Jvm.Free Jvm.Stand Jvm.Pilot.@@N@@.Jvm.D
/-! MADE BY PROGRAM (witnessworld.py) out of the Statement's table words and the real class files: 11 classes; the members and pool entries that the words name. The judged class is class 1, her method 4. -/
namespace start1
open Jvm.ClassFile
def u (s : String) : CpInfo := .utf8 (stringToUtf16 s)
/-- a pool by its gaps: so many unusable entries, then the entry; so many at the end -/
def gap : Nat → List CpInfo → List CpInfo
  | 0, r => r
  | n + 1, r => .unusable :: gap n r
def poolList (es : List (Nat × CpInfo)) (last : Nat) : List CpInfo := es.foldr (fun e r => gap e.1 (e.2 :: r)) (gap last [])
def pool (es : List (Nat × CpInfo)) (last : Nat) : Array CpInfo := ⟨poolList es last⟩
def fileOf (pool : Array CpInfo) (this : Nat) (attrs : Array Attribute := #[]) (ms : Array MethodInfo := #[]) (fl : Nat := 33) (sup : Nat := 0) (ifs : Array Nat := #[]) (fds : Array FieldInfo := #[]) : ClassFile where
  minorVersion := 0
  majorVersion := 65
  constantPool := pool
  accessFlags := fl
  thisClass := this
  superClass := sup
  interfaces := ifs
  fields := fds
  methods := ms
  attributes := attrs
def plain (name : String) (sup : Option ClassId) : Class where
  name := name
  kind := .ordinary
  loader := none
  accessFlags := 33
  super := sup
  interfaces := #[]
  cf := none
  fields := #[]
  methods := #[]
  instanceTypes := #[]
  staticTypes := #[]
  resolved := #[]
  callSites := []
  init := .initialized
  statics := none
  mirror := none

def pool0 : Array CpInfo := pool [(5, u "<init>"), (0, u "()V"), (1, .class_ 10), (1, u "java/lang/Object")] 113

def k0m0 : Method := { name := "<init>", desc := "()V", sig := { parameters := [], returnType := none }, accessFlags := 1, code := none }
/-- java/lang/Object -/
def k0 : Class := { plain "java/lang/Object" none with
  accessFlags := 33
  interfaces := #[]
  cf := some (fileOf pool0 8 #[] #[{ accessFlags := 1, nameIndex := 5, descriptorIndex := 6, attributes := #[] }] 33 0 #[] #[])
  fields := #[]
  methods := #[k0m0]
  instanceTypes := #[]
  staticTypes := #[]
  resolved := Array.replicate 124 none
  statics := none }

def pool1 : Array CpInfo := pool [(2, .class_ 4), (1, u "java/lang/Object"), (0, u "<init>"), (0, u "()V"), (0, .methodref 8 9), (0, .class_ 10), (0, .nameAndType 11 12), (0, u "com/example/tesserae/tesserae/core/VectorsDominatesPinLaw"), (0, u "hi"), (0, u "(J)I"), (0, .methodref 8 14), (0, .nameAndType 15 12), (0, u "lo"), (0, .methodref 8 17), (0, .nameAndType 18 19), (0, u "make"), (0, u "(IIII)[D"), (0, .methodref 21 22), (0, .class_ 23), (0, .nameAndType 24 25), (0, u "com/example/tesserae/tesserae/core/Vectors"), (0, u "dominates"), (0, u "([D[D)Z"), (3, u "law"), (0, u "(IJJJ)Z")] 4

def k1m0 : Method := { name := "<init>", desc := "()V", sig := { parameters := [], returnType := none }, accessFlags := 2, code := none }
def k1c1 : Code := { maxStack := 3, maxLocals := 2, code := method_2_code, exceptionTable := #[], attributes := #[] }
def k1m1 : Method := { name := "hi", desc := "(J)I", sig := { parameters := [.long], returnType := some .int }, accessFlags := 10, code := some k1c1 }
def k1c2 : Code := { maxStack := 2, maxLocals := 2, code := method_3_code, exceptionTable := #[], attributes := #[] }
def k1m2 : Method := { name := "lo", desc := "(J)I", sig := { parameters := [.long], returnType := some .int }, accessFlags := 10, code := some k1c2 }
def k1c3 : Code := { maxStack := 5, maxLocals := 4, code := method_4_code, exceptionTable := #[], attributes := #[] }
def k1m3 : Method := { name := "make", desc := "(IIII)[D", sig := { parameters := [.int, .int, .int, .int], returnType := some (.array .double) }, accessFlags := 10, code := some k1c3 }
def k1c4 : Code := { maxStack := 4, maxLocals := 19, code := code, exceptionTable := #[], attributes := #[] }
def k1m4 : Method := { name := "law", desc := "(IJJJ)Z", sig := { parameters := [.int, .long, .long, .long], returnType := some .boolean }, accessFlags := 9, code := some k1c4 }
/-- com/example/tesserae/tesserae/core/VectorsDominatesPinLaw -/
def k1 : Class := { plain "com/example/tesserae/tesserae/core/VectorsDominatesPinLaw" (some 0) with
  accessFlags := 49
  interfaces := #[]
  cf := some (fileOf pool1 8 #[] #[{ accessFlags := 2, nameIndex := 5, descriptorIndex := 6, attributes := #[] }, { accessFlags := 10, nameIndex := 11, descriptorIndex := 12, attributes := #[] }, { accessFlags := 10, nameIndex := 15, descriptorIndex := 12, attributes := #[] }, { accessFlags := 10, nameIndex := 18, descriptorIndex := 19, attributes := #[] }, { accessFlags := 9, nameIndex := 29, descriptorIndex := 30, attributes := #[] }] 49 2 #[] #[])
  fields := #[]
  methods := #[k1m0, k1m1, k1m2, k1m3, k1m4]
  instanceTypes := #[]
  staticTypes := #[]
  resolved := Array.replicate 35 none
  statics := none }

def pool2 : Array CpInfo := pool [(2, .class_ 4), (1, u "java/lang/Object"), (0, u "<init>"), (0, u "()V"), (7, .class_ 16), (1, u "com/example/tesserae/tesserae/core/Vectors"), (21, u "dominates"), (0, u "([D[D)Z")] 3

def k2m0 : Method := { name := "<init>", desc := "()V", sig := { parameters := [], returnType := none }, accessFlags := 2, code := none }
def k2c1 : Code := { maxStack := 5, maxLocals := 4, code := prog_51_method_6_code, exceptionTable := #[], attributes := #[] }
def k2m1 : Method := { name := "dominates", desc := "([D[D)Z", sig := { parameters := [(.array .double), (.array .double)], returnType := some .boolean }, accessFlags := 9, code := some k2c1 }
/-- com/example/tesserae/tesserae/core/Vectors -/
def k2 : Class := { plain "com/example/tesserae/tesserae/core/Vectors" (some 0) with
  accessFlags := 49
  interfaces := #[]
  cf := some (fileOf pool2 14 #[] #[{ accessFlags := 2, nameIndex := 5, descriptorIndex := 6, attributes := #[] }, { accessFlags := 9, nameIndex := 38, descriptorIndex := 39, attributes := #[] }] 49 2 #[] #[])
  fields := #[]
  methods := #[k2m0, k2m1]
  instanceTypes := #[]
  staticTypes := #[]
  resolved := Array.replicate 43 none
  statics := none }

def pool3 : Array CpInfo := pool [(1, u "java/lang/Cloneable"), (0, .class_ 1), (0, u "java/lang/Object"), (0, .class_ 3)] 3

/-- java/lang/Cloneable -/
def k3 : Class := { plain "java/lang/Cloneable" (some 0) with
  accessFlags := 1537
  interfaces := #[]
  cf := some (fileOf pool3 2 #[] #[] 1537 4 #[] #[])
  fields := #[]
  methods := #[]
  instanceTypes := #[]
  staticTypes := #[]
  resolved := Array.replicate 8 none
  statics := none }

def pool4 : Array CpInfo := pool [(1, u "java/io/Serializable"), (0, .class_ 1), (0, u "java/lang/Object"), (0, .class_ 3)] 3

/-- java/io/Serializable -/
def k4 : Class := { plain "java/io/Serializable" (some 0) with
  accessFlags := 1537
  interfaces := #[]
  cf := some (fileOf pool4 2 #[] #[] 1537 4 #[] #[])
  fields := #[]
  methods := #[]
  instanceTypes := #[]
  staticTypes := #[]
  resolved := Array.replicate 8 none
  statics := none }

/-- the primitive byte -/
def k5 : Class := { plain "byte" none with kind := .primitive 'B', accessFlags := 0x411 }
/-- [B -/
def k6 : Class := { plain "[B" (some 0) with kind := .array 5 .byte, interfaces := #[3, 4], accessFlags := 1041 }

/-- the primitive double -/
def k7 : Class := { plain "double" none with kind := .primitive 'D', accessFlags := 0x411 }
/-- [D -/
def k8 : Class := { plain "[D" (some 0) with kind := .array 7 .double, interfaces := #[3, 4], accessFlags := 1041 }

/-- the primitive int -/
def k9 : Class := { plain "int" none with kind := .primitive 'I', accessFlags := 0x411 }
/-- [I -/
def k10 : Class := { plain "[I" (some 0) with kind := .array 9 .int, interfaces := #[3, 4], accessFlags := 1041 }

def heap : Heap := #[]
def classes : Array Class := #[k0, k1, k2, k3, k4, k5, k6, k7, k8, k9, k10]
def interned : List (Array UInt16 × Addr) := []
def slotsUsed : Nat := 0
def theMethod : MethodId := ⟨1, 4⟩
def args0 : Array Value := #[.int 5, .long 5, .long 5, .long 5]
def aboutOver (below : List Frame) : State where
  vm := { classes := classes, interned := interned.toArray }
  heap := heap
  slotsUsed := slotsUsed
  threads := #[{ frames := .invoking theMethod args0 :: below }]
def below0 : List Frame := [.native { method := ⟨0, 0⟩, args := #[] }]
def about1 : State := aboutOver below0
def p0 : Program := .bare "" "" ""
def e0 : Env := launch0.env 0 0 0
theorem w_frames : about1.frames = Frame.invoking theMethod args0 :: below0 := rfl
set_option maxRecDepth 65536 in
theorem w_args : argsFit about1.vm theMethod args0 = true := by decide +kernel
set_option maxRecDepth 65536 in
theorem w_heap : heapFits about1 = true := by decide +kernel
set_option maxRecDepth 65536 in
theorem w_runnable : about1.curStatus? = some .runnable := by decide +kernel
set_option maxRecDepth 65536 in
theorem w_alone : about1.alone = true := by decide +kernel
set_option maxRecDepth 65536 in
theorem w_named : about1.methodNamed? x = some theMethod := by decide +kernel
set_option maxRecDepth 65536 in
theorem w_hears : about1.hears theMethod below0 = true := by decide +kernel
set_option maxRecDepth 65536 in
theorem w_ripe : about1.ripe theMethod args0 below0 = true := by decide +kernel
theorem w_running : about1.status = .running := rfl
set_option maxRecDepth 65536 in
theorem w_room : about1.hasRoom e0.platform room_1 = true :=
  launch0.hasRoom_least _ room_1 (by decide +kernel) (by decide +kernel) (by decide +kernel) (by decide +kernel) (by decide +kernel) (by decide +kernel)
theorem allAtoms_all (ts : List Jvm.Cond) (a : Array Jvm.Value) (st : Jvm.State) : (allAtoms ts).before a st = ts.all (fun c => c.before a st) := by
  induction ts with
  | nil => rfl
  | cons c t ih =>
    show (Jvm.Cond.and c (allAtoms t)).before a st = _
    rw [Jvm.Cond.before_and, ih, List.all_cons]
def words1 : List Jvm.Cond := Jvm.Cond.code x code maxLocals ret :: tables_1
/-- a 'code' word, met by the world's own term for the bytes: nothing is compared byte by byte -/
theorem code_word {y : MethodName} {bytes : ByteArray} {mx : Nat} {rt : Option FieldType} {a : Array Value} {s : State} {m : MethodId} {meth : Method} {c : Code} (h1 : s.methodNamed? y = some m) (h2 : s.vm.method? m = some meth) (h3 : meth.code = some c) (h4 : c.code = bytes)
    (h5 : (c.maxLocals == mx && c.exceptionTable.isEmpty && decide (c.maxStack ≤ mostOperands) && decide (meth.sig.returnType = rt) && !meth.locks && decide (parseMethodDescriptor y.desc = some meth.sig)) = true) : (Jvm.Cond.code y bytes mx rt).before a s = true := by
  simp only [Bool.and_eq_true, beq_iff_eq, Bool.not_eq_true', decide_eq_true_eq] at h5
  obtain ⟨⟨⟨⟨⟨g1, g2⟩, g3⟩, g4⟩, g5⟩, g6⟩ := h5
  simp [Cond.before, Cond.holds, Cond.value, h1, h2, h3, h4, g1, g2, g3, g4, g5, g6]
def isCode : Jvm.Cond → Bool
  | .code _ _ _ _ => true
  | _ => false
theorem all_split {L : List Jvm.Cond} {P : Jvm.Cond → Bool} (h1 : L.all (fun c => isCode c || P c) = true) (h2 : ∀ c ∈ L.filter isCode, P c = true) : L.all P = true := by
  refine List.all_eq_true.mpr fun c hc => ?_
  have h := List.all_eq_true.mp h1 c hc
  rcases Bool.eq_false_or_eq_true (isCode c) with hi | hi
  · exact h2 c (List.mem_filter.mpr ⟨hc, hi⟩)
  · simpa [hi] using h
set_option maxRecDepth 65536 in
theorem w_c0 : (Jvm.Cond.code x code maxLocals ret).before args0 about1 = true := code_word (m := ⟨1, 4⟩) (meth := k1m4) (c := k1c4) (by decide +kernel) rfl rfl rfl (by decide +kernel)
set_option maxRecDepth 65536 in
theorem w_c1 : (Jvm.Cond.code ({ cls := "com/example/tesserae/tesserae/core/VectorsDominatesPinLaw", name := "hi", desc := "(J)I" } : Jvm.MethodName) method_2_code (2 : Nat) (Option.some Jvm.ClassFile.FieldType.int)).before args0 about1 = true := code_word (m := ⟨1, 1⟩) (meth := k1m1) (c := k1c1) (by decide +kernel) rfl rfl rfl (by decide +kernel)
set_option maxRecDepth 65536 in
theorem w_c2 : (Jvm.Cond.code ({ cls := "com/example/tesserae/tesserae/core/VectorsDominatesPinLaw", name := "lo", desc := "(J)I" } : Jvm.MethodName) method_3_code (2 : Nat) (Option.some Jvm.ClassFile.FieldType.int)).before args0 about1 = true := code_word (m := ⟨1, 2⟩) (meth := k1m2) (c := k1c2) (by decide +kernel) rfl rfl rfl (by decide +kernel)
set_option maxRecDepth 65536 in
theorem w_c3 : (Jvm.Cond.code ({ cls := "com/example/tesserae/tesserae/core/VectorsDominatesPinLaw", name := "make", desc := "(IIII)[D" } : Jvm.MethodName) method_4_code (4 : Nat) (Option.some (Jvm.ClassFile.FieldType.array Jvm.ClassFile.FieldType.double))).before args0 about1 = true := code_word (m := ⟨1, 3⟩) (meth := k1m3) (c := k1c3) (by decide +kernel) rfl rfl rfl (by decide +kernel)
set_option maxRecDepth 65536 in
theorem w_c4 : (Jvm.Cond.code ({ cls := "com/example/tesserae/tesserae/core/Vectors", name := "dominates", desc := "([D[D)Z" } : Jvm.MethodName) prog_51_method_6_code (4 : Nat) (Option.some Jvm.ClassFile.FieldType.boolean)).before args0 about1 = true := code_word (m := ⟨2, 1⟩) (meth := k2m1) (c := k2c1) (by decide +kernel) rfl rfl rfl (by decide +kernel)
def codes1 : List Jvm.Cond := [Jvm.Cond.code x code maxLocals ret, Jvm.Cond.code ({ cls := "com/example/tesserae/tesserae/core/VectorsDominatesPinLaw", name := "hi", desc := "(J)I" } : Jvm.MethodName) method_2_code (2 : Nat) (Option.some Jvm.ClassFile.FieldType.int), Jvm.Cond.code ({ cls := "com/example/tesserae/tesserae/core/VectorsDominatesPinLaw", name := "lo", desc := "(J)I" } : Jvm.MethodName) method_3_code (2 : Nat) (Option.some Jvm.ClassFile.FieldType.int), Jvm.Cond.code ({ cls := "com/example/tesserae/tesserae/core/VectorsDominatesPinLaw", name := "make", desc := "(IIII)[D" } : Jvm.MethodName) method_4_code (4 : Nat) (Option.some (Jvm.ClassFile.FieldType.array Jvm.ClassFile.FieldType.double)), Jvm.Cond.code ({ cls := "com/example/tesserae/tesserae/core/Vectors", name := "dominates", desc := "([D[D)Z" } : Jvm.MethodName) prog_51_method_6_code (4 : Nat) (Option.some Jvm.ClassFile.FieldType.boolean)]
set_option maxRecDepth 65536 in
theorem codes_eq : words1.filter isCode = codes1 := rfl
theorem w_codes : ∀ c ∈ words1.filter isCode, c.before args0 about1 = true := by
  rw [codes_eq]
  intro c hc
  simp only [codes1, List.mem_cons, List.not_mem_nil, or_false] at hc
  rcases hc with rfl | rfl | rfl | rfl | rfl
  · exact w_c0
  · exact w_c1
  · exact w_c2
  · exact w_c3
  · exact w_c4
set_option maxRecDepth 65536 in
theorem w_t1 : words1.all (fun c => isCode c || c.before args0 about1) = true := by decide +kernel
theorem w_tables : (allAtoms (Jvm.Cond.code x code maxLocals ret :: tables_1)).before args0 about1 = true := by
  rw [allAtoms_all]
  show words1.all (fun c => c.before args0 about1) = true
  refine all_split ?_ w_codes
  rw [w_t1]
set_option maxRecDepth 65536 in
theorem w_case : (Jvm.Cond.and given_1 narrow_1).before args0 about1 = true := by decide +kernel
theorem w_applies : (headSpec (Jvm.Cond.code x code maxLocals ret :: tables_1) room_1).applies x e0.platform about1 = true :=
  (Spec.applies_iff w_frames).mpr ⟨w_running, w_runnable, w_alone, w_named, w_hears, w_ripe, w_room, w_tables⟩
theorem atStart : AtStart classFile x code maxLocals ret World_1 tables_1 room_1 Calls_1 rest_1 Pre_1 launch0 p0 e0 about1 theMethod args0 below0 :=
  ⟨lists_1, trivial, launch0.admits_env _ _ _, launch0.least_env, fairChoices_fair.cas, fairChoices_fair.clock, w_frames, w_args, w_heap, w_applies, trivial, trivial, w_case⟩
end start1
theorem witness_1 : WitnessClaimed_1 := ⟨start1.p0, start1.e0, start1.about1, start1.theMethod, start1.args0, start1.below0, start1.atStart⟩
end Jvm.Pilot.@@N@@
