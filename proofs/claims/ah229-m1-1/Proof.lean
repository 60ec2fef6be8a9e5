import JvmDerived
import JvmDerived.Pilot.@@N@@Statement
import JvmDerived.Pilot.@@N@@Code
set_option linter.unusedVariables false
set_option linter.unusedSimpArgs false
namespace Jvm.RoadKit
open Sem ClassFile Op Lib Jvm.Stand Jvm.Free Jvm.LawKit
section New
variable {p : Program} {l : Launch} {e : Env} {R : Room} {s : State} {m : MethodId} {args : Array Value} {below : List Frame} {meth : Method} {c : Code} {T : State} {locs : List Loc} {cells slots : Nat}
theorem retI (X : Stand p l e R s m args below meth c T locs cells slots) (hx : p.tables.exec = Jvm.exec) {pc : Nat} {Ls : Array Slot} {z : Int32} {rest : List Value} (hret : meth.sig.returnType = some .int) (hd : decode c.code pc = .ok (.ireturn, 1)) {fs : List Frame}
    (hl : ∀ (f : JFrame) (acts : List Action), f.method = m → f.locked = none → f.entered = [] → (doReturn e (T.setTop f) acts (some (.int z))).1 = T.setFrames fs) : Steps p.tables e below (T.setTop (mkF m pc Ls (.int z :: rest))) (T.setFrames fs) := by
  have hm' : T.vm.method? m = some meth := X.method'
  have hn : narrow .int (.int z) = .int z := rfl
  show Steps p.tables e below (T.setTop { method := m, pc := pc, locals := Ls, stack := _ :: rest, locked := none }) _
  jvm_step X.here [X.here.top, hx, hd, hm', hret, hn]
  first | (intro acts; rw [hl _ acts rfl rfl rfl]) | rw [hl _ _ rfl rfl rfl]
  exact Steps.refl _
end New
end Jvm.RoadKit
namespace Jvm.Pilot.@@N@@
open Jvm Jvm.ClassFile Sem Op Lib Jvm.Free Jvm.Stand Jvm.LawKit Jvm.RoadKit Bundle Jvm.Pilot.@@N@@.Jvm.D

def own_r (vs : List Value) (b : Int32) : Value := if b < (0 : Int32) then .null else vs.getD b.toNatClampNeg .null
theorem own_get_is {vs : List Value} (h : ∀ v ∈ vs, v.isRef = true) (i : Nat) : (vs.getD i .null).isRef = true := by
  rw [List.getD_eq_getElem?_getD]
  cases hq : vs[i]? with
  | none => rfl
  | some v => exact h v (List.mem_of_getElem? hq)
theorem own_r_is {vs : List Value} (h : ∀ v ∈ vs, v.isRef = true) (b : Int32) : (own_r vs b).isRef = true := by
  unfold own_r
  split
  · rfl
  · exact own_get_is h _
theorem own_cat {v : Value} (h : v.isRef = true) : v.category = 1 := by rcases ref_cases h with rfl | ⟨_, rfl⟩ <;> rfl
theorem own_nar {v : Value} {C : String} (h : v.isRef = true) : narrow (.object C) v = v := by rcases ref_cases h with rfl | ⟨_, rfl⟩ <;> rfl
theorem own_fit {v : Value} {C : String} (h : v.isRef = true) : fits (.object C) v = true := by rcases ref_cases h with rfl | ⟨_, rfl⟩ <;> rfl
def own_g (xs : List Int32) (b : Int32) : Int32 := if b < (0 : Int32) then 0 else xs.getD b.toNatClampNeg 0
theorem own_getD (xs : List Int32) (i : Nat) : (xs.map Value.int).getD i (.int 0) = .int (xs.getD i 0) := by
  rw [List.getD_eq_getElem?_getD, List.getD_eq_getElem?_getD, List.getElem?_map]
  cases xs[i]? <;> rfl
def own_l {α : Type} (ls : List (List α)) (b : Int32) : List α := if b < (0 : Int32) then [] else ls.getD b.toNatClampNeg []
theorem own_l_map {α β : Type} (f : α → β) (ls : List (List α)) (b : Int32) : own_l (ls.map (List.map f)) b = (own_l ls b).map f := by
  unfold own_l
  split
  · rfl
  · rw [List.getD_eq_getElem?_getD, List.getD_eq_getElem?_getD, List.getElem?_map]
    cases ls[b.toNatClampNeg]? <;> rfl
def own_x0 {α : Type} (t : Nat → α) : List α := [t 0]
def own_x1 {α : Type} (t : Nat → α) (b1 : Int32) : List α := t 1 :: own_l [own_x0 t] b1
def own_x2 {α : Type} (t : Nat → α) (b1 b2 : Int32) : List α := t 2 :: own_l [own_x0 t, own_x1 t b1] b2
def own_x3 {α : Type} (t : Nat → α) (b1 b2 b3 : Int32) : List α := t 3 :: own_l [own_x0 t, own_x1 t b1, own_x2 t b1 b2] b3
def own_x4 {α : Type} (t : Nat → α) (b1 b2 b3 b4 : Int32) : List α := t 4 :: own_l [own_x0 t, own_x1 t b1, own_x2 t b1 b2, own_x3 t b1 b2 b3] b4
theorem own_x1m {α : Type} (t : Nat → α) (b1 : Int32) : own_x1 t b1 = (own_x1 id b1).map t := congrArg (t 1 :: ·) (own_l_map t [own_x0 id] b1)
theorem own_x2m {α : Type} (t : Nat → α) (b1 b2 : Int32) : own_x2 t b1 b2 = (own_x2 id b1 b2).map t := by
  unfold own_x2
  rw [own_x1m t b1]
  exact congrArg (t 2 :: ·) (own_l_map t [own_x0 id, own_x1 id b1] b2)
theorem own_x3m {α : Type} (t : Nat → α) (b1 b2 b3 : Int32) : own_x3 t b1 b2 b3 = (own_x3 id b1 b2 b3).map t := by
  unfold own_x3
  rw [own_x1m t b1, own_x2m t b1 b2]
  exact congrArg (t 3 :: ·) (own_l_map t [own_x0 id, own_x1 id b1, own_x2 id b1 b2] b3)
theorem own_x4m {α : Type} (t : Nat → α) (b1 b2 b3 b4 : Int32) : own_x4 t b1 b2 b3 b4 = (own_x4 id b1 b2 b3 b4).map t := by
  unfold own_x4
  rw [own_x1m t b1, own_x2m t b1 b2, own_x3m t b1 b2 b3]
  exact congrArg (t 4 :: ·) (own_l_map t [own_x0 id, own_x1 id b1, own_x2 id b1 b2, own_x3 id b1 b2 b3] b4)
def own_mem (u : Value) : List Addr → Int32
  | [] => 0
  | a :: xs => if u = .ref a then 1 else own_mem u xs
theorem own_mem_null : ∀ xs : List Addr, own_mem .null xs = 0
  | [] => rfl
  | a :: xs => by
    show (if Value.null = .ref a then (1 : Int32) else own_mem .null xs) = 0
    rw [if_neg (fun h => nomatch h)]
    exact own_mem_null xs
theorem own_mem_map (t : Nat → Addr) (hinj : ∀ i j, i < 5 → j < 5 → t i = t j → i = j) (a : Nat) (ha : a < 5) : ∀ L : List Nat, L.all (fun i => decide (i < 5)) = true → own_mem (.ref (t a)) (L.map t) = if a ∈ L then 1 else 0
  | [], _ => rfl
  | b :: L, h => by
    rw [List.all_cons, Bool.and_eq_true, decide_eq_true_eq] at h
    show (if Value.ref (t a) = .ref (t b) then (1 : Int32) else own_mem (.ref (t a)) (L.map t)) = _
    rw [own_mem_map t hinj a ha L h.2]
    by_cases e : a = b
    · subst e
      rw [if_pos rfl, if_pos List.mem_cons_self]
    · rw [if_neg (fun q => e (hinj a b ha h.1 (Value.ref.inj q)))]
      by_cases m : a ∈ L
      · rw [if_pos m, if_pos (List.mem_cons_of_mem _ m)]
      · rw [if_neg m, if_neg (fun q => (List.mem_cons.mp q).elim e m)]
def own_m1 (b1 : Int32) : Int32 := (2 : Int32) ||| own_g [(1 : Int32), 0, 0, 0, 0] b1
def own_m2 (b1 b2 : Int32) : Int32 := (4 : Int32) ||| own_g [(1 : Int32), own_m1 b1, 0, 0, 0] b2
def own_m3 (b1 b2 b3 : Int32) : Int32 := (8 : Int32) ||| own_g [(1 : Int32), own_m1 b1, own_m2 b1 b2, 0, 0] b3
def own_m4 (b1 b2 b3 b4 : Int32) : Int32 := (16 : Int32) ||| own_g [(1 : Int32), own_m1 b1, own_m2 b1 b2, own_m3 b1 b2 b3, 0] b4
def own_bit (m a : Int32) : Int32 := (((m.toUInt32 >>> (a &&& 31).toUInt32).toInt32) &&& (1 : Int32))
def own_e (m a : Int32) : Int32 := if a < (5 : Int32) then (if own_bit m a = (0 : Int32) then 0 else 1) else 0
def own_i (n : Nat) : Int32 := Int32.ofInt ((n : Int) - 1)
def own_ok (L : List Nat) (m : Int32) (a : Nat) : Bool := L.all (fun i => decide (i < 5)) && decide (own_e m (Int32.ofNat a) = if a < 5 ∧ a ∈ L then 1 else 0)
theorem own_all0 : ∀ (a : Fin 6), own_ok (own_x0 id) 1 a.val = true := by decide +kernel
theorem own_all1 : ∀ (i1 : Fin 2) (a : Fin 6), own_ok (own_x1 id (own_i i1.val)) (own_m1 (own_i i1.val)) a.val = true := by decide +kernel
theorem own_all2 : ∀ (i1 : Fin 2) (i2 : Fin 3) (a : Fin 6), own_ok (own_x2 id (own_i i1.val) (own_i i2.val)) (own_m2 (own_i i1.val) (own_i i2.val)) a.val = true := by decide +kernel
theorem own_all3 : ∀ (i1 : Fin 2) (i2 : Fin 3) (i3 : Fin 4) (a : Fin 6), own_ok (own_x3 id (own_i i1.val) (own_i i2.val) (own_i i3.val)) (own_m3 (own_i i1.val) (own_i i2.val) (own_i i3.val)) a.val = true := by decide +kernel
theorem own_all4 : ∀ (i1 : Fin 2) (i2 : Fin 3) (i3 : Fin 4) (i4 : Fin 5) (a : Fin 6), own_ok (own_x4 id (own_i i1.val) (own_i i2.val) (own_i i3.val) (own_i i4.val)) (own_m4 (own_i i1.val) (own_i i2.val) (own_i i3.val) (own_i i4.val)) a.val = true := by decide +kernel
def own_b1 (p : Int32) : Int32 := ((p &&& (1 : Int32)) - (1 : Int32))
def own_b2 (p : Int32) : Int32 := (((((p.toUInt32 >>> ((1 : Int32) &&& 31).toUInt32).toInt32) &&& (3 : Int32)) % (3 : Int32)) - (1 : Int32))
def own_b3 (p : Int32) : Int32 := ((((p.toUInt32 >>> ((3 : Int32) &&& 31).toUInt32).toInt32) &&& (3 : Int32)) - (1 : Int32))
def own_b4 (p : Int32) : Int32 := (((((p.toUInt32 >>> ((5 : Int32) &&& 31).toUInt32).toInt32) &&& (7 : Int32)) % (5 : Int32)) - (1 : Int32))
def own_k (p : Int32) : Int32 := ((p &&& (7 : Int32)) % (5 : Int32))
def own_a (p : Int32) : Int32 := ((p &&& (7 : Int32)) % (6 : Int32))
theorem own_and (a c : Int32) (k : Nat) (hc : c.toBitVec.toNat = k) (hk : k < 2147483648) : 0 ≤ (a &&& c).toInt ∧ (a &&& c).toInt ≤ k := by
  have h : (a &&& c).toBitVec.toNat ≤ k := by
    rw [Int32.toBitVec_and, BitVec.toNat_and, hc]
    exact Nat.and_le_right
  have e : (a &&& c).toInt = ((a &&& c).toBitVec.toNat : Int) := BitVec.toInt_eq_toNat_of_lt (by omega)
  omega
theorem own_rem (a b : Int32) (ha : 0 ≤ a.toInt) (hb : 0 < b.toInt) : 0 ≤ (a % b).toInt ∧ (a % b).toInt < b.toInt := by
  rw [Int32.toInt_mod]
  exact ⟨Int.tmod_nonneg _ ha, Int.tmod_lt_of_pos _ hb⟩
theorem own_sub1 (a : Int32) (h : 0 ≤ a.toInt) : (a - (1 : Int32)).toInt = a.toInt - 1 := by
  have h2 := a.toInt_lt
  have : (1 : Int32).toInt = 1 := by decide
  rw [Int32.toInt_sub, this, Int.bmod_eq_of_le] <;> omega
theorem own_fin (b : Int32) (n : Nat) (h1 : -1 ≤ b.toInt) (h2 : b.toInt < (n : Int) - 1) : ∃ i : Fin n, b = own_i i.val := by
  refine ⟨⟨(b.toInt + 1).toNat, by omega⟩, ?_⟩
  show b = Int32.ofInt ((((b.toInt + 1).toNat : Nat) : Int) - 1)
  rw [show (((b.toInt + 1).toNat : Nat) : Int) - 1 = b.toInt from by omega, Int32.ofInt_toInt]
theorem own_fin0 (b : Int32) (n : Nat) (h1 : 0 ≤ b.toInt) (h2 : b.toInt < (n : Int)) : ∃ i : Fin n, b = Int32.ofNat i.val := by
  refine ⟨⟨b.toInt.toNat, by omega⟩, ?_⟩
  show b = Int32.ofNat b.toInt.toNat
  rw [← Int32.ofInt_eq_ofNat, show ((b.toInt.toNat : Nat) : Int) = b.toInt from by omega, Int32.ofInt_toInt]
theorem own_b1f (p : Int32) : ∃ i : Fin 2, own_b1 p = own_i i.val := by
  have h := own_and p 1 1 (by decide) (by decide)
  exact own_fin _ 2 (by unfold own_b1; rw [own_sub1 _ h.1]; omega) (by unfold own_b1; rw [own_sub1 _ h.1]; omega)
theorem own_b2f (p : Int32) : ∃ i : Fin 3, own_b2 p = own_i i.val := by
  have h := own_rem _ 3 (own_and ((p.toUInt32 >>> ((1 : Int32) &&& 31).toUInt32).toInt32) 3 3 (by decide) (by decide)).1 (by decide)
  have : (3 : Int32).toInt = 3 := by decide
  exact own_fin _ 3 (by unfold own_b2; rw [own_sub1 _ h.1]; omega) (by unfold own_b2; rw [own_sub1 _ h.1]; omega)
theorem own_b3f (p : Int32) : ∃ i : Fin 4, own_b3 p = own_i i.val := by
  have h := own_and ((p.toUInt32 >>> ((3 : Int32) &&& 31).toUInt32).toInt32) 3 3 (by decide) (by decide)
  exact own_fin _ 4 (by unfold own_b3; rw [own_sub1 _ h.1]; omega) (by unfold own_b3; rw [own_sub1 _ h.1]; omega)
theorem own_b4f (p : Int32) : ∃ i : Fin 5, own_b4 p = own_i i.val := by
  have h := own_rem _ 5 (own_and ((p.toUInt32 >>> ((5 : Int32) &&& 31).toUInt32).toInt32) 7 7 (by decide) (by decide)).1 (by decide)
  have : (5 : Int32).toInt = 5 := by decide
  exact own_fin _ 5 (by unfold own_b4; rw [own_sub1 _ h.1]; omega) (by unfold own_b4; rw [own_sub1 _ h.1]; omega)
theorem own_kf (p : Int32) : ∃ i : Fin 5, own_k p = Int32.ofNat i.val := by
  have h := own_rem _ 5 (own_and p 7 7 (by decide) (by decide)).1 (by decide)
  have : (5 : Int32).toInt = 5 := by decide
  exact own_fin0 _ 5 h.1 (by show (own_k p).toInt < 5; unfold own_k; omega)
theorem own_af (p : Int32) : ∃ i : Fin 6, own_a p = Int32.ofNat i.val := by
  have h := own_rem _ 6 (own_and p 7 7 (by decide) (by decide)).1 (by decide)
  have : (6 : Int32).toInt = 6 := by decide
  exact own_fin0 _ 6 h.1 (by show (own_a p).toInt < 6; unfold own_a; omega)
/-- b below 0, or a place among the first n -/
theorem own_low {n : Nat} (hn : n ≤ 5) (i : Fin (n + 1)) : own_i i.val < (0 : Int32) ∨ (¬ own_i i.val < (0 : Int32) ∧ own_i i.val < (5 : Int32) ∧ (own_i i.val).toNatClampNeg < n) := by
  obtain ⟨i, h⟩ := i
  have : ∀ j : Fin 6, own_i j.val < (0 : Int32) ∨ (¬ own_i j.val < (0 : Int32) ∧ own_i j.val < (5 : Int32) ∧ (own_i j.val).toNatClampNeg + 1 = j.val) ∨ j.val = 5 ∧ own_i j.val < (5 : Int32) ∧ ¬ own_i j.val < (0 : Int32) ∧ (own_i j.val).toNatClampNeg + 1 = j.val := by decide +kernel
  rcases this ⟨i, by omega⟩ with q | ⟨q1, q2, q3⟩ | ⟨q1, q2, q3, q4⟩
  · exact Or.inl q
  · exact Or.inr ⟨q1, q2, by have q5 : (own_i i).toNatClampNeg + 1 = i := q3; show (own_i i).toNatClampNeg < n; omega⟩
  · exact Or.inr ⟨q3, q2, by have q5 : (own_i i).toNatClampNeg + 1 = i := q4; show (own_i i).toNatClampNeg < n; omega⟩
def own_anc (vs : List Value) (a : Int32) : Value := if a = (5 : Int32) then .null else vs.getD a.toNatClampNeg .null
theorem own_anc_is {vs : List Value} (h : ∀ v ∈ vs, v.isRef = true) (a : Int32) : (own_anc vs a).isRef = true := by
  unfold own_anc
  split
  · rfl
  · exact own_get_is h _
def own_t (t0 t1 t2 t3 t4 : Addr) (i : Nat) : Addr := [t0, t1, t2, t3, t4].getD i 0
theorem own_inj {t0 t1 t2 t3 t4 : Addr} (h01 : t0 ≠ t1) (h02 : t0 ≠ t2) (h03 : t0 ≠ t3) (h04 : t0 ≠ t4) (h12 : t1 ≠ t2) (h13 : t1 ≠ t3) (h14 : t1 ≠ t4) (h23 : t2 ≠ t3) (h24 : t2 ≠ t4) (h34 : t3 ≠ t4) :
    ∀ i j, i < 5 → j < 5 → own_t t0 t1 t2 t3 t4 i = own_t t0 t1 t2 t3 t4 j → i = j := by
  intro i j hi hj h
  match i, j, hi, hj, h with
  | 0, 0, _, _, _ => rfl
  | 1, 1, _, _, _ => rfl
  | 2, 2, _, _, _ => rfl
  | 3, 3, _, _, _ => rfl
  | 4, 4, _, _, _ => rfl
  | 0, 1, _, _, h => exact absurd h h01
  | 0, 2, _, _, h => exact absurd h h02
  | 0, 3, _, _, h => exact absurd h h03
  | 0, 4, _, _, h => exact absurd h h04
  | 1, 2, _, _, h => exact absurd h h12
  | 1, 3, _, _, h => exact absurd h h13
  | 1, 4, _, _, h => exact absurd h h14
  | 2, 3, _, _, h => exact absurd h h23
  | 2, 4, _, _, h => exact absurd h h24
  | 3, 4, _, _, h => exact absurd h h34
  | 1, 0, _, _, h => exact absurd h.symm h01
  | 2, 0, _, _, h => exact absurd h.symm h02
  | 3, 0, _, _, h => exact absurd h.symm h03
  | 4, 0, _, _, h => exact absurd h.symm h04
  | 2, 1, _, _, h => exact absurd h.symm h12
  | 3, 1, _, _, h => exact absurd h.symm h13
  | 4, 1, _, _, h => exact absurd h.symm h14
  | 3, 2, _, _, h => exact absurd h.symm h23
  | 4, 2, _, _, h => exact absurd h.symm h24
  | 4, 3, _, _, h => exact absurd h.symm h34
theorem own_law {t0 t1 t2 t3 t4 : Addr} (inj : ∀ i j, i < 5 → j < 5 → own_t t0 t1 t2 t3 t4 i = own_t t0 t1 t2 t3 t4 j → i = j) (L : List Nat) (m : Int32) (a : Fin 6) (h : own_ok L m a.val = true) :
    own_mem (own_anc [.ref t0, .ref t1, .ref t2, .ref t3, .ref t4] (Int32.ofNat a.val)) (L.map (own_t t0 t1 t2 t3 t4)) = own_e m (Int32.ofNat a.val) := by
  rw [own_ok, Bool.and_eq_true, decide_eq_true_eq] at h
  rw [h.2]
  by_cases h5 : a.val < 5
  · have e : own_anc [.ref t0, .ref t1, .ref t2, .ref t3, .ref t4] (Int32.ofNat a.val) = .ref (own_t t0 t1 t2 t3 t4 a.val) := by
      have key : ∀ k : Nat, k < 5 → own_anc [.ref t0, .ref t1, .ref t2, .ref t3, .ref t4] (Int32.ofNat k) = .ref (own_t t0 t1 t2 t3 t4 k) := fun k hk => by
        match k, hk with
        | 0, _ => rfl
        | 1, _ => rfl
        | 2, _ => rfl
        | 3, _ => rfl
        | 4, _ => rfl
      exact key a.val h5
    rw [e, own_mem_map _ inj a.val h5 L h.1]
    by_cases q : a.val ∈ L
    · rw [if_pos q, if_pos ⟨h5, q⟩]
    · rw [if_neg q, if_neg (fun z => q z.2)]
  · have e : own_anc [.ref t0, .ref t1, .ref t2, .ref t3, .ref t4] (Int32.ofNat a.val) = .null := by
      obtain ⟨a, ha⟩ := a
      obtain rfl : a = 5 := by simp only at h5; omega
      rfl
    rw [e, own_mem_null, if_neg (fun z => h5 z.1)]
/-- the chain of bases from r on -/
def Chn (Z : State) (h : Heap) : Value → List Addr → Prop
  | r, [] => r = .null
  | r, a :: xs => r = .ref a ∧ ∃ r', Fld Z h a "com/example/labbrief/labbrief/cda/SchemaModel$ComplexType" "base" "Lcom/example/labbrief/labbrief/cda/SchemaModel$ComplexType;" r' ∧ r'.isRef = true ∧ Chn Z h r' xs
theorem own_link {Z : State} {h : Heap} (rs : List Value) (ls : List (List Addr)) (hl : ∀ i, i < ls.length → Chn Z h (rs.getD i .null) (ls.getD i [])) (b : Int32) (hb : b < (0 : Int32) ∨ (¬ b < (0 : Int32) ∧ b < (5 : Int32) ∧ b.toNatClampNeg < ls.length)) : Chn Z h (own_r rs b) (own_l ls b) := by
  unfold own_r own_l
  rcases hb with q | ⟨q, -, q'⟩
  · rw [if_pos q, if_pos q]; rfl
  · rw [if_neg q, if_neg q]; exact hl _ q'
theorem pn_0 : plainName "java/util/Map" = true := by first | (simp [plainName, overriddenIn]; done) | decide +kernel
theorem ef_3 (m : MethodId)  : entryFrame m #[] 0 = (mkF m 0 #[] []) := by first | (simp [entryFrame, mkF, argsToLocals, Value.category]; done) | rfl
theorem d3_0 : decode jdk_72_method_26_code 0 = .ok (.getstatic 81, 3) := by decide +kernel
theorem d3_3 : decode jdk_72_method_26_code 3 = .ok (.areturn, 1) := by decide +kernel
def Q3 (Z : State) (aM : Addr) (h0 : Heap) (n0 : Nat) (v : Option Value) (h : Heap) (L : List Loc) : Prop := v = some (.ref aM) ∧ Fr n0 L ∧ h = h0
set_option maxRecDepth 65536 in
set_option maxHeartbeats 40000000 in
theorem rm3 (l : Launch) (Z : State) (a0 : Array Value) (hw : ∀ d ∈ tables_1, d.before a0 Z = true) (ws : List Jvm.Cond) (aM : Addr) (h0 : Heap) (n0 : Nat) (O0 : Old Z n0 h0) (SM : Sta Z Z.heap "java/util/ImmutableCollections" "EMPTY_MAP" "Ljava/util/ImmutableCollections$MapN;" (.ref aM)) :
    MetFree l (⟨"java/util/Map", "of", "()Ljava/util/Map;"⟩ : MethodName) (head1 (Jvm.Cond.code (⟨"java/util/Map", "of", "()Ljava/util/Map;"⟩ : MethodName) jdk_72_method_26_code 0 (some (.object "java/util/Map")) :: ws) ({ frames := 0, cells := 0, slots := 0, locals := 0 } : Room)) (fun a U => a = #[] ∧ Z.Warmed39 U.vm ∧ U.heap = h0) (fun _ _ _ _ _ => True) (fun _ U o U' => ∃ v L, o = .returned v ∧ Q3 Z aM h0 n0 v U'.heap L ∧ FrameEnd U o U' L ({ frames := 0, cells := 0, slots := 0, locals := 0 } : Room).cells ({ frames := 0, cells := 0, slots := 0, locals := 0 } : Room).slots) := by
  refine MetFree.of_bodySF (plainFor_of_name pn_0) hisR ?_
  intro p e s m args below meth c s₁ Bd hml0 hP hK
  obtain ⟨rfl, hZ, hh⟩ := hP
  have hx := Bd.exec
  have hby := Bd.bytes
  have hml : c.maxLocals = 0 := hml0
  have hown : s.vm.findClass "java/util/Map" = some m.cls := findClass_of_methodNamed Bd.named
  have hnm := (name_of_methodNamed Bd.named Bd.method).1
  have X0 : Stand p l e ({ frames := 0, cells := 0, slots := 0, locals := 0 } : Room) s m #[] below meth c s₁ [] 0 0 := Stand.of_body Bd
  have e0 : s₁.heap = h0 := by rw [← hh, Bd.state]; rfl
  have N0 := Fr.nil n0
  have Z0 : n0 ≤ h0.size := O0.1 ▸ O0.2.1
  have pre0 : ∀ t, Steps p.tables e below (s₁.setTop (mkF m 0 #[] [])) t → Steps p.tables e below (s₁.setTop (entryFrame m #[] 0)) t := fun t k => castTop (ef_3 m ) k
  obtain ⟨T1, X1, e1, st1⟩ := getS2 X0 hx hZ hown (host := "") (Or.inl (hw _ (List.mem_of_getElem? (i := 14) rfl))) Via.refl e0 (SM.ext O0.2) (g := (mkF m 0 #[] [])) rfl (hb hby d3_0)
  have pre2 : ∀ t, Steps p.tables e below (T1.setTop (mkF m 3 #[] [(.ref aM)])) t → Steps p.tables e below (s₁.setTop (entryFrame m #[] 0)) t := fun t kt => pre0 _ (st1 _ kt)
  obtain ⟨fs, hr, hrun, hended, hW, hsame⟩ := X1.leave (v := (some (.ref aM))) (fun h => by rw [Bd.returns] at h; cases h)
  refine ⟨_, _, pre2 _ ?_, hrun, hended, _, _, rfl, ?_, ⟨_, rfl⟩, hW, hsame.mono (by decide) (by decide)⟩
  · show Steps p.tables e below (T1.setTop (mkF m 3 #[] [(.ref aM)])) _
    exact retOut X1 hx (t := (.object "java/util/Map")) Bd.returns rfl (Or.inr (Or.inr (Or.inr (Or.inr ⟨rfl, rfl, rfl⟩)))) (hb hby d3_3) hr
  · show Q3 Z aM h0 n0 _ T1.heap _
    rw [e1]
    exact ⟨rfl, N0, rfl⟩
theorem pn_1 : plainName "com/example/labbrief/labbrief/cda/SchemaModel$ComplexType" = true := by first | (simp [plainName, overriddenIn]; done) | decide +kernel
theorem ef_1 (m : MethodId) (a1 : Addr) : entryFrame m #[(.ref a1)] 1 = (mkF m 0 #[.val (.ref a1)] []) := by first | (simp [entryFrame, mkF, argsToLocals, Value.category]; done) | rfl
theorem d1_0 : decode prog_141_method_1_code 0 = .ok (.aload_n 0, 1) := by decide +kernel
theorem d1_1 : decode prog_141_method_1_code 1 = .ok (.invokespecial 1, 3) := by decide +kernel
theorem d1_4 : decode prog_141_method_1_code 4 = .ok (.aload_n 0, 1) := by decide +kernel
theorem pd_0 : parseMethodDescriptor "()Ljava/util/Map;" = some ⟨[], some (.object "java/util/Map")⟩ := by decide +kernel
theorem d1_5 : decode prog_141_method_1_code 5 = .ok (.invokestatic 7, 3) := by decide +kernel
theorem d1_8 : decode prog_141_method_1_code 8 = .ok (.putfield 13, 3) := by decide +kernel
theorem d1_11 : decode prog_141_method_1_code 11 = .ok (.return_, 1) := by decide +kernel
def Q1 (Z : State) (a1 : Addr) (aM : Addr) (h0 : Heap) (n0 : Nat) (v : Option Value) (h : Heap) (L : List Loc) : Prop := v = none ∧ Fr n0 L ∧ Keep h0 h [a1] ∧ Fld Z h a1 "com/example/labbrief/labbrief/cda/SchemaModel$ComplexType" "base" "Lcom/example/labbrief/labbrief/cda/SchemaModel$ComplexType;" .null
set_option maxRecDepth 65536 in
set_option maxHeartbeats 40000000 in
theorem rm1 (l : Launch) (Z : State) (a0 : Array Value) (hw : ∀ d ∈ tables_1, d.before a0 Z = true) (ws : List Jvm.Cond) (a1 : Addr) (aM : Addr) (h0 : Heap) (n0 : Nat) (O0 : Old Z n0 h0) (SM : Sta Z Z.heap "java/util/ImmutableCollections" "EMPTY_MAP" "Ljava/util/ImmutableCollections$MapN;" (.ref aM)) (E1 : Exa Z h0 a1 "com/example/labbrief/labbrief/cda/SchemaModel$ComplexType") (Fa : Fld Z h0 a1 "com/example/labbrief/labbrief/cda/SchemaModel$ComplexType" "attributes" "Ljava/util/Map;" .null) (Fb : Fld Z h0 a1 "com/example/labbrief/labbrief/cda/SchemaModel$ComplexType" "base" "Lcom/example/labbrief/labbrief/cda/SchemaModel$ComplexType;" .null) (g1 : n0 ≤ a1) :
    MetFree l (⟨"com/example/labbrief/labbrief/cda/SchemaModel$ComplexType", "<init>", "()V"⟩ : MethodName) (head1 (Jvm.Cond.code (⟨"com/example/labbrief/labbrief/cda/SchemaModel$ComplexType", "<init>", "()V"⟩ : MethodName) prog_141_method_1_code 1 none :: ws) ({ frames := 1, cells := 0, slots := 0, locals := 13 } : Room)) (fun a U => a = #[(.ref a1)] ∧ Z.Warmed39 U.vm ∧ U.heap = h0) (fun _ _ _ _ _ => True) (fun _ U o U' => ∃ v L, o = .returned v ∧ Q1 Z a1 aM h0 n0 v U'.heap L ∧ FrameEnd U o U' L ({ frames := 1, cells := 0, slots := 0, locals := 13 } : Room).cells ({ frames := 1, cells := 0, slots := 0, locals := 13 } : Room).slots) := by
  refine MetFree.of_bodySF (plainFor_of_name pn_1) hisR ?_
  intro p e s m args below meth c s₁ Bd hml0 hP hK
  obtain ⟨rfl, hZ, hh⟩ := hP
  have hx := Bd.exec
  have hby := Bd.bytes
  have hml : c.maxLocals = 1 := hml0
  have hown : s.vm.findClass "com/example/labbrief/labbrief/cda/SchemaModel$ComplexType" = some m.cls := findClass_of_methodNamed Bd.named
  have hnm := (name_of_methodNamed Bd.named Bd.method).1
  have X0 : Stand p l e ({ frames := 1, cells := 0, slots := 0, locals := 13 } : Room) s m #[(.ref a1)] below meth c s₁ [] 0 0 := Stand.of_body Bd
  have e0 : s₁.heap = h0 := by rw [← hh, Bd.state]; rfl
  have N0 := Fr.nil n0
  have Z0 : n0 ≤ h0.size := O0.1 ▸ O0.2.1
  have K0 : Keep h0 h0 [a1] := Keep.refl _ _
  have pre0 : ∀ t, Steps p.tables e below (s₁.setTop (mkF m 0 #[.val (.ref a1)] [])) t → Steps p.tables e below (s₁.setTop (entryFrame m #[(.ref a1)] 1)) t := fun t k => castTop (ef_1 m a1) k
  have pre1 : ∀ t, Steps p.tables e below (s₁.setTop (mkF m 1 #[.val (.ref a1)] [(.ref a1)])) t → Steps p.tables e below (s₁.setTop (entryFrame m #[(.ref a1)] 1)) t := fun t kt => by
    refine pre0 _ ?_
    show Steps p.tables e below (s₁.setTop (mkF m 0 #[.val (.ref a1)] [])) _
    refine XS.aloadN X0.here hx rfl (hb hby d1_0) rfl rfl ?_
    exact kt
  obtain ⟨T2, X2, e2, st2⟩ := initO X0 hx hZ hown (hw _ (List.mem_of_getElem? (i := 7) rfl)) (hw _ (List.mem_of_getElem? (i := 8) rfl)) (hw _ (List.mem_of_getElem? (i := 9) rfl)) e0 (g := (mkF m 1 #[.val (.ref a1)] [(.ref a1)])) rfl (by rw [hml]; rfl) rfl (hb hby d1_1) (by decide) (W := 0) (by show 2 * 0 + _ ≤ _; exact Nat.le_of_eq rfl) (by decide)
  have pre3 : ∀ t, Steps p.tables e below (T2.setTop (mkF m 4 #[.val (.ref a1)] [])) t → Steps p.tables e below (s₁.setTop (entryFrame m #[(.ref a1)] 1)) t := fun t kt => pre1 _ (st2 _ kt)
  have pre4 : ∀ t, Steps p.tables e below (T2.setTop (mkF m 5 #[.val (.ref a1)] [(.ref a1)])) t → Steps p.tables e below (s₁.setTop (entryFrame m #[(.ref a1)] 1)) t := fun t kt => by
    refine pre3 _ ?_
    show Steps p.tables e below (T2.setTop (mkF m 4 #[.val (.ref a1)] [])) _
    refine XS.aloadN X2.here hx rfl (hb hby d1_4) rfl rfl ?_
    exact kt
  obtain ⟨_, _, ⟨T5, L5, kc5, nc5⟩, -, X5, ⟨Lc5, hQ5, l5, y5, z5⟩, st5⟩ := Jvm.LawKit.callS X2 hx (y := (⟨"java/util/Map", "of", "()Ljava/util/Map;"⟩ : MethodName)) hown (mvT hZ (hw _ (List.mem_of_getElem? (i := 10) rfl))) (mvT hZ (hw _ (List.mem_of_getElem? (i := 11) rfl))) (mvT hZ (hw _ (List.mem_of_getElem? (i := 12) rfl))) (mvT hZ (hw _ (List.mem_of_getElem? (i := 13) rfl))) (by decide) (backOf (W := 1) (rm3 l Z a0 hw [] aM h0 n0 O0 SM) hZ (hw _ (List.mem_of_getElem? (i := 13) rfl)) (hw _ (List.mem_of_getElem? (i := 12) rfl)) (by decide) (by decide)) (g := (mkF m 5 #[.val (.ref a1)] [(.ref a1)])) rfl (by rw [hml]; rfl) (argsL := []) (rest := [(.ref a1)]) (lenOf pd_0 rfl) rfl (by show 2 * 0 + _ ≤ _; exact Nat.le_of_eq rfl) (hb hby d1_5) (fun _ _ => ⟨rfl, e2, (by decide : 0 + 0 ≤ _), (by decide : 0 + 0 ≤ _)⟩)
  dsimp only [Pt.U, Pt.locs, Pt.cells, Pt.slots] at X5 l5 y5 z5 st5 hQ5
  subst l5 y5 z5
  obtain ⟨rfl, N5q, he5⟩ := hQ5
  have N5 := Fr.app N0 N5q
  have pre6 : ∀ t, Steps p.tables e below (T5.setTop (mkF m 8 #[.val (.ref a1)] [(.ref aM), (.ref a1)])) t → Steps p.tables e below (s₁.setTop (entryFrame m #[(.ref a1)] 1)) t := fun t kt => pre4 _ (st5 _ kt)
  obtain ⟨T7, h7, X7, e7, W7, st7⟩ := putF X5 hx hZ hown (host := "") (Or.inl (hw _ (List.mem_of_getElem? (i := 16) rfl))) Via.refl he5 Fa E1 (Or.inl (hw _ (List.mem_of_getElem? (i := 17) rfl))) (hw _ (List.mem_of_getElem? (i := 2) rfl)) (ty := (.object "java/util/Map")) (by decide) rfl rfl (g := (mkF m 8 #[.val (.ref a1)] [(.ref aM), (.ref a1)])) rfl rfl (hb hby d1_8)
  have Fw7 := Fa.same W7
  have N7 := Fr.snoc X7 N5 g1
  have pre8 : ∀ t, Steps p.tables e below (T7.setTop (mkF m 11 #[.val (.ref a1)] [])) t → Steps p.tables e below (s₁.setTop (entryFrame m #[(.ref a1)] 1)) t := fun t kt => pre6 _ (st7 _ kt)
  have k9 : Keep h0 h7 [a1] := (K0.wr W7 (Or.inl (List.mem_of_getElem? (i := 0) rfl)))
  have f10 := (Fb.other W7 (Or.inr (slot_ne (Or.inl (hw _ (List.mem_of_getElem? (i := 20) rfl))) (Or.inl (hw _ (List.mem_of_getElem? (i := 17) rfl))) (by decide) (t := (.object "com/example/labbrief/labbrief/cda/SchemaModel$ComplexType")) (t' := (.object "java/util/Map")) (by decide) (by decide))))
  obtain ⟨fs, hr, hrun, hended, hW, hsame⟩ := X7.leave (v := none) (fun _ => rfl)
  refine ⟨_, _, pre8 _ ?_, hrun, hended, _, _, rfl, ?_, ⟨_, rfl⟩, hW, hsame.mono (by decide) (by decide)⟩
  · show Steps p.tables e below (T7.setTop (mkF m 11 #[.val (.ref a1)] [])) _
    exact X7.returnOut hx Bd.returns (hb hby d1_11) hr
  · show Q1 Z a1 aM h0 n0 _ T7.heap _
    rw [e7]
    exact ⟨rfl, N7, k9, f10⟩
theorem d4_2 : decode prog_141_method_2_code 2 = .ok (.aload_n 2, 1) := by decide +kernel
theorem d4_3 : decode prog_141_method_2_code 3 = .ok (.ifnull 18, 3) := by decide +kernel
theorem d4_21 : decode prog_141_method_2_code 21 = .ok (.iconst 0, 1) := by decide +kernel
theorem d4_6 : decode prog_141_method_2_code 6 = .ok (.aload_n 2, 1) := by decide +kernel
theorem d4_7 : decode prog_141_method_2_code 7 = .ok (.aload_n 1, 1) := by decide +kernel
theorem d4_8 : decode prog_141_method_2_code 8 = .ok (.if_acmp .ne 5, 3) := by decide +kernel
theorem d4_11 : decode prog_141_method_2_code 11 = .ok (.iconst 1, 1) := by decide +kernel
theorem d4_13 : decode prog_141_method_2_code 13 = .ok (.aload_n 2, 1) := by decide +kernel
theorem d4_14 : decode prog_141_method_2_code 14 = .ok (.getfield 19, 3) := by decide +kernel
theorem d4_17 : decode prog_141_method_2_code 17 = .ok (.astore_n 2, 1) := by decide +kernel
theorem d4_18 : decode prog_141_method_2_code 18 = .ok (.goto (-16), 3) := by decide +kernel
set_option maxRecDepth 65536 in
set_option maxHeartbeats 40000000 in
theorem own_loop {p : Program} {l : Launch} {e : Env} {R : Room} {s : State} {m : MethodId} {args : Array Value} {below : List Frame} {meth : Method} {c : Code} {Z : State} {a0 : Array Value} {h0 : Heap} (hx : p.tables.exec = Jvm.exec) (hZ : Z.Warmed39 s.vm) (hw : ∀ d ∈ tables_1, d.before a0 Z = true) (hby : c.code = prog_141_method_2_code) (hml : c.maxLocals = 3) (hown : s.vm.findClass "com/example/labbrief/labbrief/cda/SchemaModel$ComplexType" = some m.cls) (a1 : Addr) (u : Value) (hu : u.isRef = true) : ∀ (xs : List Addr) (r : Value) (T0 : State), Stand p l e R s m args below meth c T0 [] 0 0 → T0.heap = h0 → Chn Z h0 r xs →
    ∃ (T' : State) (r' : Value), Stand p l e R s m args below meth c T' [] 0 0 ∧ T'.heap = h0 ∧ ((own_mem u xs = 1 ∧ ∀ t, Steps p.tables e below (T'.setTop (mkF m 12 #[.val (.ref a1), .val u, .val r'] [(.int (1 : Int32))])) t → Steps p.tables e below (T0.setTop (mkF m 2 #[.val (.ref a1), .val u, .val r] [])) t) ∨ (own_mem u xs = 0 ∧ ∀ t, Steps p.tables e below (T'.setTop (mkF m 22 #[.val (.ref a1), .val u, .val r'] [(.int (0 : Int32))])) t → Steps p.tables e below (T0.setTop (mkF m 2 #[.val (.ref a1), .val u, .val r] [])) t)) := by
  intro xs
  induction xs with
  | nil =>
    intro r T0 X0 e0 hr
    obtain rfl : r = .null := hr
    have pre0 : ∀ t, Steps p.tables e below (T0.setTop (mkF m 2 #[.val (.ref a1), .val u, .val .null] [])) t → Steps p.tables e below (T0.setTop (mkF m 2 #[.val (.ref a1), .val u, .val .null] [])) t := fun t k => k
    have pre1 : ∀ t, Steps p.tables e below (T0.setTop (mkF m 22 #[.val (.ref a1), .val u, .val .null] [(.int (0 : Int32))])) t → Steps p.tables e below (T0.setTop (mkF m 2 #[.val (.ref a1), .val u, .val .null] [])) t := fun t kt => by
      refine pre0 _ ?_
      show Steps p.tables e below (T0.setTop (mkF m 2 #[.val (.ref a1), .val u, .val .null] [])) _
      refine XS.aloadN X0.here hx rfl (hb hby d4_2) rfl rfl ?_
      show Steps p.tables e below (T0.setTop (mkF m 3 #[.val (.ref a1), .val u, .val .null] [.null])) _
      refine XS.ifnullYes X0.here hx rfl (pc0 := 3) (pc' := 21) rfl (hb hby d4_3) rfl (by decide) (by decide) ?_
      show Steps p.tables e below (T0.setTop (mkF m 21 #[.val (.ref a1), .val u, .val .null] [])) _
      refine XS.iconst X0.here hx rfl (hb hby d4_21) ?_
      exact kt
    exact ⟨T0, .null, X0, e0, Or.inr ⟨rfl, pre1⟩⟩
  | cons a xs ih =>
    intro r T0 X0 e0 hr
    obtain ⟨rfl, r1, Fb, hi, hc⟩ := hr
    have pre0 : ∀ t, Steps p.tables e below (T0.setTop (mkF m 2 #[.val (.ref a1), .val u, .val (.ref a)] [])) t → Steps p.tables e below (T0.setTop (mkF m 2 #[.val (.ref a1), .val u, .val (.ref a)] [])) t := fun t k => k
    have pre2 : ∀ t, Steps p.tables e below (T0.setTop (mkF m 8 #[.val (.ref a1), .val u, .val (.ref a)] [u, (.ref a)])) t → Steps p.tables e below (T0.setTop (mkF m 2 #[.val (.ref a1), .val u, .val (.ref a)] [])) t := fun t kt => by
      refine pre0 _ ?_
      show Steps p.tables e below (T0.setTop (mkF m 2 #[.val (.ref a1), .val u, .val (.ref a)] [])) _
      refine XS.aloadN X0.here hx rfl (hb hby d4_2) rfl rfl ?_
      show Steps p.tables e below (T0.setTop (mkF m 3 #[.val (.ref a1), .val u, .val (.ref a)] [(.ref a)])) _
      refine XS.ifnullNo X0.here hx rfl (hb hby d4_3) rfl ?_
      show Steps p.tables e below (T0.setTop (mkF m 6 #[.val (.ref a1), .val u, .val (.ref a)] [])) _
      refine XS.aloadN X0.here hx rfl (hb hby d4_6) rfl rfl ?_
      show Steps p.tables e below (T0.setTop (mkF m 7 #[.val (.ref a1), .val u, .val (.ref a)] [(.ref a)])) _
      refine XS.aloadN X0.here hx rfl (hb hby d4_7) rfl hu ?_
      exact kt
    by_cases c1 : u = .ref a
    · have pre3 : ∀ t, Steps p.tables e below (T0.setTop (mkF m 12 #[.val (.ref a1), .val u, .val (.ref a)] [(.int (1 : Int32))])) t → Steps p.tables e below (T0.setTop (mkF m 2 #[.val (.ref a1), .val u, .val (.ref a)] [])) t := fun t kt => by
        refine pre2 _ ?_
        show Steps p.tables e below (T0.setTop (mkF m 8 #[.val (.ref a1), .val u, .val (.ref a)] [u, (.ref a)])) _
        refine Jvm.RoadKit.acmp (g := (mkF m 8 #[.val (.ref a1), .val u, .val (.ref a)] [u, (.ref a)])) X0 hx rfl rfl hu (pc0 := 8) (pc' := 11) (same := true) rfl (hb hby d4_8) rfl (decide_eq_true c1.symm) (by decide) (by decide) ?_
        show Steps p.tables e below (T0.setTop (mkF m 11 #[.val (.ref a1), .val u, .val (.ref a)] [])) _
        refine XS.iconst X0.here hx rfl (hb hby d4_11) ?_
        exact kt
      exact ⟨T0, .ref a, X0, e0, Or.inl ⟨if_pos c1, pre3⟩⟩
    · have pre4 : ∀ t, Steps p.tables e below (T0.setTop (mkF m 14 #[.val (.ref a1), .val u, .val (.ref a)] [(.ref a)])) t → Steps p.tables e below (T0.setTop (mkF m 2 #[.val (.ref a1), .val u, .val (.ref a)] [])) t := fun t kt => by
        refine pre2 _ ?_
        show Steps p.tables e below (T0.setTop (mkF m 8 #[.val (.ref a1), .val u, .val (.ref a)] [u, (.ref a)])) _
        refine Jvm.RoadKit.acmp (g := (mkF m 8 #[.val (.ref a1), .val u, .val (.ref a)] [u, (.ref a)])) X0 hx rfl rfl hu (pc0 := 8) (pc' := 13) (same := false) rfl (hb hby d4_8) rfl (decide_eq_false fun q => c1 q.symm) (by decide) (by decide) ?_
        show Steps p.tables e below (T0.setTop (mkF m 13 #[.val (.ref a1), .val u, .val (.ref a)] [])) _
        refine XS.aloadN X0.here hx rfl (hb hby d4_13) rfl rfl ?_
        exact kt
      obtain ⟨T5, X5, e5, st5⟩ := getF X0 hx hZ hown (host := "") (Or.inl (hw _ (List.mem_of_getElem? (i := 27) rfl))) Via.refl e0 Fb (g := (mkF m 14 #[.val (.ref a1), .val u, .val (.ref a)] [(.ref a)])) rfl rfl (hb hby d4_14)
      have pre6 : ∀ t, Steps p.tables e below (T5.setTop (mkF m 17 #[.val (.ref a1), .val u, .val (.ref a)] [r1])) t → Steps p.tables e below (T0.setTop (mkF m 2 #[.val (.ref a1), .val u, .val (.ref a)] [])) t := fun t kt => pre4 _ (st5 _ kt)
      have pre7 : ∀ t, Steps p.tables e below (T5.setTop (mkF m 2 #[.val (.ref a1), .val u, .val r1] [])) t → Steps p.tables e below (T0.setTop (mkF m 2 #[.val (.ref a1), .val u, .val (.ref a)] [])) t := fun t kt => by
        refine pre6 _ ?_
        show Steps p.tables e below (T5.setTop (mkF m 17 #[.val (.ref a1), .val u, .val (.ref a)] [r1])) _
        refine XS.astoreN X5.here hx rfl (hb hby d4_17) rfl hi (l' := #[.val (.ref a1), .val u, .val r1]) (by rcases ref_cases hu with qs0 | ⟨_, qs0⟩ <;> rcases ref_cases hi with qs1 | ⟨_, qs1⟩ <;> simp only [qs0, qs1] <;> rfl) ?_
        show Steps p.tables e below (T5.setTop (mkF m 18 #[.val (.ref a1), .val u, .val r1] [])) _
        refine XS.goto X5.here hx rfl (pc0 := 18) (pc' := 2) rfl (hb hby d4_18) (by decide) (by decide) ?_
        exact kt
      obtain ⟨T', r', X', e', hcase⟩ := ih r1 T5 X5 e5 hc
      have hm : own_mem u (a :: xs) = own_mem u xs := if_neg c1
      exact ⟨T', r', X', e', hcase.imp (fun q => ⟨hm.trans q.1, fun t k => pre7 _ (q.2 t k)⟩) (fun q => ⟨hm.trans q.1, fun t k => pre7 _ (q.2 t k)⟩)⟩
theorem ef_4 (m : MethodId) (a1 : Addr) (u : Value) (h_u : u.isRef = true) : entryFrame m #[(.ref a1), u] 3 = (mkF m 0 #[.val (.ref a1), .val u, .unset] []) := by rcases ref_cases h_u with rfl | ⟨_, rfl⟩ <;> first | (simp [entryFrame, mkF, argsToLocals, Value.category]; done) | rfl
theorem d4_0 : decode prog_141_method_2_code 0 = .ok (.aload_n 0, 1) := by decide +kernel
theorem d4_1 : decode prog_141_method_2_code 1 = .ok (.astore_n 2, 1) := by decide +kernel
theorem d4_12 : decode prog_141_method_2_code 12 = .ok (.ireturn, 1) := by decide +kernel
theorem d4_22 : decode prog_141_method_2_code 22 = .ok (.ireturn, 1) := by decide +kernel
def Q4 (Z : State) (a1 : Addr) (u : Value) (xs : List Addr) (h0 : Heap) (n0 : Nat) (v : Option Value) (h : Heap) (L : List Loc) : Prop := v = some (.int (own_mem u xs)) ∧ Fr n0 L ∧ h = h0
set_option maxRecDepth 65536 in
set_option maxHeartbeats 40000000 in
theorem rm4 (l : Launch) (Z : State) (a0 : Array Value) (hw : ∀ d ∈ tables_1, d.before a0 Z = true) (ws : List Jvm.Cond) (a1 : Addr) (u : Value) (xs : List Addr) (h0 : Heap) (n0 : Nat) (Z0 : n0 ≤ h0.size) (hu : u.isRef = true) (hc : Chn Z h0 (.ref a1) xs) :
    MetFree l (⟨"com/example/labbrief/labbrief/cda/SchemaModel$ComplexType", "derivesFrom", "(Lcom/example/labbrief/labbrief/cda/SchemaModel$ComplexType;)Z"⟩ : MethodName) (head1 (Jvm.Cond.code (⟨"com/example/labbrief/labbrief/cda/SchemaModel$ComplexType", "derivesFrom", "(Lcom/example/labbrief/labbrief/cda/SchemaModel$ComplexType;)Z"⟩ : MethodName) prog_141_method_2_code 3 (some .boolean) :: ws) ({ frames := 0, cells := 0, slots := 0, locals := 0 } : Room)) (fun a U => a = #[(.ref a1), u] ∧ Z.Warmed39 U.vm ∧ U.heap = h0) (fun _ _ _ _ _ => True) (fun _ U o U' => ∃ v L, o = .returned v ∧ Q4 Z a1 u xs h0 n0 v U'.heap L ∧ FrameEnd U o U' L ({ frames := 0, cells := 0, slots := 0, locals := 0 } : Room).cells ({ frames := 0, cells := 0, slots := 0, locals := 0 } : Room).slots) := by
  refine MetFree.of_bodySF (plainFor_of_name pn_1) hisR ?_
  intro p e s m args below meth c s₁ Bd hml0 hP hK
  obtain ⟨rfl, hZ, hh⟩ := hP
  have hx := Bd.exec
  have hby := Bd.bytes
  have hml : c.maxLocals = 3 := hml0
  have hown : s.vm.findClass "com/example/labbrief/labbrief/cda/SchemaModel$ComplexType" = some m.cls := findClass_of_methodNamed Bd.named
  have hnm := (name_of_methodNamed Bd.named Bd.method).1
  have X0 : Stand p l e ({ frames := 0, cells := 0, slots := 0, locals := 0 } : Room) s m #[(.ref a1), u] below meth c s₁ [] 0 0 := Stand.of_body Bd
  have e0 : s₁.heap = h0 := by rw [← hh, Bd.state]; rfl
  have N0 := Fr.nil n0
  have pre0 : ∀ t, Steps p.tables e below (s₁.setTop (mkF m 0 #[.val (.ref a1), .val u, .unset] [])) t → Steps p.tables e below (s₁.setTop (entryFrame m #[(.ref a1), u] 3)) t := fun t k => castTop (ef_4 m a1 u hu) k
  have pre1 : ∀ t, Steps p.tables e below (s₁.setTop (mkF m 2 #[.val (.ref a1), .val u, .val (.ref a1)] [])) t → Steps p.tables e below (s₁.setTop (entryFrame m #[(.ref a1), u] 3)) t := fun t kt => by
    refine pre0 _ ?_
    show Steps p.tables e below (s₁.setTop (mkF m 0 #[.val (.ref a1), .val u, .unset] [])) _
    refine XS.aloadN X0.here hx rfl (hb hby d4_0) rfl rfl ?_
    show Steps p.tables e below (s₁.setTop (mkF m 1 #[.val (.ref a1), .val u, .unset] [(.ref a1)])) _
    refine XS.astoreN X0.here hx rfl (hb hby d4_1) rfl rfl (l' := #[.val (.ref a1), .val u, .val (.ref a1)]) (by rcases ref_cases hu with qs0 | ⟨_, qs0⟩ <;> simp only [qs0] <;> rfl) ?_
    exact kt
  obtain ⟨T', r', X', e', hcase⟩ := own_loop hx hZ hw hby hml hown a1 u hu xs (.ref a1) s₁ X0 e0 hc
  rcases hcase with ⟨em, st⟩ | ⟨em, st⟩
  · have preL : ∀ t, Steps p.tables e below (T'.setTop (mkF m 12 #[.val (.ref a1), .val u, .val r'] [(.int (1 : Int32))])) t → Steps p.tables e below (s₁.setTop (entryFrame m #[(.ref a1), u] 3)) t := fun t kt => pre1 _ (st t kt)
    obtain ⟨fs, hr, hrun, hended, hW, hsame⟩ := X'.leave (v := (some (.int (1 : Int32)))) (fun h => by rw [Bd.returns] at h; cases h)
    refine ⟨_, _, preL _ ?_, hrun, hended, _, _, rfl, ?_, ⟨_, rfl⟩, hW, hsame.mono (by decide) (by decide)⟩
    · show Steps p.tables e below (T'.setTop (mkF m 12 #[.val (.ref a1), .val u, .val r'] [(.int (1 : Int32))])) _
      exact retN X' hx (t := .boolean) Bd.returns (by simp) (hb hby d4_12) hr
    · show Q4 Z a1 u xs h0 n0 _ T'.heap _
      rw [e']
      exact ⟨by rw [em], N0, rfl⟩
  · have preL : ∀ t, Steps p.tables e below (T'.setTop (mkF m 22 #[.val (.ref a1), .val u, .val r'] [(.int (0 : Int32))])) t → Steps p.tables e below (s₁.setTop (entryFrame m #[(.ref a1), u] 3)) t := fun t kt => pre1 _ (st t kt)
    obtain ⟨fs, hr, hrun, hended, hW, hsame⟩ := X'.leave (v := (some (.int (0 : Int32)))) (fun h => by rw [Bd.returns] at h; cases h)
    refine ⟨_, _, preL _ ?_, hrun, hended, _, _, rfl, ?_, ⟨_, rfl⟩, hW, hsame.mono (by decide) (by decide)⟩
    · show Steps p.tables e below (T'.setTop (mkF m 22 #[.val (.ref a1), .val u, .val r'] [(.int (0 : Int32))])) _
      exact retN X' hx (t := .boolean) Bd.returns (by simp) (hb hby d4_22) hr
    · show Q4 Z a1 u xs h0 n0 _ T'.heap _
      rw [e']
      exact ⟨by rw [em], N0, rfl⟩
theorem pn_2 : plainName "com/example/labbrief/labbrief/cda/ComplexTypeDerivesFromPinLaw" = true := by first | (simp [plainName, overriddenIn]; done) | decide +kernel
theorem ef_0 (m : MethodId) (p0 : Int32) (p1 : Int32) (p2 : Int32) : entryFrame m #[(.int p0), (.int p1), (.int p2)] maxLocals = (mkF m 0 #[.val (.int p0), .val (.int p1), .val (.int p2), .unset, .unset, .unset, .unset, .unset, .unset, .unset, .unset, .unset, .unset] []) := by first | (simp [entryFrame, mkF, argsToLocals, Value.category, maxLocals]; done) | rfl
theorem pd_1 : parseMethodDescriptor "()V" = some ⟨[], none⟩ := by decide +kernel
theorem pd_2 : parseMethodDescriptor "(Lcom/example/labbrief/labbrief/cda/SchemaModel$ComplexType;)Z" = some ⟨[(.object "com/example/labbrief/labbrief/cda/SchemaModel$ComplexType")], some .boolean⟩ := by decide +kernel
def Q0 (Z : State) (p0 : Int32) (p1 : Int32) (p2 : Int32) (aM : Addr) (h0 : Heap) (n0 : Nat) (v : Option Value) (h : Heap) (L : List Loc) : Prop := v = some (.int (1 : Int32)) ∧ Fr n0 L
set_option maxRecDepth 65536 in
set_option maxHeartbeats 40000000 in
theorem rm0 (l : Launch) (Z : State) (a0 : Array Value) (hw : ∀ d ∈ tables_1, d.before a0 Z = true) (ws : List Jvm.Cond) (p0 : Int32) (p1 : Int32) (p2 : Int32) (aM : Addr) (h0 : Heap) (n0 : Nat) (O0 : Old Z n0 h0) (SM : Sta Z Z.heap "java/util/ImmutableCollections" "EMPTY_MAP" "Ljava/util/ImmutableCollections$MapN;" (.ref aM)) :
    MetFree l x (head1 (Jvm.Cond.code x code maxLocals ret :: ws) room_1) (fun a U => a = #[(.int p0), (.int p1), (.int p2)] ∧ Z.Warmed39 U.vm ∧ U.heap = h0) (fun _ _ _ _ _ => True) (fun _ U o U' => ∃ v L, o = .returned v ∧ Q0 Z p0 p1 p2 aM h0 n0 v U'.heap L ∧ FrameEnd U o U' L room_1.cells room_1.slots) := by
  refine MetFree.of_bodySF (plainFor_of_name pn_2) hisR ?_
  intro p e s m args below meth c s₁ Bd hml0 hP hK
  obtain ⟨rfl, hZ, hh⟩ := hP
  have hx := Bd.exec
  have hby := Bd.bytes
  have hml : c.maxLocals = 13 := hml0
  have hown : s.vm.findClass "com/example/labbrief/labbrief/cda/ComplexTypeDerivesFromPinLaw" = some m.cls := findClass_of_methodNamed Bd.named
  have hnm := (name_of_methodNamed Bd.named Bd.method).1
  have X0 : Stand p l e room_1 s m #[(.int p0), (.int p1), (.int p2)] below meth c s₁ [] 0 0 := Stand.of_body Bd
  have e0 : s₁.heap = h0 := by rw [← hh, Bd.state]; rfl
  have N0 := Fr.nil n0
  have Z0 : n0 ≤ h0.size := O0.1 ▸ O0.2.1
  have pre0 : ∀ t, Steps p.tables e below (s₁.setTop (mkF m 0 #[.val (.int p0), .val (.int p1), .val (.int p2), .unset, .unset, .unset, .unset, .unset, .unset, .unset, .unset, .unset, .unset] [])) t → Steps p.tables e below (s₁.setTop (entryFrame m #[(.int p0), (.int p1), (.int p2)] maxLocals)) t := fun t k => castTop (ef_0 m p0 p1 p2) k
  have pre1 : ∀ t, Steps p.tables e below (s₁.setTop (mkF m 39 #[.val (.int p0), .val (.int p1), .val (.int p2), .val (.int (own_b1 p0)), .val (.int (own_b2 p0)), .val (.int (own_b3 p0)), .val (.int (own_b4 p0)), .unset, .unset, .unset, .unset, .unset, .unset] [(.int (5 : Int32))])) t → Steps p.tables e below (s₁.setTop (entryFrame m #[(.int p0), (.int p1), (.int p2)] maxLocals)) t := fun t kt => by
    refine pre0 _ ?_
    show Steps p.tables e below (s₁.setTop (mkF m 0 #[.val (.int p0), .val (.int p1), .val (.int p2), .unset, .unset, .unset, .unset, .unset, .unset, .unset, .unset, .unset, .unset] [])) _
    refine XS.iloadN X0.here hx rfl (hb hby at_0) rfl ?_
    show Steps p.tables e below (s₁.setTop (mkF m 1 #[.val (.int p0), .val (.int p1), .val (.int p2), .unset, .unset, .unset, .unset, .unset, .unset, .unset, .unset, .unset, .unset] [(.int p0)])) _
    refine XS.iconst X0.here hx rfl (hb hby at_1) ?_
    show Steps p.tables e below (s₁.setTop (mkF m 2 #[.val (.int p0), .val (.int p1), .val (.int p2), .unset, .unset, .unset, .unset, .unset, .unset, .unset, .unset, .unset, .unset] [(.int (1 : Int32)), (.int p0)])) _
    refine XS.iand X0.here hx rfl (hb hby at_2) rfl ?_
    show Steps p.tables e below (s₁.setTop (mkF m 3 #[.val (.int p0), .val (.int p1), .val (.int p2), .unset, .unset, .unset, .unset, .unset, .unset, .unset, .unset, .unset, .unset] [(.int (p0 &&& (1 : Int32)))])) _
    refine XS.iconst X0.here hx rfl (hb hby at_3) ?_
    show Steps p.tables e below (s₁.setTop (mkF m 4 #[.val (.int p0), .val (.int p1), .val (.int p2), .unset, .unset, .unset, .unset, .unset, .unset, .unset, .unset, .unset, .unset] [(.int (1 : Int32)), (.int (p0 &&& (1 : Int32)))])) _
    refine XS.isub X0.here hx rfl (hb hby at_4) rfl ?_
    show Steps p.tables e below (s₁.setTop (mkF m 5 #[.val (.int p0), .val (.int p1), .val (.int p2), .unset, .unset, .unset, .unset, .unset, .unset, .unset, .unset, .unset, .unset] [(.int (own_b1 p0))])) _
    show Steps p.tables e below (s₁.setTop (mkF m 5 #[.val (.int p0), .val (.int p1), .val (.int p2), .unset, .unset, .unset, .unset, .unset, .unset, .unset, .unset, .unset, .unset] [(.int (own_b1 p0))])) _
    refine XS.istoreN X0.here hx rfl (hb hby at_5) rfl (l' := #[.val (.int p0), .val (.int p1), .val (.int p2), .val (.int (own_b1 p0)), .unset, .unset, .unset, .unset, .unset, .unset, .unset, .unset, .unset]) rfl ?_
    show Steps p.tables e below (s₁.setTop (mkF m 6 #[.val (.int p0), .val (.int p1), .val (.int p2), .val (.int (own_b1 p0)), .unset, .unset, .unset, .unset, .unset, .unset, .unset, .unset, .unset] [])) _
    refine XS.iloadN X0.here hx rfl (hb hby at_6) rfl ?_
    show Steps p.tables e below (s₁.setTop (mkF m 7 #[.val (.int p0), .val (.int p1), .val (.int p2), .val (.int (own_b1 p0)), .unset, .unset, .unset, .unset, .unset, .unset, .unset, .unset, .unset] [(.int p0)])) _
    refine XS.iconst X0.here hx rfl (hb hby at_7) ?_
    show Steps p.tables e below (s₁.setTop (mkF m 8 #[.val (.int p0), .val (.int p1), .val (.int p2), .val (.int (own_b1 p0)), .unset, .unset, .unset, .unset, .unset, .unset, .unset, .unset, .unset] [(.int (1 : Int32)), (.int p0)])) _
    refine XS.iushr X0.here hx rfl (hb hby at_8) rfl ?_
    show Steps p.tables e below (s₁.setTop (mkF m 9 #[.val (.int p0), .val (.int p1), .val (.int p2), .val (.int (own_b1 p0)), .unset, .unset, .unset, .unset, .unset, .unset, .unset, .unset, .unset] [(.int ((p0.toUInt32 >>> ((1 : Int32) &&& 31).toUInt32).toInt32))])) _
    refine XS.iconst X0.here hx rfl (hb hby at_9) ?_
    show Steps p.tables e below (s₁.setTop (mkF m 10 #[.val (.int p0), .val (.int p1), .val (.int p2), .val (.int (own_b1 p0)), .unset, .unset, .unset, .unset, .unset, .unset, .unset, .unset, .unset] [(.int (3 : Int32)), (.int ((p0.toUInt32 >>> ((1 : Int32) &&& 31).toUInt32).toInt32))])) _
    refine XS.iand X0.here hx rfl (hb hby at_10) rfl ?_
    show Steps p.tables e below (s₁.setTop (mkF m 11 #[.val (.int p0), .val (.int p1), .val (.int p2), .val (.int (own_b1 p0)), .unset, .unset, .unset, .unset, .unset, .unset, .unset, .unset, .unset] [(.int (((p0.toUInt32 >>> ((1 : Int32) &&& 31).toUInt32).toInt32) &&& (3 : Int32)))])) _
    refine XS.iconst X0.here hx rfl (hb hby at_11) ?_
    show Steps p.tables e below (s₁.setTop (mkF m 12 #[.val (.int p0), .val (.int p1), .val (.int p2), .val (.int (own_b1 p0)), .unset, .unset, .unset, .unset, .unset, .unset, .unset, .unset, .unset] [(.int (3 : Int32)), (.int (((p0.toUInt32 >>> ((1 : Int32) &&& 31).toUInt32).toInt32) &&& (3 : Int32)))])) _
    refine Jvm.RoadKit.iremM X0 hx rfl (hb hby at_12) rfl (by decide) ?_
    show Steps p.tables e below (s₁.setTop (mkF m 13 #[.val (.int p0), .val (.int p1), .val (.int p2), .val (.int (own_b1 p0)), .unset, .unset, .unset, .unset, .unset, .unset, .unset, .unset, .unset] [(.int ((((p0.toUInt32 >>> ((1 : Int32) &&& 31).toUInt32).toInt32) &&& (3 : Int32)) % (3 : Int32)))])) _
    refine XS.iconst X0.here hx rfl (hb hby at_13) ?_
    show Steps p.tables e below (s₁.setTop (mkF m 14 #[.val (.int p0), .val (.int p1), .val (.int p2), .val (.int (own_b1 p0)), .unset, .unset, .unset, .unset, .unset, .unset, .unset, .unset, .unset] [(.int (1 : Int32)), (.int ((((p0.toUInt32 >>> ((1 : Int32) &&& 31).toUInt32).toInt32) &&& (3 : Int32)) % (3 : Int32)))])) _
    refine XS.isub X0.here hx rfl (hb hby at_14) rfl ?_
    show Steps p.tables e below (s₁.setTop (mkF m 15 #[.val (.int p0), .val (.int p1), .val (.int p2), .val (.int (own_b1 p0)), .unset, .unset, .unset, .unset, .unset, .unset, .unset, .unset, .unset] [(.int (own_b2 p0))])) _
    show Steps p.tables e below (s₁.setTop (mkF m 15 #[.val (.int p0), .val (.int p1), .val (.int p2), .val (.int (own_b1 p0)), .unset, .unset, .unset, .unset, .unset, .unset, .unset, .unset, .unset] [(.int (own_b2 p0))])) _
    refine XS.istore X0.here hx rfl (hb hby at_15) rfl (l' := #[.val (.int p0), .val (.int p1), .val (.int p2), .val (.int (own_b1 p0)), .val (.int (own_b2 p0)), .unset, .unset, .unset, .unset, .unset, .unset, .unset, .unset]) rfl ?_
    show Steps p.tables e below (s₁.setTop (mkF m 17 #[.val (.int p0), .val (.int p1), .val (.int p2), .val (.int (own_b1 p0)), .val (.int (own_b2 p0)), .unset, .unset, .unset, .unset, .unset, .unset, .unset, .unset] [])) _
    refine XS.iloadN X0.here hx rfl (hb hby at_17) rfl ?_
    show Steps p.tables e below (s₁.setTop (mkF m 18 #[.val (.int p0), .val (.int p1), .val (.int p2), .val (.int (own_b1 p0)), .val (.int (own_b2 p0)), .unset, .unset, .unset, .unset, .unset, .unset, .unset, .unset] [(.int p0)])) _
    refine XS.iconst X0.here hx rfl (hb hby at_18) ?_
    show Steps p.tables e below (s₁.setTop (mkF m 19 #[.val (.int p0), .val (.int p1), .val (.int p2), .val (.int (own_b1 p0)), .val (.int (own_b2 p0)), .unset, .unset, .unset, .unset, .unset, .unset, .unset, .unset] [(.int (3 : Int32)), (.int p0)])) _
    refine XS.iushr X0.here hx rfl (hb hby at_19) rfl ?_
    show Steps p.tables e below (s₁.setTop (mkF m 20 #[.val (.int p0), .val (.int p1), .val (.int p2), .val (.int (own_b1 p0)), .val (.int (own_b2 p0)), .unset, .unset, .unset, .unset, .unset, .unset, .unset, .unset] [(.int ((p0.toUInt32 >>> ((3 : Int32) &&& 31).toUInt32).toInt32))])) _
    refine XS.iconst X0.here hx rfl (hb hby at_20) ?_
    show Steps p.tables e below (s₁.setTop (mkF m 21 #[.val (.int p0), .val (.int p1), .val (.int p2), .val (.int (own_b1 p0)), .val (.int (own_b2 p0)), .unset, .unset, .unset, .unset, .unset, .unset, .unset, .unset] [(.int (3 : Int32)), (.int ((p0.toUInt32 >>> ((3 : Int32) &&& 31).toUInt32).toInt32))])) _
    refine XS.iand X0.here hx rfl (hb hby at_21) rfl ?_
    show Steps p.tables e below (s₁.setTop (mkF m 22 #[.val (.int p0), .val (.int p1), .val (.int p2), .val (.int (own_b1 p0)), .val (.int (own_b2 p0)), .unset, .unset, .unset, .unset, .unset, .unset, .unset, .unset] [(.int (((p0.toUInt32 >>> ((3 : Int32) &&& 31).toUInt32).toInt32) &&& (3 : Int32)))])) _
    refine XS.iconst X0.here hx rfl (hb hby at_22) ?_
    show Steps p.tables e below (s₁.setTop (mkF m 23 #[.val (.int p0), .val (.int p1), .val (.int p2), .val (.int (own_b1 p0)), .val (.int (own_b2 p0)), .unset, .unset, .unset, .unset, .unset, .unset, .unset, .unset] [(.int (1 : Int32)), (.int (((p0.toUInt32 >>> ((3 : Int32) &&& 31).toUInt32).toInt32) &&& (3 : Int32)))])) _
    refine XS.isub X0.here hx rfl (hb hby at_23) rfl ?_
    show Steps p.tables e below (s₁.setTop (mkF m 24 #[.val (.int p0), .val (.int p1), .val (.int p2), .val (.int (own_b1 p0)), .val (.int (own_b2 p0)), .unset, .unset, .unset, .unset, .unset, .unset, .unset, .unset] [(.int (own_b3 p0))])) _
    show Steps p.tables e below (s₁.setTop (mkF m 24 #[.val (.int p0), .val (.int p1), .val (.int p2), .val (.int (own_b1 p0)), .val (.int (own_b2 p0)), .unset, .unset, .unset, .unset, .unset, .unset, .unset, .unset] [(.int (own_b3 p0))])) _
    refine XS.istore X0.here hx rfl (hb hby at_24) rfl (l' := #[.val (.int p0), .val (.int p1), .val (.int p2), .val (.int (own_b1 p0)), .val (.int (own_b2 p0)), .val (.int (own_b3 p0)), .unset, .unset, .unset, .unset, .unset, .unset, .unset]) rfl ?_
    show Steps p.tables e below (s₁.setTop (mkF m 26 #[.val (.int p0), .val (.int p1), .val (.int p2), .val (.int (own_b1 p0)), .val (.int (own_b2 p0)), .val (.int (own_b3 p0)), .unset, .unset, .unset, .unset, .unset, .unset, .unset] [])) _
    refine XS.iloadN X0.here hx rfl (hb hby at_26) rfl ?_
    show Steps p.tables e below (s₁.setTop (mkF m 27 #[.val (.int p0), .val (.int p1), .val (.int p2), .val (.int (own_b1 p0)), .val (.int (own_b2 p0)), .val (.int (own_b3 p0)), .unset, .unset, .unset, .unset, .unset, .unset, .unset] [(.int p0)])) _
    refine XS.iconst X0.here hx rfl (hb hby at_27) ?_
    show Steps p.tables e below (s₁.setTop (mkF m 28 #[.val (.int p0), .val (.int p1), .val (.int p2), .val (.int (own_b1 p0)), .val (.int (own_b2 p0)), .val (.int (own_b3 p0)), .unset, .unset, .unset, .unset, .unset, .unset, .unset] [(.int (5 : Int32)), (.int p0)])) _
    refine XS.iushr X0.here hx rfl (hb hby at_28) rfl ?_
    show Steps p.tables e below (s₁.setTop (mkF m 29 #[.val (.int p0), .val (.int p1), .val (.int p2), .val (.int (own_b1 p0)), .val (.int (own_b2 p0)), .val (.int (own_b3 p0)), .unset, .unset, .unset, .unset, .unset, .unset, .unset] [(.int ((p0.toUInt32 >>> ((5 : Int32) &&& 31).toUInt32).toInt32))])) _
    refine XS.bipush X0.here hx rfl (hb hby at_29) ?_
    show Steps p.tables e below (s₁.setTop (mkF m 31 #[.val (.int p0), .val (.int p1), .val (.int p2), .val (.int (own_b1 p0)), .val (.int (own_b2 p0)), .val (.int (own_b3 p0)), .unset, .unset, .unset, .unset, .unset, .unset, .unset] [(.int (7 : Int32)), (.int ((p0.toUInt32 >>> ((5 : Int32) &&& 31).toUInt32).toInt32))])) _
    refine XS.iand X0.here hx rfl (hb hby at_31) rfl ?_
    show Steps p.tables e below (s₁.setTop (mkF m 32 #[.val (.int p0), .val (.int p1), .val (.int p2), .val (.int (own_b1 p0)), .val (.int (own_b2 p0)), .val (.int (own_b3 p0)), .unset, .unset, .unset, .unset, .unset, .unset, .unset] [(.int (((p0.toUInt32 >>> ((5 : Int32) &&& 31).toUInt32).toInt32) &&& (7 : Int32)))])) _
    refine XS.iconst X0.here hx rfl (hb hby at_32) ?_
    show Steps p.tables e below (s₁.setTop (mkF m 33 #[.val (.int p0), .val (.int p1), .val (.int p2), .val (.int (own_b1 p0)), .val (.int (own_b2 p0)), .val (.int (own_b3 p0)), .unset, .unset, .unset, .unset, .unset, .unset, .unset] [(.int (5 : Int32)), (.int (((p0.toUInt32 >>> ((5 : Int32) &&& 31).toUInt32).toInt32) &&& (7 : Int32)))])) _
    refine Jvm.RoadKit.iremM X0 hx rfl (hb hby at_33) rfl (by decide) ?_
    show Steps p.tables e below (s₁.setTop (mkF m 34 #[.val (.int p0), .val (.int p1), .val (.int p2), .val (.int (own_b1 p0)), .val (.int (own_b2 p0)), .val (.int (own_b3 p0)), .unset, .unset, .unset, .unset, .unset, .unset, .unset] [(.int ((((p0.toUInt32 >>> ((5 : Int32) &&& 31).toUInt32).toInt32) &&& (7 : Int32)) % (5 : Int32)))])) _
    refine XS.iconst X0.here hx rfl (hb hby at_34) ?_
    show Steps p.tables e below (s₁.setTop (mkF m 35 #[.val (.int p0), .val (.int p1), .val (.int p2), .val (.int (own_b1 p0)), .val (.int (own_b2 p0)), .val (.int (own_b3 p0)), .unset, .unset, .unset, .unset, .unset, .unset, .unset] [(.int (1 : Int32)), (.int ((((p0.toUInt32 >>> ((5 : Int32) &&& 31).toUInt32).toInt32) &&& (7 : Int32)) % (5 : Int32)))])) _
    refine XS.isub X0.here hx rfl (hb hby at_35) rfl ?_
    show Steps p.tables e below (s₁.setTop (mkF m 36 #[.val (.int p0), .val (.int p1), .val (.int p2), .val (.int (own_b1 p0)), .val (.int (own_b2 p0)), .val (.int (own_b3 p0)), .unset, .unset, .unset, .unset, .unset, .unset, .unset] [(.int (own_b4 p0))])) _
    show Steps p.tables e below (s₁.setTop (mkF m 36 #[.val (.int p0), .val (.int p1), .val (.int p2), .val (.int (own_b1 p0)), .val (.int (own_b2 p0)), .val (.int (own_b3 p0)), .unset, .unset, .unset, .unset, .unset, .unset, .unset] [(.int (own_b4 p0))])) _
    refine XS.istore X0.here hx rfl (hb hby at_36) rfl (l' := #[.val (.int p0), .val (.int p1), .val (.int p2), .val (.int (own_b1 p0)), .val (.int (own_b2 p0)), .val (.int (own_b3 p0)), .val (.int (own_b4 p0)), .unset, .unset, .unset, .unset, .unset, .unset]) rfl ?_
    show Steps p.tables e below (s₁.setTop (mkF m 38 #[.val (.int p0), .val (.int p1), .val (.int p2), .val (.int (own_b1 p0)), .val (.int (own_b2 p0)), .val (.int (own_b3 p0)), .val (.int (own_b4 p0)), .unset, .unset, .unset, .unset, .unset, .unset] [])) _
    refine XS.iconst X0.here hx rfl (hb hby at_38) ?_
    exact kt
  obtain ⟨T2, h2, k2, X2, e2, E2, A2, O2, st2⟩ := newR X0 hx hZ hown (hw _ (List.mem_of_getElem? (i := 0) rfl)) (hw _ (List.mem_of_getElem? (i := 1) rfl)) e0 (g := (mkF m 39 #[.val (.int p0), .val (.int p1), .val (.int p2), .val (.int (own_b1 p0)), .val (.int (own_b2 p0)), .val (.int (own_b3 p0)), .val (.int (own_b4 p0)), .unset, .unset, .unset, .unset, .unset, .unset] [(.int (5 : Int32))])) rfl (hb hby at_39) rfl (by decide) (cap := 5) (by decide) (by decide) (by decide) (by decide)
  obtain ⟨b2, gq2⟩ : ∃ z, z = h0.size := ⟨_, rfl⟩
  rw [← gq2] at A2 st2
  have gg_b2 : n0 ≤ b2 := Nat.le_trans Z0 (Nat.le_of_eq gq2.symm)
  have V2 : Arv Z h2 b2 k2 (.object "com/example/labbrief/labbrief/cda/SchemaModel$ComplexType") (5 : Int32) [.null, .null, .null, .null, .null] .null := (Arv.new A2 (by decide)).pad (pad_rep [] .null 5)
  have pre3 : ∀ t, Steps p.tables e below (T2.setTop (mkF m 42 #[.val (.int p0), .val (.int p1), .val (.int p2), .val (.int (own_b1 p0)), .val (.int (own_b2 p0)), .val (.int (own_b3 p0)), .val (.int (own_b4 p0)), .unset, .unset, .unset, .unset, .unset, .unset] [(.ref b2)])) t → Steps p.tables e below (s₁.setTop (entryFrame m #[(.int p0), (.int p1), (.int p2)] maxLocals)) t := fun t kt => pre1 _ (st2 _ kt)
  have pre4 : ∀ t, Steps p.tables e below (T2.setTop (mkF m 47 #[.val (.int p0), .val (.int p1), .val (.int p2), .val (.int (own_b1 p0)), .val (.int (own_b2 p0)), .val (.int (own_b3 p0)), .val (.int (own_b4 p0)), .val (.ref b2), .unset, .unset, .unset, .unset, .unset] [(.int (0 : Int32)), (.ref b2)])) t → Steps p.tables e below (s₁.setTop (entryFrame m #[(.int p0), (.int p1), (.int p2)] maxLocals)) t := fun t kt => by
    refine pre3 _ ?_
    show Steps p.tables e below (T2.setTop (mkF m 42 #[.val (.int p0), .val (.int p1), .val (.int p2), .val (.int (own_b1 p0)), .val (.int (own_b2 p0)), .val (.int (own_b3 p0)), .val (.int (own_b4 p0)), .unset, .unset, .unset, .unset, .unset, .unset] [(.ref b2)])) _
    refine XS.astore X2.here hx rfl (hb hby at_42) rfl rfl (l' := #[.val (.int p0), .val (.int p1), .val (.int p2), .val (.int (own_b1 p0)), .val (.int (own_b2 p0)), .val (.int (own_b3 p0)), .val (.int (own_b4 p0)), .val (.ref b2), .unset, .unset, .unset, .unset, .unset]) rfl ?_
    show Steps p.tables e below (T2.setTop (mkF m 44 #[.val (.int p0), .val (.int p1), .val (.int p2), .val (.int (own_b1 p0)), .val (.int (own_b2 p0)), .val (.int (own_b3 p0)), .val (.int (own_b4 p0)), .val (.ref b2), .unset, .unset, .unset, .unset, .unset] [])) _
    refine XS.aload X2.here hx rfl (hb hby at_44) rfl rfl ?_
    show Steps p.tables e below (T2.setTop (mkF m 46 #[.val (.int p0), .val (.int p1), .val (.int p2), .val (.int (own_b1 p0)), .val (.int (own_b2 p0)), .val (.int (own_b3 p0)), .val (.int (own_b4 p0)), .val (.ref b2), .unset, .unset, .unset, .unset, .unset] [(.ref b2)])) _
    refine XS.iconst X2.here hx rfl (hb hby at_46) ?_
    exact kt
  obtain ⟨T5, h5, X5, e5, E5, A5, D5, -, st5⟩ := newO X2 hx hZ hown (hw _ (List.mem_of_getElem? (i := 0) rfl)) (hw _ (List.mem_of_getElem? (i := 2) rfl)) (hw _ (List.mem_of_getElem? (i := 3) rfl)) e2 (g := (mkF m 47 #[.val (.int p0), .val (.int p1), .val (.int p2), .val (.int (own_b1 p0)), .val (.int (own_b2 p0)), .val (.int (own_b3 p0)), .val (.int (own_b4 p0)), .val (.ref b2), .unset, .unset, .unset, .unset, .unset] [(.int (0 : Int32)), (.ref b2)])) rfl (hb hby at_47) (by decide) (by decide)
  obtain ⟨b5, gq5⟩ : ∃ z, z = h2.size := ⟨_, rfl⟩
  rw [← gq5] at A5 D5 st5
  have z6 : n0 ≤ h2.size := (Nat.le_trans Z0 E2.1)
  have gg_b5 : n0 ≤ b5 := Nat.le_trans z6 (Nat.le_of_eq gq5.symm)
  have F5_attributes : Fld Z h5 b5 "com/example/labbrief/labbrief/cda/SchemaModel$ComplexType" "attributes" "Ljava/util/Map;" .null := D5 (Or.inl (hw _ (List.mem_of_getElem? (i := 17) rfl))) (ty := (.object "java/util/Map")) (by decide)
  have F5_base : Fld Z h5 b5 "com/example/labbrief/labbrief/cda/SchemaModel$ComplexType" "base" "Lcom/example/labbrief/labbrief/cda/SchemaModel$ComplexType;" .null := D5 (Or.inl (hw _ (List.mem_of_getElem? (i := 20) rfl))) (ty := (.object "com/example/labbrief/labbrief/cda/SchemaModel$ComplexType")) (by decide)
  have pre7 : ∀ t, Steps p.tables e below (T5.setTop (mkF m 50 #[.val (.int p0), .val (.int p1), .val (.int p2), .val (.int (own_b1 p0)), .val (.int (own_b2 p0)), .val (.int (own_b3 p0)), .val (.int (own_b4 p0)), .val (.ref b2), .unset, .unset, .unset, .unset, .unset] [(.ref b5), (.int (0 : Int32)), (.ref b2)])) t → Steps p.tables e below (s₁.setTop (entryFrame m #[(.int p0), (.int p1), (.int p2)] maxLocals)) t := fun t kt => pre4 _ (st5 _ kt)
  have o8 : Old Z n0 h5 := ((O0.ext E2).ext E5)
  have pre9 : ∀ t, Steps p.tables e below (T5.setTop (mkF m 51 #[.val (.int p0), .val (.int p1), .val (.int p2), .val (.int (own_b1 p0)), .val (.int (own_b2 p0)), .val (.int (own_b3 p0)), .val (.int (own_b4 p0)), .val (.ref b2), .unset, .unset, .unset, .unset, .unset] [(.ref b5), (.ref b5), (.int (0 : Int32)), (.ref b2)])) t → Steps p.tables e below (s₁.setTop (entryFrame m #[(.int p0), (.int p1), (.int p2)] maxLocals)) t := fun t kt => by
    refine pre7 _ ?_
    show Steps p.tables e below (T5.setTop (mkF m 50 #[.val (.int p0), .val (.int p1), .val (.int p2), .val (.int (own_b1 p0)), .val (.int (own_b2 p0)), .val (.int (own_b3 p0)), .val (.int (own_b4 p0)), .val (.ref b2), .unset, .unset, .unset, .unset, .unset] [(.ref b5), (.int (0 : Int32)), (.ref b2)])) _
    refine XS.dup X5.here hx rfl (hb hby at_50) rfl rfl ?_
    exact kt
  obtain ⟨_, _, ⟨T10, L10, kc10, nc10⟩, -, X10, ⟨Lc10, hQ10, l10, y10, z10⟩, st10⟩ := X5.specialBack hx (y := (⟨"com/example/labbrief/labbrief/cda/SchemaModel$ComplexType", "<init>", "()V"⟩ : MethodName)) rfl hown (mvT hZ (hw _ (List.mem_of_getElem? (i := 4) rfl))) (mvT hZ (hw _ (List.mem_of_getElem? (i := 5) rfl))) (mvT hZ (hw _ (List.mem_of_getElem? (i := 6) rfl))) (by decide) (backOf (W := 3) (rm1 l Z a0 hw [] b5 aM h5 n0 o8 SM A5 F5_attributes F5_base gg_b5) hZ (hw _ (List.mem_of_getElem? (i := 6) rfl)) (hw _ (List.mem_of_getElem? (i := 3) rfl)) (by decide) (by decide)) (g := (mkF m 51 #[.val (.int p0), .val (.int p1), .val (.int p2), .val (.int (own_b1 p0)), .val (.int (own_b2 p0)), .val (.int (own_b3 p0)), .val (.int (own_b4 p0)), .val (.ref b2), .unset, .unset, .unset, .unset, .unset] [(.ref b5), (.ref b5), (.int (0 : Int32)), (.ref b2)])) rfl (by rw [hml]; rfl) (Steps.refl _) (a := b5) (argsL := []) (rest := [(.ref b5), (.int (0 : Int32)), (.ref b2)]) (lenOf pd_1 rfl) rfl (by show 2 * 0 + _ ≤ _; exact Nat.le_of_eq rfl) (hb hby at_51) (fun _ _ => ⟨rfl, e5, (by decide : 2 + 0 ≤ _), (by decide : 13 + 0 ≤ _)⟩)
  dsimp only [Pt.U, Pt.locs, Pt.cells, Pt.slots] at X10 l10 y10 z10 st10 hQ10
  subst l10 y10 z10
  obtain ⟨rfl, N10q, K10, Fb10⟩ := hQ10
  have N10 := Fr.app N0 N10q
  have pre11 : ∀ t, Steps p.tables e below (T10.setTop (mkF m 54 #[.val (.int p0), .val (.int p1), .val (.int p2), .val (.int (own_b1 p0)), .val (.int (own_b2 p0)), .val (.int (own_b3 p0)), .val (.int (own_b4 p0)), .val (.ref b2), .unset, .unset, .unset, .unset, .unset] [(.ref b5), (.int (0 : Int32)), (.ref b2)])) t → Steps p.tables e below (s₁.setTop (entryFrame m #[(.int p0), (.int p1), (.int p2)] maxLocals)) t := fun t kt => pre9 _ (st10.trans kt)
  have f12 := ((V2.ext E5).keep K10 (ninS (Nat.ne_of_lt (Nat.lt_of_lt_of_le V2.lt (Nat.le_of_eq gq5.symm))) nin0))
  obtain ⟨cl13, Ar13, qk13, Sz13, Nn13, Hh13, Gg13⟩ := id f12
  have hin13 : ¬ ((0 : Int32) < 0 ∨ cl13.slots.size ≤ ((0 : Int32)).toNatClampNeg) := inb_of Sz13 ⟨by decide, by decide⟩
  have f14 := (A5.keep K10)
  obtain ⟨T15, h15, X15, e15, W15, st15⟩ := stR X10 hx hZ rfl Ar13 (j := (0 : Int32)) hin13 rfl (Sto.ofV Ar13 qk13 O2 (Ins.self f14)) (g := (mkF m 54 #[.val (.int p0), .val (.int p1), .val (.int p2), .val (.int (own_b1 p0)), .val (.int (own_b2 p0)), .val (.int (own_b3 p0)), .val (.int (own_b4 p0)), .val (.ref b2), .unset, .unset, .unset, .unset, .unset] [(.ref b5), (.int (0 : Int32)), (.ref b2)])) rfl rfl (hb hby at_54)
  have V15 := Arv.set Ar13 qk13 Sz13 Nn13 Hh13 Gg13 rfl W15 0 rfl (Nat.le_of_ble_eq_true rfl)
  have V15' : Arv Z h15 b2 k2 (.object "com/example/labbrief/labbrief/cda/SchemaModel$ComplexType") (5 : Int32) [(.ref b5), .null, .null, .null, .null] .null := V15
  have N15 := Fr.snoc X15 N10 gg_b2
  have pre16 : ∀ t, Steps p.tables e below (T15.setTop (mkF m 55 #[.val (.int p0), .val (.int p1), .val (.int p2), .val (.int (own_b1 p0)), .val (.int (own_b2 p0)), .val (.int (own_b3 p0)), .val (.int (own_b4 p0)), .val (.ref b2), .unset, .unset, .unset, .unset, .unset] [])) t → Steps p.tables e below (s₁.setTop (entryFrame m #[(.int p0), (.int p1), (.int p2)] maxLocals)) t := fun t kt => pre11 _ (st15 _ kt)
  have pre17 : ∀ t, Steps p.tables e below (T15.setTop (mkF m 58 #[.val (.int p0), .val (.int p1), .val (.int p2), .val (.int (own_b1 p0)), .val (.int (own_b2 p0)), .val (.int (own_b3 p0)), .val (.int (own_b4 p0)), .val (.ref b2), .unset, .unset, .unset, .unset, .unset] [(.int (1 : Int32)), (.ref b2)])) t → Steps p.tables e below (s₁.setTop (entryFrame m #[(.int p0), (.int p1), (.int p2)] maxLocals)) t := fun t kt => by
    refine pre16 _ ?_
    show Steps p.tables e below (T15.setTop (mkF m 55 #[.val (.int p0), .val (.int p1), .val (.int p2), .val (.int (own_b1 p0)), .val (.int (own_b2 p0)), .val (.int (own_b3 p0)), .val (.int (own_b4 p0)), .val (.ref b2), .unset, .unset, .unset, .unset, .unset] [])) _
    refine XS.aload X15.here hx rfl (hb hby at_55) rfl rfl ?_
    show Steps p.tables e below (T15.setTop (mkF m 57 #[.val (.int p0), .val (.int p1), .val (.int p2), .val (.int (own_b1 p0)), .val (.int (own_b2 p0)), .val (.int (own_b3 p0)), .val (.int (own_b4 p0)), .val (.ref b2), .unset, .unset, .unset, .unset, .unset] [(.ref b2)])) _
    refine XS.iconst X15.here hx rfl (hb hby at_57) ?_
    exact kt
  obtain ⟨T18, h18, X18, e18, E18, A18, D18, -, st18⟩ := newO X15 hx hZ hown (hw _ (List.mem_of_getElem? (i := 0) rfl)) (hw _ (List.mem_of_getElem? (i := 2) rfl)) (hw _ (List.mem_of_getElem? (i := 3) rfl)) e15 (g := (mkF m 58 #[.val (.int p0), .val (.int p1), .val (.int p2), .val (.int (own_b1 p0)), .val (.int (own_b2 p0)), .val (.int (own_b3 p0)), .val (.int (own_b4 p0)), .val (.ref b2), .unset, .unset, .unset, .unset, .unset] [(.int (1 : Int32)), (.ref b2)])) rfl (hb hby at_58) (by decide) (by decide)
  obtain ⟨b18, gq18⟩ : ∃ z, z = h15.size := ⟨_, rfl⟩
  rw [← gq18] at A18 D18 st18
  have z19 : n0 ≤ h15.size := (Nat.le_trans (Nat.le_trans (Nat.le_trans z6 E5.1) K10.1) (Keep.of_wr W15).1)
  have gg_b18 : n0 ≤ b18 := Nat.le_trans z19 (Nat.le_of_eq gq18.symm)
  have F18_attributes : Fld Z h18 b18 "com/example/labbrief/labbrief/cda/SchemaModel$ComplexType" "attributes" "Ljava/util/Map;" .null := D18 (Or.inl (hw _ (List.mem_of_getElem? (i := 17) rfl))) (ty := (.object "java/util/Map")) (by decide)
  have F18_base : Fld Z h18 b18 "com/example/labbrief/labbrief/cda/SchemaModel$ComplexType" "base" "Lcom/example/labbrief/labbrief/cda/SchemaModel$ComplexType;" .null := D18 (Or.inl (hw _ (List.mem_of_getElem? (i := 20) rfl))) (ty := (.object "com/example/labbrief/labbrief/cda/SchemaModel$ComplexType")) (by decide)
  have pre20 : ∀ t, Steps p.tables e below (T18.setTop (mkF m 61 #[.val (.int p0), .val (.int p1), .val (.int p2), .val (.int (own_b1 p0)), .val (.int (own_b2 p0)), .val (.int (own_b3 p0)), .val (.int (own_b4 p0)), .val (.ref b2), .unset, .unset, .unset, .unset, .unset] [(.ref b18), (.int (1 : Int32)), (.ref b2)])) t → Steps p.tables e below (s₁.setTop (entryFrame m #[(.int p0), (.int p1), (.int p2)] maxLocals)) t := fun t kt => pre17 _ (st18 _ kt)
  have o21 : Old Z n0 h18 := (((o8.keep K10 (allS gg_b5 all0)).wr W15 gg_b2).ext E18)
  have pre22 : ∀ t, Steps p.tables e below (T18.setTop (mkF m 62 #[.val (.int p0), .val (.int p1), .val (.int p2), .val (.int (own_b1 p0)), .val (.int (own_b2 p0)), .val (.int (own_b3 p0)), .val (.int (own_b4 p0)), .val (.ref b2), .unset, .unset, .unset, .unset, .unset] [(.ref b18), (.ref b18), (.int (1 : Int32)), (.ref b2)])) t → Steps p.tables e below (s₁.setTop (entryFrame m #[(.int p0), (.int p1), (.int p2)] maxLocals)) t := fun t kt => by
    refine pre20 _ ?_
    show Steps p.tables e below (T18.setTop (mkF m 61 #[.val (.int p0), .val (.int p1), .val (.int p2), .val (.int (own_b1 p0)), .val (.int (own_b2 p0)), .val (.int (own_b3 p0)), .val (.int (own_b4 p0)), .val (.ref b2), .unset, .unset, .unset, .unset, .unset] [(.ref b18), (.int (1 : Int32)), (.ref b2)])) _
    refine XS.dup X18.here hx rfl (hb hby at_61) rfl rfl ?_
    exact kt
  obtain ⟨_, _, ⟨T23, L23, kc23, nc23⟩, -, X23, ⟨Lc23, hQ23, l23, y23, z23⟩, st23⟩ := X18.specialBack hx (y := (⟨"com/example/labbrief/labbrief/cda/SchemaModel$ComplexType", "<init>", "()V"⟩ : MethodName)) rfl hown (mvT hZ (hw _ (List.mem_of_getElem? (i := 4) rfl))) (mvT hZ (hw _ (List.mem_of_getElem? (i := 5) rfl))) (mvT hZ (hw _ (List.mem_of_getElem? (i := 6) rfl))) (by decide) (backOf (W := 3) (rm1 l Z a0 hw [] b18 aM h18 n0 o21 SM A18 F18_attributes F18_base gg_b18) hZ (hw _ (List.mem_of_getElem? (i := 6) rfl)) (hw _ (List.mem_of_getElem? (i := 3) rfl)) (by decide) (by decide)) (g := (mkF m 62 #[.val (.int p0), .val (.int p1), .val (.int p2), .val (.int (own_b1 p0)), .val (.int (own_b2 p0)), .val (.int (own_b3 p0)), .val (.int (own_b4 p0)), .val (.ref b2), .unset, .unset, .unset, .unset, .unset] [(.ref b18), (.ref b18), (.int (1 : Int32)), (.ref b2)])) rfl (by rw [hml]; rfl) (Steps.refl _) (a := b18) (argsL := []) (rest := [(.ref b18), (.int (1 : Int32)), (.ref b2)]) (lenOf pd_1 rfl) rfl (by show 2 * 0 + _ ≤ _; exact Nat.le_of_eq rfl) (hb hby at_62) (fun _ _ => ⟨rfl, e18, (by decide : 3 + 0 ≤ _), (by decide : 21 + 0 ≤ _)⟩)
  dsimp only [Pt.U, Pt.locs, Pt.cells, Pt.slots] at X23 l23 y23 z23 st23 hQ23
  subst l23 y23 z23
  obtain ⟨rfl, N23q, K23, Fb23⟩ := hQ23
  have N23 := Fr.app N15 N23q
  have pre24 : ∀ t, Steps p.tables e below (T23.setTop (mkF m 65 #[.val (.int p0), .val (.int p1), .val (.int p2), .val (.int (own_b1 p0)), .val (.int (own_b2 p0)), .val (.int (own_b3 p0)), .val (.int (own_b4 p0)), .val (.ref b2), .unset, .unset, .unset, .unset, .unset] [(.ref b18), (.int (1 : Int32)), (.ref b2)])) t → Steps p.tables e below (s₁.setTop (entryFrame m #[(.int p0), (.int p1), (.int p2)] maxLocals)) t := fun t kt => pre22 _ (st23.trans kt)
  have f25 := ((V15'.ext E18).keep K23 (ninS (Nat.ne_of_lt (Nat.lt_of_lt_of_le V15'.lt (Nat.le_of_eq gq18.symm))) nin0))
  obtain ⟨cl26, Ar26, qk26, Sz26, Nn26, Hh26, Gg26⟩ := id f25
  have hin26 : ¬ ((1 : Int32) < 0 ∨ cl26.slots.size ≤ ((1 : Int32)).toNatClampNeg) := inb_of Sz26 ⟨by decide, by decide⟩
  have f27 := (A18.keep K23)
  obtain ⟨T28, h28, X28, e28, W28, st28⟩ := stR X23 hx hZ rfl Ar26 (j := (1 : Int32)) hin26 rfl (Sto.ofV Ar26 qk26 O2 (Ins.self f27)) (g := (mkF m 65 #[.val (.int p0), .val (.int p1), .val (.int p2), .val (.int (own_b1 p0)), .val (.int (own_b2 p0)), .val (.int (own_b3 p0)), .val (.int (own_b4 p0)), .val (.ref b2), .unset, .unset, .unset, .unset, .unset] [(.ref b18), (.int (1 : Int32)), (.ref b2)])) rfl rfl (hb hby at_65)
  have V28 := Arv.set Ar26 qk26 Sz26 Nn26 Hh26 Gg26 rfl W28 1 rfl (Nat.le_of_ble_eq_true rfl)
  have V28' : Arv Z h28 b2 k2 (.object "com/example/labbrief/labbrief/cda/SchemaModel$ComplexType") (5 : Int32) [(.ref b5), (.ref b18), .null, .null, .null] .null := V28
  have N28 := Fr.snoc X28 N23 gg_b2
  have pre29 : ∀ t, Steps p.tables e below (T28.setTop (mkF m 66 #[.val (.int p0), .val (.int p1), .val (.int p2), .val (.int (own_b1 p0)), .val (.int (own_b2 p0)), .val (.int (own_b3 p0)), .val (.int (own_b4 p0)), .val (.ref b2), .unset, .unset, .unset, .unset, .unset] [])) t → Steps p.tables e below (s₁.setTop (entryFrame m #[(.int p0), (.int p1), (.int p2)] maxLocals)) t := fun t kt => pre24 _ (st28 _ kt)
  have pre30 : ∀ t, Steps p.tables e below (T28.setTop (mkF m 69 #[.val (.int p0), .val (.int p1), .val (.int p2), .val (.int (own_b1 p0)), .val (.int (own_b2 p0)), .val (.int (own_b3 p0)), .val (.int (own_b4 p0)), .val (.ref b2), .unset, .unset, .unset, .unset, .unset] [(.int (2 : Int32)), (.ref b2)])) t → Steps p.tables e below (s₁.setTop (entryFrame m #[(.int p0), (.int p1), (.int p2)] maxLocals)) t := fun t kt => by
    refine pre29 _ ?_
    show Steps p.tables e below (T28.setTop (mkF m 66 #[.val (.int p0), .val (.int p1), .val (.int p2), .val (.int (own_b1 p0)), .val (.int (own_b2 p0)), .val (.int (own_b3 p0)), .val (.int (own_b4 p0)), .val (.ref b2), .unset, .unset, .unset, .unset, .unset] [])) _
    refine XS.aload X28.here hx rfl (hb hby at_66) rfl rfl ?_
    show Steps p.tables e below (T28.setTop (mkF m 68 #[.val (.int p0), .val (.int p1), .val (.int p2), .val (.int (own_b1 p0)), .val (.int (own_b2 p0)), .val (.int (own_b3 p0)), .val (.int (own_b4 p0)), .val (.ref b2), .unset, .unset, .unset, .unset, .unset] [(.ref b2)])) _
    refine XS.iconst X28.here hx rfl (hb hby at_68) ?_
    exact kt
  obtain ⟨T31, h31, X31, e31, E31, A31, D31, -, st31⟩ := newO X28 hx hZ hown (hw _ (List.mem_of_getElem? (i := 0) rfl)) (hw _ (List.mem_of_getElem? (i := 2) rfl)) (hw _ (List.mem_of_getElem? (i := 3) rfl)) e28 (g := (mkF m 69 #[.val (.int p0), .val (.int p1), .val (.int p2), .val (.int (own_b1 p0)), .val (.int (own_b2 p0)), .val (.int (own_b3 p0)), .val (.int (own_b4 p0)), .val (.ref b2), .unset, .unset, .unset, .unset, .unset] [(.int (2 : Int32)), (.ref b2)])) rfl (hb hby at_69) (by decide) (by decide)
  obtain ⟨b31, gq31⟩ : ∃ z, z = h28.size := ⟨_, rfl⟩
  rw [← gq31] at A31 D31 st31
  have z32 : n0 ≤ h28.size := (Nat.le_trans (Nat.le_trans (Nat.le_trans z19 E18.1) K23.1) (Keep.of_wr W28).1)
  have gg_b31 : n0 ≤ b31 := Nat.le_trans z32 (Nat.le_of_eq gq31.symm)
  have F31_attributes : Fld Z h31 b31 "com/example/labbrief/labbrief/cda/SchemaModel$ComplexType" "attributes" "Ljava/util/Map;" .null := D31 (Or.inl (hw _ (List.mem_of_getElem? (i := 17) rfl))) (ty := (.object "java/util/Map")) (by decide)
  have F31_base : Fld Z h31 b31 "com/example/labbrief/labbrief/cda/SchemaModel$ComplexType" "base" "Lcom/example/labbrief/labbrief/cda/SchemaModel$ComplexType;" .null := D31 (Or.inl (hw _ (List.mem_of_getElem? (i := 20) rfl))) (ty := (.object "com/example/labbrief/labbrief/cda/SchemaModel$ComplexType")) (by decide)
  have pre33 : ∀ t, Steps p.tables e below (T31.setTop (mkF m 72 #[.val (.int p0), .val (.int p1), .val (.int p2), .val (.int (own_b1 p0)), .val (.int (own_b2 p0)), .val (.int (own_b3 p0)), .val (.int (own_b4 p0)), .val (.ref b2), .unset, .unset, .unset, .unset, .unset] [(.ref b31), (.int (2 : Int32)), (.ref b2)])) t → Steps p.tables e below (s₁.setTop (entryFrame m #[(.int p0), (.int p1), (.int p2)] maxLocals)) t := fun t kt => pre30 _ (st31 _ kt)
  have o34 : Old Z n0 h31 := (((o21.keep K23 (allS gg_b18 all0)).wr W28 gg_b2).ext E31)
  have pre35 : ∀ t, Steps p.tables e below (T31.setTop (mkF m 73 #[.val (.int p0), .val (.int p1), .val (.int p2), .val (.int (own_b1 p0)), .val (.int (own_b2 p0)), .val (.int (own_b3 p0)), .val (.int (own_b4 p0)), .val (.ref b2), .unset, .unset, .unset, .unset, .unset] [(.ref b31), (.ref b31), (.int (2 : Int32)), (.ref b2)])) t → Steps p.tables e below (s₁.setTop (entryFrame m #[(.int p0), (.int p1), (.int p2)] maxLocals)) t := fun t kt => by
    refine pre33 _ ?_
    show Steps p.tables e below (T31.setTop (mkF m 72 #[.val (.int p0), .val (.int p1), .val (.int p2), .val (.int (own_b1 p0)), .val (.int (own_b2 p0)), .val (.int (own_b3 p0)), .val (.int (own_b4 p0)), .val (.ref b2), .unset, .unset, .unset, .unset, .unset] [(.ref b31), (.int (2 : Int32)), (.ref b2)])) _
    refine XS.dup X31.here hx rfl (hb hby at_72) rfl rfl ?_
    exact kt
  obtain ⟨_, _, ⟨T36, L36, kc36, nc36⟩, -, X36, ⟨Lc36, hQ36, l36, y36, z36⟩, st36⟩ := X31.specialBack hx (y := (⟨"com/example/labbrief/labbrief/cda/SchemaModel$ComplexType", "<init>", "()V"⟩ : MethodName)) rfl hown (mvT hZ (hw _ (List.mem_of_getElem? (i := 4) rfl))) (mvT hZ (hw _ (List.mem_of_getElem? (i := 5) rfl))) (mvT hZ (hw _ (List.mem_of_getElem? (i := 6) rfl))) (by decide) (backOf (W := 3) (rm1 l Z a0 hw [] b31 aM h31 n0 o34 SM A31 F31_attributes F31_base gg_b31) hZ (hw _ (List.mem_of_getElem? (i := 6) rfl)) (hw _ (List.mem_of_getElem? (i := 3) rfl)) (by decide) (by decide)) (g := (mkF m 73 #[.val (.int p0), .val (.int p1), .val (.int p2), .val (.int (own_b1 p0)), .val (.int (own_b2 p0)), .val (.int (own_b3 p0)), .val (.int (own_b4 p0)), .val (.ref b2), .unset, .unset, .unset, .unset, .unset] [(.ref b31), (.ref b31), (.int (2 : Int32)), (.ref b2)])) rfl (by rw [hml]; rfl) (Steps.refl _) (a := b31) (argsL := []) (rest := [(.ref b31), (.int (2 : Int32)), (.ref b2)]) (lenOf pd_1 rfl) rfl (by show 2 * 0 + _ ≤ _; exact Nat.le_of_eq rfl) (hb hby at_73) (fun _ _ => ⟨rfl, e31, (by decide : 4 + 0 ≤ _), (by decide : 29 + 0 ≤ _)⟩)
  dsimp only [Pt.U, Pt.locs, Pt.cells, Pt.slots] at X36 l36 y36 z36 st36 hQ36
  subst l36 y36 z36
  obtain ⟨rfl, N36q, K36, Fb36⟩ := hQ36
  have N36 := Fr.app N28 N36q
  have pre37 : ∀ t, Steps p.tables e below (T36.setTop (mkF m 76 #[.val (.int p0), .val (.int p1), .val (.int p2), .val (.int (own_b1 p0)), .val (.int (own_b2 p0)), .val (.int (own_b3 p0)), .val (.int (own_b4 p0)), .val (.ref b2), .unset, .unset, .unset, .unset, .unset] [(.ref b31), (.int (2 : Int32)), (.ref b2)])) t → Steps p.tables e below (s₁.setTop (entryFrame m #[(.int p0), (.int p1), (.int p2)] maxLocals)) t := fun t kt => pre35 _ (st36.trans kt)
  have f38 := ((V28'.ext E31).keep K36 (ninS (Nat.ne_of_lt (Nat.lt_of_lt_of_le V28'.lt (Nat.le_of_eq gq31.symm))) nin0))
  obtain ⟨cl39, Ar39, qk39, Sz39, Nn39, Hh39, Gg39⟩ := id f38
  have hin39 : ¬ ((2 : Int32) < 0 ∨ cl39.slots.size ≤ ((2 : Int32)).toNatClampNeg) := inb_of Sz39 ⟨by decide, by decide⟩
  have f40 := (A31.keep K36)
  obtain ⟨T41, h41, X41, e41, W41, st41⟩ := stR X36 hx hZ rfl Ar39 (j := (2 : Int32)) hin39 rfl (Sto.ofV Ar39 qk39 O2 (Ins.self f40)) (g := (mkF m 76 #[.val (.int p0), .val (.int p1), .val (.int p2), .val (.int (own_b1 p0)), .val (.int (own_b2 p0)), .val (.int (own_b3 p0)), .val (.int (own_b4 p0)), .val (.ref b2), .unset, .unset, .unset, .unset, .unset] [(.ref b31), (.int (2 : Int32)), (.ref b2)])) rfl rfl (hb hby at_76)
  have V41 := Arv.set Ar39 qk39 Sz39 Nn39 Hh39 Gg39 rfl W41 2 rfl (Nat.le_of_ble_eq_true rfl)
  have V41' : Arv Z h41 b2 k2 (.object "com/example/labbrief/labbrief/cda/SchemaModel$ComplexType") (5 : Int32) [(.ref b5), (.ref b18), (.ref b31), .null, .null] .null := V41
  have N41 := Fr.snoc X41 N36 gg_b2
  have pre42 : ∀ t, Steps p.tables e below (T41.setTop (mkF m 77 #[.val (.int p0), .val (.int p1), .val (.int p2), .val (.int (own_b1 p0)), .val (.int (own_b2 p0)), .val (.int (own_b3 p0)), .val (.int (own_b4 p0)), .val (.ref b2), .unset, .unset, .unset, .unset, .unset] [])) t → Steps p.tables e below (s₁.setTop (entryFrame m #[(.int p0), (.int p1), (.int p2)] maxLocals)) t := fun t kt => pre37 _ (st41 _ kt)
  have pre43 : ∀ t, Steps p.tables e below (T41.setTop (mkF m 80 #[.val (.int p0), .val (.int p1), .val (.int p2), .val (.int (own_b1 p0)), .val (.int (own_b2 p0)), .val (.int (own_b3 p0)), .val (.int (own_b4 p0)), .val (.ref b2), .unset, .unset, .unset, .unset, .unset] [(.int (3 : Int32)), (.ref b2)])) t → Steps p.tables e below (s₁.setTop (entryFrame m #[(.int p0), (.int p1), (.int p2)] maxLocals)) t := fun t kt => by
    refine pre42 _ ?_
    show Steps p.tables e below (T41.setTop (mkF m 77 #[.val (.int p0), .val (.int p1), .val (.int p2), .val (.int (own_b1 p0)), .val (.int (own_b2 p0)), .val (.int (own_b3 p0)), .val (.int (own_b4 p0)), .val (.ref b2), .unset, .unset, .unset, .unset, .unset] [])) _
    refine XS.aload X41.here hx rfl (hb hby at_77) rfl rfl ?_
    show Steps p.tables e below (T41.setTop (mkF m 79 #[.val (.int p0), .val (.int p1), .val (.int p2), .val (.int (own_b1 p0)), .val (.int (own_b2 p0)), .val (.int (own_b3 p0)), .val (.int (own_b4 p0)), .val (.ref b2), .unset, .unset, .unset, .unset, .unset] [(.ref b2)])) _
    refine XS.iconst X41.here hx rfl (hb hby at_79) ?_
    exact kt
  obtain ⟨T44, h44, X44, e44, E44, A44, D44, -, st44⟩ := newO X41 hx hZ hown (hw _ (List.mem_of_getElem? (i := 0) rfl)) (hw _ (List.mem_of_getElem? (i := 2) rfl)) (hw _ (List.mem_of_getElem? (i := 3) rfl)) e41 (g := (mkF m 80 #[.val (.int p0), .val (.int p1), .val (.int p2), .val (.int (own_b1 p0)), .val (.int (own_b2 p0)), .val (.int (own_b3 p0)), .val (.int (own_b4 p0)), .val (.ref b2), .unset, .unset, .unset, .unset, .unset] [(.int (3 : Int32)), (.ref b2)])) rfl (hb hby at_80) (by decide) (by decide)
  obtain ⟨b44, gq44⟩ : ∃ z, z = h41.size := ⟨_, rfl⟩
  rw [← gq44] at A44 D44 st44
  have z45 : n0 ≤ h41.size := (Nat.le_trans (Nat.le_trans (Nat.le_trans z32 E31.1) K36.1) (Keep.of_wr W41).1)
  have gg_b44 : n0 ≤ b44 := Nat.le_trans z45 (Nat.le_of_eq gq44.symm)
  have F44_attributes : Fld Z h44 b44 "com/example/labbrief/labbrief/cda/SchemaModel$ComplexType" "attributes" "Ljava/util/Map;" .null := D44 (Or.inl (hw _ (List.mem_of_getElem? (i := 17) rfl))) (ty := (.object "java/util/Map")) (by decide)
  have F44_base : Fld Z h44 b44 "com/example/labbrief/labbrief/cda/SchemaModel$ComplexType" "base" "Lcom/example/labbrief/labbrief/cda/SchemaModel$ComplexType;" .null := D44 (Or.inl (hw _ (List.mem_of_getElem? (i := 20) rfl))) (ty := (.object "com/example/labbrief/labbrief/cda/SchemaModel$ComplexType")) (by decide)
  have pre46 : ∀ t, Steps p.tables e below (T44.setTop (mkF m 83 #[.val (.int p0), .val (.int p1), .val (.int p2), .val (.int (own_b1 p0)), .val (.int (own_b2 p0)), .val (.int (own_b3 p0)), .val (.int (own_b4 p0)), .val (.ref b2), .unset, .unset, .unset, .unset, .unset] [(.ref b44), (.int (3 : Int32)), (.ref b2)])) t → Steps p.tables e below (s₁.setTop (entryFrame m #[(.int p0), (.int p1), (.int p2)] maxLocals)) t := fun t kt => pre43 _ (st44 _ kt)
  have o47 : Old Z n0 h44 := (((o34.keep K36 (allS gg_b31 all0)).wr W41 gg_b2).ext E44)
  have pre48 : ∀ t, Steps p.tables e below (T44.setTop (mkF m 84 #[.val (.int p0), .val (.int p1), .val (.int p2), .val (.int (own_b1 p0)), .val (.int (own_b2 p0)), .val (.int (own_b3 p0)), .val (.int (own_b4 p0)), .val (.ref b2), .unset, .unset, .unset, .unset, .unset] [(.ref b44), (.ref b44), (.int (3 : Int32)), (.ref b2)])) t → Steps p.tables e below (s₁.setTop (entryFrame m #[(.int p0), (.int p1), (.int p2)] maxLocals)) t := fun t kt => by
    refine pre46 _ ?_
    show Steps p.tables e below (T44.setTop (mkF m 83 #[.val (.int p0), .val (.int p1), .val (.int p2), .val (.int (own_b1 p0)), .val (.int (own_b2 p0)), .val (.int (own_b3 p0)), .val (.int (own_b4 p0)), .val (.ref b2), .unset, .unset, .unset, .unset, .unset] [(.ref b44), (.int (3 : Int32)), (.ref b2)])) _
    refine XS.dup X44.here hx rfl (hb hby at_83) rfl rfl ?_
    exact kt
  obtain ⟨_, _, ⟨T49, L49, kc49, nc49⟩, -, X49, ⟨Lc49, hQ49, l49, y49, z49⟩, st49⟩ := X44.specialBack hx (y := (⟨"com/example/labbrief/labbrief/cda/SchemaModel$ComplexType", "<init>", "()V"⟩ : MethodName)) rfl hown (mvT hZ (hw _ (List.mem_of_getElem? (i := 4) rfl))) (mvT hZ (hw _ (List.mem_of_getElem? (i := 5) rfl))) (mvT hZ (hw _ (List.mem_of_getElem? (i := 6) rfl))) (by decide) (backOf (W := 3) (rm1 l Z a0 hw [] b44 aM h44 n0 o47 SM A44 F44_attributes F44_base gg_b44) hZ (hw _ (List.mem_of_getElem? (i := 6) rfl)) (hw _ (List.mem_of_getElem? (i := 3) rfl)) (by decide) (by decide)) (g := (mkF m 84 #[.val (.int p0), .val (.int p1), .val (.int p2), .val (.int (own_b1 p0)), .val (.int (own_b2 p0)), .val (.int (own_b3 p0)), .val (.int (own_b4 p0)), .val (.ref b2), .unset, .unset, .unset, .unset, .unset] [(.ref b44), (.ref b44), (.int (3 : Int32)), (.ref b2)])) rfl (by rw [hml]; rfl) (Steps.refl _) (a := b44) (argsL := []) (rest := [(.ref b44), (.int (3 : Int32)), (.ref b2)]) (lenOf pd_1 rfl) rfl (by show 2 * 0 + _ ≤ _; exact Nat.le_of_eq rfl) (hb hby at_84) (fun _ _ => ⟨rfl, e44, (by decide : 5 + 0 ≤ _), (by decide : 37 + 0 ≤ _)⟩)
  dsimp only [Pt.U, Pt.locs, Pt.cells, Pt.slots] at X49 l49 y49 z49 st49 hQ49
  subst l49 y49 z49
  obtain ⟨rfl, N49q, K49, Fb49⟩ := hQ49
  have N49 := Fr.app N41 N49q
  have pre50 : ∀ t, Steps p.tables e below (T49.setTop (mkF m 87 #[.val (.int p0), .val (.int p1), .val (.int p2), .val (.int (own_b1 p0)), .val (.int (own_b2 p0)), .val (.int (own_b3 p0)), .val (.int (own_b4 p0)), .val (.ref b2), .unset, .unset, .unset, .unset, .unset] [(.ref b44), (.int (3 : Int32)), (.ref b2)])) t → Steps p.tables e below (s₁.setTop (entryFrame m #[(.int p0), (.int p1), (.int p2)] maxLocals)) t := fun t kt => pre48 _ (st49.trans kt)
  have f51 := ((V41'.ext E44).keep K49 (ninS (Nat.ne_of_lt (Nat.lt_of_lt_of_le V41'.lt (Nat.le_of_eq gq44.symm))) nin0))
  obtain ⟨cl52, Ar52, qk52, Sz52, Nn52, Hh52, Gg52⟩ := id f51
  have hin52 : ¬ ((3 : Int32) < 0 ∨ cl52.slots.size ≤ ((3 : Int32)).toNatClampNeg) := inb_of Sz52 ⟨by decide, by decide⟩
  have f53 := (A44.keep K49)
  obtain ⟨T54, h54, X54, e54, W54, st54⟩ := stR X49 hx hZ rfl Ar52 (j := (3 : Int32)) hin52 rfl (Sto.ofV Ar52 qk52 O2 (Ins.self f53)) (g := (mkF m 87 #[.val (.int p0), .val (.int p1), .val (.int p2), .val (.int (own_b1 p0)), .val (.int (own_b2 p0)), .val (.int (own_b3 p0)), .val (.int (own_b4 p0)), .val (.ref b2), .unset, .unset, .unset, .unset, .unset] [(.ref b44), (.int (3 : Int32)), (.ref b2)])) rfl rfl (hb hby at_87)
  have V54 := Arv.set Ar52 qk52 Sz52 Nn52 Hh52 Gg52 rfl W54 3 rfl (Nat.le_of_ble_eq_true rfl)
  have V54' : Arv Z h54 b2 k2 (.object "com/example/labbrief/labbrief/cda/SchemaModel$ComplexType") (5 : Int32) [(.ref b5), (.ref b18), (.ref b31), (.ref b44), .null] .null := V54
  have N54 := Fr.snoc X54 N49 gg_b2
  have pre55 : ∀ t, Steps p.tables e below (T54.setTop (mkF m 88 #[.val (.int p0), .val (.int p1), .val (.int p2), .val (.int (own_b1 p0)), .val (.int (own_b2 p0)), .val (.int (own_b3 p0)), .val (.int (own_b4 p0)), .val (.ref b2), .unset, .unset, .unset, .unset, .unset] [])) t → Steps p.tables e below (s₁.setTop (entryFrame m #[(.int p0), (.int p1), (.int p2)] maxLocals)) t := fun t kt => pre50 _ (st54 _ kt)
  have pre56 : ∀ t, Steps p.tables e below (T54.setTop (mkF m 91 #[.val (.int p0), .val (.int p1), .val (.int p2), .val (.int (own_b1 p0)), .val (.int (own_b2 p0)), .val (.int (own_b3 p0)), .val (.int (own_b4 p0)), .val (.ref b2), .unset, .unset, .unset, .unset, .unset] [(.int (4 : Int32)), (.ref b2)])) t → Steps p.tables e below (s₁.setTop (entryFrame m #[(.int p0), (.int p1), (.int p2)] maxLocals)) t := fun t kt => by
    refine pre55 _ ?_
    show Steps p.tables e below (T54.setTop (mkF m 88 #[.val (.int p0), .val (.int p1), .val (.int p2), .val (.int (own_b1 p0)), .val (.int (own_b2 p0)), .val (.int (own_b3 p0)), .val (.int (own_b4 p0)), .val (.ref b2), .unset, .unset, .unset, .unset, .unset] [])) _
    refine XS.aload X54.here hx rfl (hb hby at_88) rfl rfl ?_
    show Steps p.tables e below (T54.setTop (mkF m 90 #[.val (.int p0), .val (.int p1), .val (.int p2), .val (.int (own_b1 p0)), .val (.int (own_b2 p0)), .val (.int (own_b3 p0)), .val (.int (own_b4 p0)), .val (.ref b2), .unset, .unset, .unset, .unset, .unset] [(.ref b2)])) _
    refine XS.iconst X54.here hx rfl (hb hby at_90) ?_
    exact kt
  obtain ⟨T57, h57, X57, e57, E57, A57, D57, -, st57⟩ := newO X54 hx hZ hown (hw _ (List.mem_of_getElem? (i := 0) rfl)) (hw _ (List.mem_of_getElem? (i := 2) rfl)) (hw _ (List.mem_of_getElem? (i := 3) rfl)) e54 (g := (mkF m 91 #[.val (.int p0), .val (.int p1), .val (.int p2), .val (.int (own_b1 p0)), .val (.int (own_b2 p0)), .val (.int (own_b3 p0)), .val (.int (own_b4 p0)), .val (.ref b2), .unset, .unset, .unset, .unset, .unset] [(.int (4 : Int32)), (.ref b2)])) rfl (hb hby at_91) (by decide) (by decide)
  obtain ⟨b57, gq57⟩ : ∃ z, z = h54.size := ⟨_, rfl⟩
  rw [← gq57] at A57 D57 st57
  have z58 : n0 ≤ h54.size := (Nat.le_trans (Nat.le_trans (Nat.le_trans z45 E44.1) K49.1) (Keep.of_wr W54).1)
  have gg_b57 : n0 ≤ b57 := Nat.le_trans z58 (Nat.le_of_eq gq57.symm)
  have F57_attributes : Fld Z h57 b57 "com/example/labbrief/labbrief/cda/SchemaModel$ComplexType" "attributes" "Ljava/util/Map;" .null := D57 (Or.inl (hw _ (List.mem_of_getElem? (i := 17) rfl))) (ty := (.object "java/util/Map")) (by decide)
  have F57_base : Fld Z h57 b57 "com/example/labbrief/labbrief/cda/SchemaModel$ComplexType" "base" "Lcom/example/labbrief/labbrief/cda/SchemaModel$ComplexType;" .null := D57 (Or.inl (hw _ (List.mem_of_getElem? (i := 20) rfl))) (ty := (.object "com/example/labbrief/labbrief/cda/SchemaModel$ComplexType")) (by decide)
  have pre59 : ∀ t, Steps p.tables e below (T57.setTop (mkF m 94 #[.val (.int p0), .val (.int p1), .val (.int p2), .val (.int (own_b1 p0)), .val (.int (own_b2 p0)), .val (.int (own_b3 p0)), .val (.int (own_b4 p0)), .val (.ref b2), .unset, .unset, .unset, .unset, .unset] [(.ref b57), (.int (4 : Int32)), (.ref b2)])) t → Steps p.tables e below (s₁.setTop (entryFrame m #[(.int p0), (.int p1), (.int p2)] maxLocals)) t := fun t kt => pre56 _ (st57 _ kt)
  have o60 : Old Z n0 h57 := (((o47.keep K49 (allS gg_b44 all0)).wr W54 gg_b2).ext E57)
  have pre61 : ∀ t, Steps p.tables e below (T57.setTop (mkF m 95 #[.val (.int p0), .val (.int p1), .val (.int p2), .val (.int (own_b1 p0)), .val (.int (own_b2 p0)), .val (.int (own_b3 p0)), .val (.int (own_b4 p0)), .val (.ref b2), .unset, .unset, .unset, .unset, .unset] [(.ref b57), (.ref b57), (.int (4 : Int32)), (.ref b2)])) t → Steps p.tables e below (s₁.setTop (entryFrame m #[(.int p0), (.int p1), (.int p2)] maxLocals)) t := fun t kt => by
    refine pre59 _ ?_
    show Steps p.tables e below (T57.setTop (mkF m 94 #[.val (.int p0), .val (.int p1), .val (.int p2), .val (.int (own_b1 p0)), .val (.int (own_b2 p0)), .val (.int (own_b3 p0)), .val (.int (own_b4 p0)), .val (.ref b2), .unset, .unset, .unset, .unset, .unset] [(.ref b57), (.int (4 : Int32)), (.ref b2)])) _
    refine XS.dup X57.here hx rfl (hb hby at_94) rfl rfl ?_
    exact kt
  obtain ⟨_, _, ⟨T62, L62, kc62, nc62⟩, -, X62, ⟨Lc62, hQ62, l62, y62, z62⟩, st62⟩ := X57.specialBack hx (y := (⟨"com/example/labbrief/labbrief/cda/SchemaModel$ComplexType", "<init>", "()V"⟩ : MethodName)) rfl hown (mvT hZ (hw _ (List.mem_of_getElem? (i := 4) rfl))) (mvT hZ (hw _ (List.mem_of_getElem? (i := 5) rfl))) (mvT hZ (hw _ (List.mem_of_getElem? (i := 6) rfl))) (by decide) (backOf (W := 3) (rm1 l Z a0 hw [] b57 aM h57 n0 o60 SM A57 F57_attributes F57_base gg_b57) hZ (hw _ (List.mem_of_getElem? (i := 6) rfl)) (hw _ (List.mem_of_getElem? (i := 3) rfl)) (by decide) (by decide)) (g := (mkF m 95 #[.val (.int p0), .val (.int p1), .val (.int p2), .val (.int (own_b1 p0)), .val (.int (own_b2 p0)), .val (.int (own_b3 p0)), .val (.int (own_b4 p0)), .val (.ref b2), .unset, .unset, .unset, .unset, .unset] [(.ref b57), (.ref b57), (.int (4 : Int32)), (.ref b2)])) rfl (by rw [hml]; rfl) (Steps.refl _) (a := b57) (argsL := []) (rest := [(.ref b57), (.int (4 : Int32)), (.ref b2)]) (lenOf pd_1 rfl) rfl (by show 2 * 0 + _ ≤ _; exact Nat.le_of_eq rfl) (hb hby at_95) (fun _ _ => ⟨rfl, e57, (by decide : 6 + 0 ≤ _), (by decide : 45 + 0 ≤ _)⟩)
  dsimp only [Pt.U, Pt.locs, Pt.cells, Pt.slots] at X62 l62 y62 z62 st62 hQ62
  subst l62 y62 z62
  obtain ⟨rfl, N62q, K62, Fb62⟩ := hQ62
  have N62 := Fr.app N54 N62q
  have pre63 : ∀ t, Steps p.tables e below (T62.setTop (mkF m 98 #[.val (.int p0), .val (.int p1), .val (.int p2), .val (.int (own_b1 p0)), .val (.int (own_b2 p0)), .val (.int (own_b3 p0)), .val (.int (own_b4 p0)), .val (.ref b2), .unset, .unset, .unset, .unset, .unset] [(.ref b57), (.int (4 : Int32)), (.ref b2)])) t → Steps p.tables e below (s₁.setTop (entryFrame m #[(.int p0), (.int p1), (.int p2)] maxLocals)) t := fun t kt => pre61 _ (st62.trans kt)
  have f64 := ((V54'.ext E57).keep K62 (ninS (Nat.ne_of_lt (Nat.lt_of_lt_of_le V54'.lt (Nat.le_of_eq gq57.symm))) nin0))
  obtain ⟨cl65, Ar65, qk65, Sz65, Nn65, Hh65, Gg65⟩ := id f64
  have hin65 : ¬ ((4 : Int32) < 0 ∨ cl65.slots.size ≤ ((4 : Int32)).toNatClampNeg) := inb_of Sz65 ⟨by decide, by decide⟩
  have f66 := (A57.keep K62)
  obtain ⟨T67, h67, X67, e67, W67, st67⟩ := stR X62 hx hZ rfl Ar65 (j := (4 : Int32)) hin65 rfl (Sto.ofV Ar65 qk65 O2 (Ins.self f66)) (g := (mkF m 98 #[.val (.int p0), .val (.int p1), .val (.int p2), .val (.int (own_b1 p0)), .val (.int (own_b2 p0)), .val (.int (own_b3 p0)), .val (.int (own_b4 p0)), .val (.ref b2), .unset, .unset, .unset, .unset, .unset] [(.ref b57), (.int (4 : Int32)), (.ref b2)])) rfl rfl (hb hby at_98)
  have V67 := Arv.set Ar65 qk65 Sz65 Nn65 Hh65 Gg65 rfl W67 4 rfl (Nat.le_of_ble_eq_true rfl)
  have V67' : Arv Z h67 b2 k2 (.object "com/example/labbrief/labbrief/cda/SchemaModel$ComplexType") (5 : Int32) [(.ref b5), (.ref b18), (.ref b31), (.ref b44), (.ref b57)] .null := V67
  have N67 := Fr.snoc X67 N62 gg_b2
  have pre68 : ∀ t, Steps p.tables e below (T67.setTop (mkF m 99 #[.val (.int p0), .val (.int p1), .val (.int p2), .val (.int (own_b1 p0)), .val (.int (own_b2 p0)), .val (.int (own_b3 p0)), .val (.int (own_b4 p0)), .val (.ref b2), .unset, .unset, .unset, .unset, .unset] [])) t → Steps p.tables e below (s₁.setTop (entryFrame m #[(.int p0), (.int p1), (.int p2)] maxLocals)) t := fun t kt => pre63 _ (st67 _ kt)
  have pre69 : ∀ t, Steps p.tables e below (T67.setTop (mkF m 102 #[.val (.int p0), .val (.int p1), .val (.int p2), .val (.int (own_b1 p0)), .val (.int (own_b2 p0)), .val (.int (own_b3 p0)), .val (.int (own_b4 p0)), .val (.ref b2), .unset, .unset, .unset, .unset, .unset] [(.int (0 : Int32)), (.ref b2)])) t → Steps p.tables e below (s₁.setTop (entryFrame m #[(.int p0), (.int p1), (.int p2)] maxLocals)) t := fun t kt => by
    refine pre68 _ ?_
    show Steps p.tables e below (T67.setTop (mkF m 99 #[.val (.int p0), .val (.int p1), .val (.int p2), .val (.int (own_b1 p0)), .val (.int (own_b2 p0)), .val (.int (own_b3 p0)), .val (.int (own_b4 p0)), .val (.ref b2), .unset, .unset, .unset, .unset, .unset] [])) _
    refine XS.aload X67.here hx rfl (hb hby at_99) rfl rfl ?_
    show Steps p.tables e below (T67.setTop (mkF m 101 #[.val (.int p0), .val (.int p1), .val (.int p2), .val (.int (own_b1 p0)), .val (.int (own_b2 p0)), .val (.int (own_b3 p0)), .val (.int (own_b4 p0)), .val (.ref b2), .unset, .unset, .unset, .unset, .unset] [(.ref b2)])) _
    refine XS.iconst X67.here hx rfl (hb hby at_101) ?_
    exact kt
  obtain ⟨cl70, Ar70, qk70, Sz70, Nn70, Hh70, Gg70⟩ := id V67'
  have hin70 : ¬ ((0 : Int32) < 0 ∨ cl70.slots.size ≤ ((0 : Int32)).toNatClampNeg) := inb_of Sz70 ⟨by decide, by decide⟩
  have hat70 : cl70.slots[((0 : Int32)).toNatClampNeg]? = some (.ref b5) := Hh70.at hin70 rfl
  have f71 := (((((((((((((Fb10.other W15 (Or.inl (Ne.symm (Nat.ne_of_lt (Nat.lt_of_lt_of_le V2.lt (Nat.le_of_eq gq5.symm)))))).ext E18).keep K23 (ninS (Nat.ne_of_lt (Nat.lt_of_lt_of_le (f14.wr W15).lt (Nat.le_of_eq gq18.symm))) nin0)).other W28 (Or.inl (Ne.symm (Nat.ne_of_lt (Nat.lt_of_lt_of_le V2.lt (Nat.le_of_eq gq5.symm)))))).ext E31).keep K36 (ninS (Nat.ne_of_lt (Nat.lt_of_lt_of_le ((((f14.wr W15).ext E18).keep K23).wr W28).lt (Nat.le_of_eq gq31.symm))) nin0)).other W41 (Or.inl (Ne.symm (Nat.ne_of_lt (Nat.lt_of_lt_of_le V2.lt (Nat.le_of_eq gq5.symm)))))).ext E44).keep K49 (ninS (Nat.ne_of_lt (Nat.lt_of_lt_of_le (((((((f14.wr W15).ext E18).keep K23).wr W28).ext E31).keep K36).wr W41).lt (Nat.le_of_eq gq44.symm))) nin0)).other W54 (Or.inl (Ne.symm (Nat.ne_of_lt (Nat.lt_of_lt_of_le V2.lt (Nat.le_of_eq gq5.symm)))))).ext E57).keep K62 (ninS (Nat.ne_of_lt (Nat.lt_of_lt_of_le ((((((((((f14.wr W15).ext E18).keep K23).wr W28).ext E31).keep K36).wr W41).ext E44).keep K49).wr W54).lt (Nat.le_of_eq gq57.symm))) nin0)).other W67 (Or.inl (Ne.symm (Nat.ne_of_lt (Nat.lt_of_lt_of_le V2.lt (Nat.le_of_eq gq5.symm))))))
  have f72 := (((((((((((((f14.wr W15).ext E18).keep K23).wr W28).ext E31).keep K36).wr W41).ext E44).keep K49).wr W54).ext E57).keep K62).wr W67)
  have pre73 : ∀ t, Steps p.tables e below (T67.setTop (mkF m 104 #[.val (.int p0), .val (.int p1), .val (.int p2), .val (.int (own_b1 p0)), .val (.int (own_b2 p0)), .val (.int (own_b3 p0)), .val (.int (own_b4 p0)), .val (.ref b2), .unset, .unset, .unset, .unset, .unset] [.null, (.ref b5)])) t → Steps p.tables e below (s₁.setTop (entryFrame m #[(.int p0), (.int p1), (.int p2)] maxLocals)) t := fun t kt => by
    refine pre69 _ ?_
    show Steps p.tables e below (T67.setTop (mkF m 102 #[.val (.int p0), .val (.int p1), .val (.int p2), .val (.int (own_b1 p0)), .val (.int (own_b2 p0)), .val (.int (own_b3 p0)), .val (.int (own_b4 p0)), .val (.ref b2), .unset, .unset, .unset, .unset, .unset] [(.int (0 : Int32)), (.ref b2)])) _
    refine X67.aaload hx (j := (0 : Int32)) (v := (.ref b5)) (by rw [e67]; exact Ar70.1) (State.isArrayOf_alike hZ.alike Ar70.2.1) rfl Ar70.2.2 hin70 hat70 (g := (mkF m 102 #[.val (.int p0), .val (.int p1), .val (.int p2), .val (.int (own_b1 p0)), .val (.int (own_b2 p0)), .val (.int (own_b3 p0)), .val (.int (own_b4 p0)), .val (.ref b2), .unset, .unset, .unset, .unset, .unset] [(.int (0 : Int32)), (.ref b2)])) rfl rfl (hb hby at_102) _ ?_
    show Steps p.tables e below (T67.setTop (mkF m 103 #[.val (.int p0), .val (.int p1), .val (.int p2), .val (.int (own_b1 p0)), .val (.int (own_b2 p0)), .val (.int (own_b3 p0)), .val (.int (own_b4 p0)), .val (.ref b2), .unset, .unset, .unset, .unset, .unset] [(.ref b5)])) _
    refine XS.aconstNull X67.here hx rfl (hb hby at_103) ?_
    exact kt
  obtain ⟨T74, h74, X74, e74, W74, st74⟩ := putF X67 hx hZ hown (host := "") (Or.inl (hw _ (List.mem_of_getElem? (i := 19) rfl))) Via.refl e67 f71 f72 (Or.inl (hw _ (List.mem_of_getElem? (i := 20) rfl))) (hw _ (List.mem_of_getElem? (i := 2) rfl)) (ty := (.object "com/example/labbrief/labbrief/cda/SchemaModel$ComplexType")) (by decide) rfl rfl (g := (mkF m 104 #[.val (.int p0), .val (.int p1), .val (.int p2), .val (.int (own_b1 p0)), .val (.int (own_b2 p0)), .val (.int (own_b3 p0)), .val (.int (own_b4 p0)), .val (.ref b2), .unset, .unset, .unset, .unset, .unset] [.null, (.ref b5)])) rfl rfl (hb hby at_104)
  have Fw74 := f71.same W74
  have N74 := Fr.snoc X74 N67 gg_b5
  have pre75 : ∀ t, Steps p.tables e below (T74.setTop (mkF m 107 #[.val (.int p0), .val (.int p1), .val (.int p2), .val (.int (own_b1 p0)), .val (.int (own_b2 p0)), .val (.int (own_b3 p0)), .val (.int (own_b4 p0)), .val (.ref b2), .unset, .unset, .unset, .unset, .unset] [])) t → Steps p.tables e below (s₁.setTop (entryFrame m #[(.int p0), (.int p1), (.int p2)] maxLocals)) t := fun t kt => pre73 _ (st74 _ kt)
  have hrefs : ∀ v ∈ ([(.ref b5), (.ref b18), (.ref b31), (.ref b44), (.ref b57)] : List Value), v.isRef = true := by intro v hv; simp only [List.mem_cons, List.not_mem_nil, or_false] at hv; rcases hv with rfl | rfl | rfl | rfl | rfl <;> rfl
  obtain ⟨j1, hj1⟩ := own_b1f p0
  have lo1 := own_low (n := 1) (by decide) j1
  rw [← hj1] at lo1
  obtain ⟨j2, hj2⟩ := own_b2f p0
  have lo2 := own_low (n := 2) (by decide) j2
  rw [← hj2] at lo2
  obtain ⟨j3, hj3⟩ := own_b3f p0
  have lo3 := own_low (n := 3) (by decide) j3
  rw [← hj3] at lo3
  obtain ⟨j4, hj4⟩ := own_b4f p0
  have lo4 := own_low (n := 4) (by decide) j4
  rw [← hj4] at lo4
  have pre76 : ∀ t, Steps p.tables e below (T74.setTop (mkF m 110 #[.val (.int p0), .val (.int p1), .val (.int p2), .val (.int (own_b1 p0)), .val (.int (own_b2 p0)), .val (.int (own_b3 p0)), .val (.int (own_b4 p0)), .val (.ref b2), .unset, .unset, .unset, .unset, .unset] [(.int (1 : Int32)), (.ref b2)])) t → Steps p.tables e below (s₁.setTop (entryFrame m #[(.int p0), (.int p1), (.int p2)] maxLocals)) t := fun t kt => by
    refine pre75 _ ?_
    show Steps p.tables e below (T74.setTop (mkF m 107 #[.val (.int p0), .val (.int p1), .val (.int p2), .val (.int (own_b1 p0)), .val (.int (own_b2 p0)), .val (.int (own_b3 p0)), .val (.int (own_b4 p0)), .val (.ref b2), .unset, .unset, .unset, .unset, .unset] [])) _
    refine XS.aload X74.here hx rfl (hb hby at_107) rfl rfl ?_
    show Steps p.tables e below (T74.setTop (mkF m 109 #[.val (.int p0), .val (.int p1), .val (.int p2), .val (.int (own_b1 p0)), .val (.int (own_b2 p0)), .val (.int (own_b3 p0)), .val (.int (own_b4 p0)), .val (.ref b2), .unset, .unset, .unset, .unset, .unset] [(.ref b2)])) _
    refine XS.iconst X74.here hx rfl (hb hby at_109) ?_
    exact kt
  have f77 := (V67'.other W74 (Nat.ne_of_lt (Nat.lt_of_lt_of_le V2.lt (Nat.le_of_eq gq5.symm))))
  obtain ⟨cl78, Ar78, qk78, Sz78, Nn78, Hh78, Gg78⟩ := id f77
  have hin78 : ¬ ((1 : Int32) < 0 ∨ cl78.slots.size ≤ ((1 : Int32)).toNatClampNeg) := inb_of Sz78 ⟨by decide, by decide⟩
  have hat78 : cl78.slots[((1 : Int32)).toNatClampNeg]? = some (.ref b18) := Hh78.at hin78 rfl
  have pre79 : ∀ t, Steps p.tables e below (T74.setTop (mkF m 112 #[.val (.int p0), .val (.int p1), .val (.int p2), .val (.int (own_b1 p0)), .val (.int (own_b2 p0)), .val (.int (own_b3 p0)), .val (.int (own_b4 p0)), .val (.ref b2), .unset, .unset, .unset, .unset, .unset] [(.int (own_b1 p0)), (.ref b18)])) t → Steps p.tables e below (s₁.setTop (entryFrame m #[(.int p0), (.int p1), (.int p2)] maxLocals)) t := fun t kt => by
    refine pre76 _ ?_
    show Steps p.tables e below (T74.setTop (mkF m 110 #[.val (.int p0), .val (.int p1), .val (.int p2), .val (.int (own_b1 p0)), .val (.int (own_b2 p0)), .val (.int (own_b3 p0)), .val (.int (own_b4 p0)), .val (.ref b2), .unset, .unset, .unset, .unset, .unset] [(.int (1 : Int32)), (.ref b2)])) _
    refine X74.aaload hx (j := (1 : Int32)) (v := (.ref b18)) (by rw [e74]; exact Ar78.1) (State.isArrayOf_alike hZ.alike Ar78.2.1) rfl Ar78.2.2 hin78 hat78 (g := (mkF m 110 #[.val (.int p0), .val (.int p1), .val (.int p2), .val (.int (own_b1 p0)), .val (.int (own_b2 p0)), .val (.int (own_b3 p0)), .val (.int (own_b4 p0)), .val (.ref b2), .unset, .unset, .unset, .unset, .unset] [(.int (1 : Int32)), (.ref b2)])) rfl rfl (hb hby at_110) _ ?_
    show Steps p.tables e below (T74.setTop (mkF m 111 #[.val (.int p0), .val (.int p1), .val (.int p2), .val (.int (own_b1 p0)), .val (.int (own_b2 p0)), .val (.int (own_b3 p0)), .val (.int (own_b4 p0)), .val (.ref b2), .unset, .unset, .unset, .unset, .unset] [(.ref b18)])) _
    refine XS.iloadN X74.here hx rfl (hb hby at_111) rfl ?_
    exact kt
  have is1 : (own_r [(.ref b5), (.ref b18), (.ref b31), (.ref b44), (.ref b57)] (own_b1 p0)).isRef = true := own_r_is hrefs _
  have pre80 : ∀ t, Steps p.tables e below (T74.setTop (mkF m 123 #[.val (.int p0), .val (.int p1), .val (.int p2), .val (.int (own_b1 p0)), .val (.int (own_b2 p0)), .val (.int (own_b3 p0)), .val (.int (own_b4 p0)), .val (.ref b2), .unset, .unset, .unset, .unset, .unset] [(own_r [(.ref b5), (.ref b18), (.ref b31), (.ref b44), (.ref b57)] (own_b1 p0)), (.ref b18)])) t → Steps p.tables e below (s₁.setTop (entryFrame m #[(.int p0), (.int p1), (.int p2)] maxLocals)) t := fun t kt => by
    rcases lo1 with c1 | ⟨c1, c2, c3⟩
    · have pre81 : ∀ t, Steps p.tables e below (T74.setTop (mkF m 123 #[.val (.int p0), .val (.int p1), .val (.int p2), .val (.int (own_b1 p0)), .val (.int (own_b2 p0)), .val (.int (own_b3 p0)), .val (.int (own_b4 p0)), .val (.ref b2), .unset, .unset, .unset, .unset, .unset] [.null, (.ref b18)])) t → Steps p.tables e below (s₁.setTop (entryFrame m #[(.int p0), (.int p1), (.int p2)] maxLocals)) t := fun t kt => by
        refine pre79 _ ?_
        show Steps p.tables e below (T74.setTop (mkF m 112 #[.val (.int p0), .val (.int p1), .val (.int p2), .val (.int (own_b1 p0)), .val (.int (own_b2 p0)), .val (.int (own_b3 p0)), .val (.int (own_b4 p0)), .val (.ref b2), .unset, .unset, .unset, .unset, .unset] [(.int (own_b1 p0)), (.ref b18)])) _
        refine XS.ifNo X74.here hx rfl (hb hby at_112) rfl ((if0 _ _).trans (tlt (c1 : (own_b1 p0) < (0 : Int32))).2.1) ?_
        show Steps p.tables e below (T74.setTop (mkF m 115 #[.val (.int p0), .val (.int p1), .val (.int p2), .val (.int (own_b1 p0)), .val (.int (own_b2 p0)), .val (.int (own_b3 p0)), .val (.int (own_b4 p0)), .val (.ref b2), .unset, .unset, .unset, .unset, .unset] [(.ref b18)])) _
        refine XS.aconstNull X74.here hx rfl (hb hby at_115) ?_
        show Steps p.tables e below (T74.setTop (mkF m 116 #[.val (.int p0), .val (.int p1), .val (.int p2), .val (.int (own_b1 p0)), .val (.int (own_b2 p0)), .val (.int (own_b3 p0)), .val (.int (own_b4 p0)), .val (.ref b2), .unset, .unset, .unset, .unset, .unset] [.null, (.ref b18)])) _
        refine XS.goto X74.here hx rfl (pc0 := 116) (pc' := 123) rfl (hb hby at_116) (by decide) (by decide) ?_
        exact kt
      rw [show (own_r [(.ref b5), (.ref b18), (.ref b31), (.ref b44), (.ref b57)] (own_b1 p0)) = .null from if_pos c1] at kt
      exact pre81 _ kt
    · have pre82 : ∀ t, Steps p.tables e below (T74.setTop (mkF m 122 #[.val (.int p0), .val (.int p1), .val (.int p2), .val (.int (own_b1 p0)), .val (.int (own_b2 p0)), .val (.int (own_b3 p0)), .val (.int (own_b4 p0)), .val (.ref b2), .unset, .unset, .unset, .unset, .unset] [(.int (own_b1 p0)), (.ref b2), (.ref b18)])) t → Steps p.tables e below (s₁.setTop (entryFrame m #[(.int p0), (.int p1), (.int p2)] maxLocals)) t := fun t kt => by
        refine pre79 _ ?_
        show Steps p.tables e below (T74.setTop (mkF m 112 #[.val (.int p0), .val (.int p1), .val (.int p2), .val (.int (own_b1 p0)), .val (.int (own_b2 p0)), .val (.int (own_b3 p0)), .val (.int (own_b4 p0)), .val (.ref b2), .unset, .unset, .unset, .unset, .unset] [(.int (own_b1 p0)), (.ref b18)])) _
        refine XS.ifYes X74.here hx rfl (pc0 := 112) (pc' := 119) rfl (hb hby at_112) rfl ((if0 _ _).trans (flt (c1 : ¬ ((own_b1 p0) < (0 : Int32)))).2.1) (by decide) (by decide) ?_
        show Steps p.tables e below (T74.setTop (mkF m 119 #[.val (.int p0), .val (.int p1), .val (.int p2), .val (.int (own_b1 p0)), .val (.int (own_b2 p0)), .val (.int (own_b3 p0)), .val (.int (own_b4 p0)), .val (.ref b2), .unset, .unset, .unset, .unset, .unset] [(.ref b18)])) _
        refine XS.aload X74.here hx rfl (hb hby at_119) rfl rfl ?_
        show Steps p.tables e below (T74.setTop (mkF m 121 #[.val (.int p0), .val (.int p1), .val (.int p2), .val (.int (own_b1 p0)), .val (.int (own_b2 p0)), .val (.int (own_b3 p0)), .val (.int (own_b4 p0)), .val (.ref b2), .unset, .unset, .unset, .unset, .unset] [(.ref b2), (.ref b18)])) _
        refine XS.iloadN X74.here hx rfl (hb hby at_121) rfl ?_
        exact kt
      obtain ⟨cl83, Ar83, qk83, Sz83, Nn83, Hh83, Gg83⟩ := id f77
      have hin83 : ¬ ((own_b1 p0) < 0 ∨ cl83.slots.size ≤ ((own_b1 p0)).toNatClampNeg) := inb_of Sz83 ⟨c1, c2⟩
      have hat83 : cl83.slots[((own_b1 p0)).toNatClampNeg]? = some (([(.ref b5), (.ref b18), (.ref b31), (.ref b44), (.ref b57)] : List Value).getD (own_b1 p0).toNatClampNeg .null) := Hh83.at hin83 rfl
      have isv83 : ((([(.ref b5), (.ref b18), (.ref b31), (.ref b44), (.ref b57)] : List Value).getD (own_b1 p0).toNatClampNeg .null)).isRef = true := fit_R (Gg83 _ (Nat.lt_of_not_le fun y => hin83 (Or.inr y))) rfl
      have catv83 : ((([(.ref b5), (.ref b18), (.ref b31), (.ref b44), (.ref b57)] : List Value).getD (own_b1 p0).toNatClampNeg .null)).category = 1 := by rcases ref_cases isv83 with q | ⟨_, q⟩ <;> rw [q] <;> rfl
      have pre84 : ∀ t, Steps p.tables e below (T74.setTop (mkF m 123 #[.val (.int p0), .val (.int p1), .val (.int p2), .val (.int (own_b1 p0)), .val (.int (own_b2 p0)), .val (.int (own_b3 p0)), .val (.int (own_b4 p0)), .val (.ref b2), .unset, .unset, .unset, .unset, .unset] [(([(.ref b5), (.ref b18), (.ref b31), (.ref b44), (.ref b57)] : List Value).getD (own_b1 p0).toNatClampNeg .null), (.ref b18)])) t → Steps p.tables e below (s₁.setTop (entryFrame m #[(.int p0), (.int p1), (.int p2)] maxLocals)) t := fun t kt => by
        refine pre82 _ ?_
        show Steps p.tables e below (T74.setTop (mkF m 122 #[.val (.int p0), .val (.int p1), .val (.int p2), .val (.int (own_b1 p0)), .val (.int (own_b2 p0)), .val (.int (own_b3 p0)), .val (.int (own_b4 p0)), .val (.ref b2), .unset, .unset, .unset, .unset, .unset] [(.int (own_b1 p0)), (.ref b2), (.ref b18)])) _
        refine X74.aaload hx (j := (own_b1 p0)) (v := (([(.ref b5), (.ref b18), (.ref b31), (.ref b44), (.ref b57)] : List Value).getD (own_b1 p0).toNatClampNeg .null)) (by rw [e74]; exact Ar83.1) (State.isArrayOf_alike hZ.alike Ar83.2.1) rfl Ar83.2.2 hin83 hat83 (g := (mkF m 122 #[.val (.int p0), .val (.int p1), .val (.int p2), .val (.int (own_b1 p0)), .val (.int (own_b2 p0)), .val (.int (own_b3 p0)), .val (.int (own_b4 p0)), .val (.ref b2), .unset, .unset, .unset, .unset, .unset] [(.int (own_b1 p0)), (.ref b2), (.ref b18)])) rfl rfl (hb hby at_122) _ ?_
        exact kt
      rw [show (own_r [(.ref b5), (.ref b18), (.ref b31), (.ref b44), (.ref b57)] (own_b1 p0)) = (([(.ref b5), (.ref b18), (.ref b31), (.ref b44), (.ref b57)] : List Value).getD (own_b1 p0).toNatClampNeg .null) from if_neg c1] at kt
      exact pre84 _ kt
  have f85 := (((((((((((Fb23.other W28 (Or.inl (Ne.symm (Nat.ne_of_lt (Nat.lt_of_lt_of_le V15'.lt (Nat.le_of_eq gq18.symm)))))).ext E31).keep K36 (ninS (Nat.ne_of_lt (Nat.lt_of_lt_of_le (f27.wr W28).lt (Nat.le_of_eq gq31.symm))) nin0)).other W41 (Or.inl (Ne.symm (Nat.ne_of_lt (Nat.lt_of_lt_of_le V15'.lt (Nat.le_of_eq gq18.symm)))))).ext E44).keep K49 (ninS (Nat.ne_of_lt (Nat.lt_of_lt_of_le ((((f27.wr W28).ext E31).keep K36).wr W41).lt (Nat.le_of_eq gq44.symm))) nin0)).other W54 (Or.inl (Ne.symm (Nat.ne_of_lt (Nat.lt_of_lt_of_le V15'.lt (Nat.le_of_eq gq18.symm)))))).ext E57).keep K62 (ninS (Nat.ne_of_lt (Nat.lt_of_lt_of_le (((((((f27.wr W28).ext E31).keep K36).wr W41).ext E44).keep K49).wr W54).lt (Nat.le_of_eq gq57.symm))) nin0)).other W67 (Or.inl (Ne.symm (Nat.ne_of_lt (Nat.lt_of_lt_of_le V15'.lt (Nat.le_of_eq gq18.symm)))))).other W74 (Or.inl (Ne.symm (Nat.ne_of_lt (Nat.lt_of_lt_of_le (f14.wr W15).lt (Nat.le_of_eq gq18.symm))))))
  have f86 := (((((((((((f27.wr W28).ext E31).keep K36).wr W41).ext E44).keep K49).wr W54).ext E57).keep K62).wr W67).wr W74)
  obtain ⟨T87, h87, X87, e87, W87, st87⟩ := putF X74 hx hZ hown (host := "") (Or.inl (hw _ (List.mem_of_getElem? (i := 19) rfl))) Via.refl e74 f85 f86 (Or.inl (hw _ (List.mem_of_getElem? (i := 20) rfl))) (hw _ (List.mem_of_getElem? (i := 2) rfl)) (ty := (.object "com/example/labbrief/labbrief/cda/SchemaModel$ComplexType")) (by decide) (own_nar is1) (own_fit is1) (g := (mkF m 123 #[.val (.int p0), .val (.int p1), .val (.int p2), .val (.int (own_b1 p0)), .val (.int (own_b2 p0)), .val (.int (own_b3 p0)), .val (.int (own_b4 p0)), .val (.ref b2), .unset, .unset, .unset, .unset, .unset] [(own_r [(.ref b5), (.ref b18), (.ref b31), (.ref b44), (.ref b57)] (own_b1 p0)), (.ref b18)])) rfl rfl (hb hby at_123)
  have Fw87 := f85.same W87
  have N87 := Fr.snoc X87 N74 gg_b18
  have pre88 : ∀ t, Steps p.tables e below (T87.setTop (mkF m 126 #[.val (.int p0), .val (.int p1), .val (.int p2), .val (.int (own_b1 p0)), .val (.int (own_b2 p0)), .val (.int (own_b3 p0)), .val (.int (own_b4 p0)), .val (.ref b2), .unset, .unset, .unset, .unset, .unset] [])) t → Steps p.tables e below (s₁.setTop (entryFrame m #[(.int p0), (.int p1), (.int p2)] maxLocals)) t := fun t kt => pre80 _ (st87 _ kt)
  have pre89 : ∀ t, Steps p.tables e below (T87.setTop (mkF m 129 #[.val (.int p0), .val (.int p1), .val (.int p2), .val (.int (own_b1 p0)), .val (.int (own_b2 p0)), .val (.int (own_b3 p0)), .val (.int (own_b4 p0)), .val (.ref b2), .unset, .unset, .unset, .unset, .unset] [(.int (2 : Int32)), (.ref b2)])) t → Steps p.tables e below (s₁.setTop (entryFrame m #[(.int p0), (.int p1), (.int p2)] maxLocals)) t := fun t kt => by
    refine pre88 _ ?_
    show Steps p.tables e below (T87.setTop (mkF m 126 #[.val (.int p0), .val (.int p1), .val (.int p2), .val (.int (own_b1 p0)), .val (.int (own_b2 p0)), .val (.int (own_b3 p0)), .val (.int (own_b4 p0)), .val (.ref b2), .unset, .unset, .unset, .unset, .unset] [])) _
    refine XS.aload X87.here hx rfl (hb hby at_126) rfl rfl ?_
    show Steps p.tables e below (T87.setTop (mkF m 128 #[.val (.int p0), .val (.int p1), .val (.int p2), .val (.int (own_b1 p0)), .val (.int (own_b2 p0)), .val (.int (own_b3 p0)), .val (.int (own_b4 p0)), .val (.ref b2), .unset, .unset, .unset, .unset, .unset] [(.ref b2)])) _
    refine XS.iconst X87.here hx rfl (hb hby at_128) ?_
    exact kt
  have f90 := (f77.other W87 (Nat.ne_of_lt (Nat.lt_of_lt_of_le V15'.lt (Nat.le_of_eq gq18.symm))))
  obtain ⟨cl91, Ar91, qk91, Sz91, Nn91, Hh91, Gg91⟩ := id f90
  have hin91 : ¬ ((2 : Int32) < 0 ∨ cl91.slots.size ≤ ((2 : Int32)).toNatClampNeg) := inb_of Sz91 ⟨by decide, by decide⟩
  have hat91 : cl91.slots[((2 : Int32)).toNatClampNeg]? = some (.ref b31) := Hh91.at hin91 rfl
  have pre92 : ∀ t, Steps p.tables e below (T87.setTop (mkF m 132 #[.val (.int p0), .val (.int p1), .val (.int p2), .val (.int (own_b1 p0)), .val (.int (own_b2 p0)), .val (.int (own_b3 p0)), .val (.int (own_b4 p0)), .val (.ref b2), .unset, .unset, .unset, .unset, .unset] [(.int (own_b2 p0)), (.ref b31)])) t → Steps p.tables e below (s₁.setTop (entryFrame m #[(.int p0), (.int p1), (.int p2)] maxLocals)) t := fun t kt => by
    refine pre89 _ ?_
    show Steps p.tables e below (T87.setTop (mkF m 129 #[.val (.int p0), .val (.int p1), .val (.int p2), .val (.int (own_b1 p0)), .val (.int (own_b2 p0)), .val (.int (own_b3 p0)), .val (.int (own_b4 p0)), .val (.ref b2), .unset, .unset, .unset, .unset, .unset] [(.int (2 : Int32)), (.ref b2)])) _
    refine X87.aaload hx (j := (2 : Int32)) (v := (.ref b31)) (by rw [e87]; exact Ar91.1) (State.isArrayOf_alike hZ.alike Ar91.2.1) rfl Ar91.2.2 hin91 hat91 (g := (mkF m 129 #[.val (.int p0), .val (.int p1), .val (.int p2), .val (.int (own_b1 p0)), .val (.int (own_b2 p0)), .val (.int (own_b3 p0)), .val (.int (own_b4 p0)), .val (.ref b2), .unset, .unset, .unset, .unset, .unset] [(.int (2 : Int32)), (.ref b2)])) rfl rfl (hb hby at_129) _ ?_
    show Steps p.tables e below (T87.setTop (mkF m 130 #[.val (.int p0), .val (.int p1), .val (.int p2), .val (.int (own_b1 p0)), .val (.int (own_b2 p0)), .val (.int (own_b3 p0)), .val (.int (own_b4 p0)), .val (.ref b2), .unset, .unset, .unset, .unset, .unset] [(.ref b31)])) _
    refine XS.iload X87.here hx rfl (hb hby at_130) rfl ?_
    exact kt
  have is2 : (own_r [(.ref b5), (.ref b18), (.ref b31), (.ref b44), (.ref b57)] (own_b2 p0)).isRef = true := own_r_is hrefs _
  have pre93 : ∀ t, Steps p.tables e below (T87.setTop (mkF m 144 #[.val (.int p0), .val (.int p1), .val (.int p2), .val (.int (own_b1 p0)), .val (.int (own_b2 p0)), .val (.int (own_b3 p0)), .val (.int (own_b4 p0)), .val (.ref b2), .unset, .unset, .unset, .unset, .unset] [(own_r [(.ref b5), (.ref b18), (.ref b31), (.ref b44), (.ref b57)] (own_b2 p0)), (.ref b31)])) t → Steps p.tables e below (s₁.setTop (entryFrame m #[(.int p0), (.int p1), (.int p2)] maxLocals)) t := fun t kt => by
    rcases lo2 with c1 | ⟨c1, c2, c3⟩
    · have pre94 : ∀ t, Steps p.tables e below (T87.setTop (mkF m 144 #[.val (.int p0), .val (.int p1), .val (.int p2), .val (.int (own_b1 p0)), .val (.int (own_b2 p0)), .val (.int (own_b3 p0)), .val (.int (own_b4 p0)), .val (.ref b2), .unset, .unset, .unset, .unset, .unset] [.null, (.ref b31)])) t → Steps p.tables e below (s₁.setTop (entryFrame m #[(.int p0), (.int p1), (.int p2)] maxLocals)) t := fun t kt => by
        refine pre92 _ ?_
        show Steps p.tables e below (T87.setTop (mkF m 132 #[.val (.int p0), .val (.int p1), .val (.int p2), .val (.int (own_b1 p0)), .val (.int (own_b2 p0)), .val (.int (own_b3 p0)), .val (.int (own_b4 p0)), .val (.ref b2), .unset, .unset, .unset, .unset, .unset] [(.int (own_b2 p0)), (.ref b31)])) _
        refine XS.ifNo X87.here hx rfl (hb hby at_132) rfl ((if0 _ _).trans (tlt (c1 : (own_b2 p0) < (0 : Int32))).2.1) ?_
        show Steps p.tables e below (T87.setTop (mkF m 135 #[.val (.int p0), .val (.int p1), .val (.int p2), .val (.int (own_b1 p0)), .val (.int (own_b2 p0)), .val (.int (own_b3 p0)), .val (.int (own_b4 p0)), .val (.ref b2), .unset, .unset, .unset, .unset, .unset] [(.ref b31)])) _
        refine XS.aconstNull X87.here hx rfl (hb hby at_135) ?_
        show Steps p.tables e below (T87.setTop (mkF m 136 #[.val (.int p0), .val (.int p1), .val (.int p2), .val (.int (own_b1 p0)), .val (.int (own_b2 p0)), .val (.int (own_b3 p0)), .val (.int (own_b4 p0)), .val (.ref b2), .unset, .unset, .unset, .unset, .unset] [.null, (.ref b31)])) _
        refine XS.goto X87.here hx rfl (pc0 := 136) (pc' := 144) rfl (hb hby at_136) (by decide) (by decide) ?_
        exact kt
      rw [show (own_r [(.ref b5), (.ref b18), (.ref b31), (.ref b44), (.ref b57)] (own_b2 p0)) = .null from if_pos c1] at kt
      exact pre94 _ kt
    · have pre95 : ∀ t, Steps p.tables e below (T87.setTop (mkF m 143 #[.val (.int p0), .val (.int p1), .val (.int p2), .val (.int (own_b1 p0)), .val (.int (own_b2 p0)), .val (.int (own_b3 p0)), .val (.int (own_b4 p0)), .val (.ref b2), .unset, .unset, .unset, .unset, .unset] [(.int (own_b2 p0)), (.ref b2), (.ref b31)])) t → Steps p.tables e below (s₁.setTop (entryFrame m #[(.int p0), (.int p1), (.int p2)] maxLocals)) t := fun t kt => by
        refine pre92 _ ?_
        show Steps p.tables e below (T87.setTop (mkF m 132 #[.val (.int p0), .val (.int p1), .val (.int p2), .val (.int (own_b1 p0)), .val (.int (own_b2 p0)), .val (.int (own_b3 p0)), .val (.int (own_b4 p0)), .val (.ref b2), .unset, .unset, .unset, .unset, .unset] [(.int (own_b2 p0)), (.ref b31)])) _
        refine XS.ifYes X87.here hx rfl (pc0 := 132) (pc' := 139) rfl (hb hby at_132) rfl ((if0 _ _).trans (flt (c1 : ¬ ((own_b2 p0) < (0 : Int32)))).2.1) (by decide) (by decide) ?_
        show Steps p.tables e below (T87.setTop (mkF m 139 #[.val (.int p0), .val (.int p1), .val (.int p2), .val (.int (own_b1 p0)), .val (.int (own_b2 p0)), .val (.int (own_b3 p0)), .val (.int (own_b4 p0)), .val (.ref b2), .unset, .unset, .unset, .unset, .unset] [(.ref b31)])) _
        refine XS.aload X87.here hx rfl (hb hby at_139) rfl rfl ?_
        show Steps p.tables e below (T87.setTop (mkF m 141 #[.val (.int p0), .val (.int p1), .val (.int p2), .val (.int (own_b1 p0)), .val (.int (own_b2 p0)), .val (.int (own_b3 p0)), .val (.int (own_b4 p0)), .val (.ref b2), .unset, .unset, .unset, .unset, .unset] [(.ref b2), (.ref b31)])) _
        refine XS.iload X87.here hx rfl (hb hby at_141) rfl ?_
        exact kt
      obtain ⟨cl96, Ar96, qk96, Sz96, Nn96, Hh96, Gg96⟩ := id f90
      have hin96 : ¬ ((own_b2 p0) < 0 ∨ cl96.slots.size ≤ ((own_b2 p0)).toNatClampNeg) := inb_of Sz96 ⟨c1, c2⟩
      have hat96 : cl96.slots[((own_b2 p0)).toNatClampNeg]? = some (([(.ref b5), (.ref b18), (.ref b31), (.ref b44), (.ref b57)] : List Value).getD (own_b2 p0).toNatClampNeg .null) := Hh96.at hin96 rfl
      have isv96 : ((([(.ref b5), (.ref b18), (.ref b31), (.ref b44), (.ref b57)] : List Value).getD (own_b2 p0).toNatClampNeg .null)).isRef = true := fit_R (Gg96 _ (Nat.lt_of_not_le fun y => hin96 (Or.inr y))) rfl
      have catv96 : ((([(.ref b5), (.ref b18), (.ref b31), (.ref b44), (.ref b57)] : List Value).getD (own_b2 p0).toNatClampNeg .null)).category = 1 := by rcases ref_cases isv96 with q | ⟨_, q⟩ <;> rw [q] <;> rfl
      have pre97 : ∀ t, Steps p.tables e below (T87.setTop (mkF m 144 #[.val (.int p0), .val (.int p1), .val (.int p2), .val (.int (own_b1 p0)), .val (.int (own_b2 p0)), .val (.int (own_b3 p0)), .val (.int (own_b4 p0)), .val (.ref b2), .unset, .unset, .unset, .unset, .unset] [(([(.ref b5), (.ref b18), (.ref b31), (.ref b44), (.ref b57)] : List Value).getD (own_b2 p0).toNatClampNeg .null), (.ref b31)])) t → Steps p.tables e below (s₁.setTop (entryFrame m #[(.int p0), (.int p1), (.int p2)] maxLocals)) t := fun t kt => by
        refine pre95 _ ?_
        show Steps p.tables e below (T87.setTop (mkF m 143 #[.val (.int p0), .val (.int p1), .val (.int p2), .val (.int (own_b1 p0)), .val (.int (own_b2 p0)), .val (.int (own_b3 p0)), .val (.int (own_b4 p0)), .val (.ref b2), .unset, .unset, .unset, .unset, .unset] [(.int (own_b2 p0)), (.ref b2), (.ref b31)])) _
        refine X87.aaload hx (j := (own_b2 p0)) (v := (([(.ref b5), (.ref b18), (.ref b31), (.ref b44), (.ref b57)] : List Value).getD (own_b2 p0).toNatClampNeg .null)) (by rw [e87]; exact Ar96.1) (State.isArrayOf_alike hZ.alike Ar96.2.1) rfl Ar96.2.2 hin96 hat96 (g := (mkF m 143 #[.val (.int p0), .val (.int p1), .val (.int p2), .val (.int (own_b1 p0)), .val (.int (own_b2 p0)), .val (.int (own_b3 p0)), .val (.int (own_b4 p0)), .val (.ref b2), .unset, .unset, .unset, .unset, .unset] [(.int (own_b2 p0)), (.ref b2), (.ref b31)])) rfl rfl (hb hby at_143) _ ?_
        exact kt
      rw [show (own_r [(.ref b5), (.ref b18), (.ref b31), (.ref b44), (.ref b57)] (own_b2 p0)) = (([(.ref b5), (.ref b18), (.ref b31), (.ref b44), (.ref b57)] : List Value).getD (own_b2 p0).toNatClampNeg .null) from if_neg c1] at kt
      exact pre97 _ kt
  have f98 := (((((((((Fb36.other W41 (Or.inl (Ne.symm (Nat.ne_of_lt (Nat.lt_of_lt_of_le V28'.lt (Nat.le_of_eq gq31.symm)))))).ext E44).keep K49 (ninS (Nat.ne_of_lt (Nat.lt_of_lt_of_le (f40.wr W41).lt (Nat.le_of_eq gq44.symm))) nin0)).other W54 (Or.inl (Ne.symm (Nat.ne_of_lt (Nat.lt_of_lt_of_le V28'.lt (Nat.le_of_eq gq31.symm)))))).ext E57).keep K62 (ninS (Nat.ne_of_lt (Nat.lt_of_lt_of_le ((((f40.wr W41).ext E44).keep K49).wr W54).lt (Nat.le_of_eq gq57.symm))) nin0)).other W67 (Or.inl (Ne.symm (Nat.ne_of_lt (Nat.lt_of_lt_of_le V28'.lt (Nat.le_of_eq gq31.symm)))))).other W74 (Or.inl (Ne.symm (Nat.ne_of_lt (Nat.lt_of_lt_of_le ((((f14.wr W15).ext E18).keep K23).wr W28).lt (Nat.le_of_eq gq31.symm)))))).other W87 (Or.inl (Ne.symm (Nat.ne_of_lt (Nat.lt_of_lt_of_le (f27.wr W28).lt (Nat.le_of_eq gq31.symm))))))
  have f99 := (((((((((f40.wr W41).ext E44).keep K49).wr W54).ext E57).keep K62).wr W67).wr W74).wr W87)
  obtain ⟨T100, h100, X100, e100, W100, st100⟩ := putF X87 hx hZ hown (host := "") (Or.inl (hw _ (List.mem_of_getElem? (i := 19) rfl))) Via.refl e87 f98 f99 (Or.inl (hw _ (List.mem_of_getElem? (i := 20) rfl))) (hw _ (List.mem_of_getElem? (i := 2) rfl)) (ty := (.object "com/example/labbrief/labbrief/cda/SchemaModel$ComplexType")) (by decide) (own_nar is2) (own_fit is2) (g := (mkF m 144 #[.val (.int p0), .val (.int p1), .val (.int p2), .val (.int (own_b1 p0)), .val (.int (own_b2 p0)), .val (.int (own_b3 p0)), .val (.int (own_b4 p0)), .val (.ref b2), .unset, .unset, .unset, .unset, .unset] [(own_r [(.ref b5), (.ref b18), (.ref b31), (.ref b44), (.ref b57)] (own_b2 p0)), (.ref b31)])) rfl rfl (hb hby at_144)
  have Fw100 := f98.same W100
  have N100 := Fr.snoc X100 N87 gg_b31
  have pre101 : ∀ t, Steps p.tables e below (T100.setTop (mkF m 147 #[.val (.int p0), .val (.int p1), .val (.int p2), .val (.int (own_b1 p0)), .val (.int (own_b2 p0)), .val (.int (own_b3 p0)), .val (.int (own_b4 p0)), .val (.ref b2), .unset, .unset, .unset, .unset, .unset] [])) t → Steps p.tables e below (s₁.setTop (entryFrame m #[(.int p0), (.int p1), (.int p2)] maxLocals)) t := fun t kt => pre93 _ (st100 _ kt)
  have pre102 : ∀ t, Steps p.tables e below (T100.setTop (mkF m 150 #[.val (.int p0), .val (.int p1), .val (.int p2), .val (.int (own_b1 p0)), .val (.int (own_b2 p0)), .val (.int (own_b3 p0)), .val (.int (own_b4 p0)), .val (.ref b2), .unset, .unset, .unset, .unset, .unset] [(.int (3 : Int32)), (.ref b2)])) t → Steps p.tables e below (s₁.setTop (entryFrame m #[(.int p0), (.int p1), (.int p2)] maxLocals)) t := fun t kt => by
    refine pre101 _ ?_
    show Steps p.tables e below (T100.setTop (mkF m 147 #[.val (.int p0), .val (.int p1), .val (.int p2), .val (.int (own_b1 p0)), .val (.int (own_b2 p0)), .val (.int (own_b3 p0)), .val (.int (own_b4 p0)), .val (.ref b2), .unset, .unset, .unset, .unset, .unset] [])) _
    refine XS.aload X100.here hx rfl (hb hby at_147) rfl rfl ?_
    show Steps p.tables e below (T100.setTop (mkF m 149 #[.val (.int p0), .val (.int p1), .val (.int p2), .val (.int (own_b1 p0)), .val (.int (own_b2 p0)), .val (.int (own_b3 p0)), .val (.int (own_b4 p0)), .val (.ref b2), .unset, .unset, .unset, .unset, .unset] [(.ref b2)])) _
    refine XS.iconst X100.here hx rfl (hb hby at_149) ?_
    exact kt
  have f103 := (f90.other W100 (Nat.ne_of_lt (Nat.lt_of_lt_of_le V28'.lt (Nat.le_of_eq gq31.symm))))
  obtain ⟨cl104, Ar104, qk104, Sz104, Nn104, Hh104, Gg104⟩ := id f103
  have hin104 : ¬ ((3 : Int32) < 0 ∨ cl104.slots.size ≤ ((3 : Int32)).toNatClampNeg) := inb_of Sz104 ⟨by decide, by decide⟩
  have hat104 : cl104.slots[((3 : Int32)).toNatClampNeg]? = some (.ref b44) := Hh104.at hin104 rfl
  have pre105 : ∀ t, Steps p.tables e below (T100.setTop (mkF m 153 #[.val (.int p0), .val (.int p1), .val (.int p2), .val (.int (own_b1 p0)), .val (.int (own_b2 p0)), .val (.int (own_b3 p0)), .val (.int (own_b4 p0)), .val (.ref b2), .unset, .unset, .unset, .unset, .unset] [(.int (own_b3 p0)), (.ref b44)])) t → Steps p.tables e below (s₁.setTop (entryFrame m #[(.int p0), (.int p1), (.int p2)] maxLocals)) t := fun t kt => by
    refine pre102 _ ?_
    show Steps p.tables e below (T100.setTop (mkF m 150 #[.val (.int p0), .val (.int p1), .val (.int p2), .val (.int (own_b1 p0)), .val (.int (own_b2 p0)), .val (.int (own_b3 p0)), .val (.int (own_b4 p0)), .val (.ref b2), .unset, .unset, .unset, .unset, .unset] [(.int (3 : Int32)), (.ref b2)])) _
    refine X100.aaload hx (j := (3 : Int32)) (v := (.ref b44)) (by rw [e100]; exact Ar104.1) (State.isArrayOf_alike hZ.alike Ar104.2.1) rfl Ar104.2.2 hin104 hat104 (g := (mkF m 150 #[.val (.int p0), .val (.int p1), .val (.int p2), .val (.int (own_b1 p0)), .val (.int (own_b2 p0)), .val (.int (own_b3 p0)), .val (.int (own_b4 p0)), .val (.ref b2), .unset, .unset, .unset, .unset, .unset] [(.int (3 : Int32)), (.ref b2)])) rfl rfl (hb hby at_150) _ ?_
    show Steps p.tables e below (T100.setTop (mkF m 151 #[.val (.int p0), .val (.int p1), .val (.int p2), .val (.int (own_b1 p0)), .val (.int (own_b2 p0)), .val (.int (own_b3 p0)), .val (.int (own_b4 p0)), .val (.ref b2), .unset, .unset, .unset, .unset, .unset] [(.ref b44)])) _
    refine XS.iload X100.here hx rfl (hb hby at_151) rfl ?_
    exact kt
  have is3 : (own_r [(.ref b5), (.ref b18), (.ref b31), (.ref b44), (.ref b57)] (own_b3 p0)).isRef = true := own_r_is hrefs _
  have pre106 : ∀ t, Steps p.tables e below (T100.setTop (mkF m 165 #[.val (.int p0), .val (.int p1), .val (.int p2), .val (.int (own_b1 p0)), .val (.int (own_b2 p0)), .val (.int (own_b3 p0)), .val (.int (own_b4 p0)), .val (.ref b2), .unset, .unset, .unset, .unset, .unset] [(own_r [(.ref b5), (.ref b18), (.ref b31), (.ref b44), (.ref b57)] (own_b3 p0)), (.ref b44)])) t → Steps p.tables e below (s₁.setTop (entryFrame m #[(.int p0), (.int p1), (.int p2)] maxLocals)) t := fun t kt => by
    rcases lo3 with c1 | ⟨c1, c2, c3⟩
    · have pre107 : ∀ t, Steps p.tables e below (T100.setTop (mkF m 165 #[.val (.int p0), .val (.int p1), .val (.int p2), .val (.int (own_b1 p0)), .val (.int (own_b2 p0)), .val (.int (own_b3 p0)), .val (.int (own_b4 p0)), .val (.ref b2), .unset, .unset, .unset, .unset, .unset] [.null, (.ref b44)])) t → Steps p.tables e below (s₁.setTop (entryFrame m #[(.int p0), (.int p1), (.int p2)] maxLocals)) t := fun t kt => by
        refine pre105 _ ?_
        show Steps p.tables e below (T100.setTop (mkF m 153 #[.val (.int p0), .val (.int p1), .val (.int p2), .val (.int (own_b1 p0)), .val (.int (own_b2 p0)), .val (.int (own_b3 p0)), .val (.int (own_b4 p0)), .val (.ref b2), .unset, .unset, .unset, .unset, .unset] [(.int (own_b3 p0)), (.ref b44)])) _
        refine XS.ifNo X100.here hx rfl (hb hby at_153) rfl ((if0 _ _).trans (tlt (c1 : (own_b3 p0) < (0 : Int32))).2.1) ?_
        show Steps p.tables e below (T100.setTop (mkF m 156 #[.val (.int p0), .val (.int p1), .val (.int p2), .val (.int (own_b1 p0)), .val (.int (own_b2 p0)), .val (.int (own_b3 p0)), .val (.int (own_b4 p0)), .val (.ref b2), .unset, .unset, .unset, .unset, .unset] [(.ref b44)])) _
        refine XS.aconstNull X100.here hx rfl (hb hby at_156) ?_
        show Steps p.tables e below (T100.setTop (mkF m 157 #[.val (.int p0), .val (.int p1), .val (.int p2), .val (.int (own_b1 p0)), .val (.int (own_b2 p0)), .val (.int (own_b3 p0)), .val (.int (own_b4 p0)), .val (.ref b2), .unset, .unset, .unset, .unset, .unset] [.null, (.ref b44)])) _
        refine XS.goto X100.here hx rfl (pc0 := 157) (pc' := 165) rfl (hb hby at_157) (by decide) (by decide) ?_
        exact kt
      rw [show (own_r [(.ref b5), (.ref b18), (.ref b31), (.ref b44), (.ref b57)] (own_b3 p0)) = .null from if_pos c1] at kt
      exact pre107 _ kt
    · have pre108 : ∀ t, Steps p.tables e below (T100.setTop (mkF m 164 #[.val (.int p0), .val (.int p1), .val (.int p2), .val (.int (own_b1 p0)), .val (.int (own_b2 p0)), .val (.int (own_b3 p0)), .val (.int (own_b4 p0)), .val (.ref b2), .unset, .unset, .unset, .unset, .unset] [(.int (own_b3 p0)), (.ref b2), (.ref b44)])) t → Steps p.tables e below (s₁.setTop (entryFrame m #[(.int p0), (.int p1), (.int p2)] maxLocals)) t := fun t kt => by
        refine pre105 _ ?_
        show Steps p.tables e below (T100.setTop (mkF m 153 #[.val (.int p0), .val (.int p1), .val (.int p2), .val (.int (own_b1 p0)), .val (.int (own_b2 p0)), .val (.int (own_b3 p0)), .val (.int (own_b4 p0)), .val (.ref b2), .unset, .unset, .unset, .unset, .unset] [(.int (own_b3 p0)), (.ref b44)])) _
        refine XS.ifYes X100.here hx rfl (pc0 := 153) (pc' := 160) rfl (hb hby at_153) rfl ((if0 _ _).trans (flt (c1 : ¬ ((own_b3 p0) < (0 : Int32)))).2.1) (by decide) (by decide) ?_
        show Steps p.tables e below (T100.setTop (mkF m 160 #[.val (.int p0), .val (.int p1), .val (.int p2), .val (.int (own_b1 p0)), .val (.int (own_b2 p0)), .val (.int (own_b3 p0)), .val (.int (own_b4 p0)), .val (.ref b2), .unset, .unset, .unset, .unset, .unset] [(.ref b44)])) _
        refine XS.aload X100.here hx rfl (hb hby at_160) rfl rfl ?_
        show Steps p.tables e below (T100.setTop (mkF m 162 #[.val (.int p0), .val (.int p1), .val (.int p2), .val (.int (own_b1 p0)), .val (.int (own_b2 p0)), .val (.int (own_b3 p0)), .val (.int (own_b4 p0)), .val (.ref b2), .unset, .unset, .unset, .unset, .unset] [(.ref b2), (.ref b44)])) _
        refine XS.iload X100.here hx rfl (hb hby at_162) rfl ?_
        exact kt
      obtain ⟨cl109, Ar109, qk109, Sz109, Nn109, Hh109, Gg109⟩ := id f103
      have hin109 : ¬ ((own_b3 p0) < 0 ∨ cl109.slots.size ≤ ((own_b3 p0)).toNatClampNeg) := inb_of Sz109 ⟨c1, c2⟩
      have hat109 : cl109.slots[((own_b3 p0)).toNatClampNeg]? = some (([(.ref b5), (.ref b18), (.ref b31), (.ref b44), (.ref b57)] : List Value).getD (own_b3 p0).toNatClampNeg .null) := Hh109.at hin109 rfl
      have isv109 : ((([(.ref b5), (.ref b18), (.ref b31), (.ref b44), (.ref b57)] : List Value).getD (own_b3 p0).toNatClampNeg .null)).isRef = true := fit_R (Gg109 _ (Nat.lt_of_not_le fun y => hin109 (Or.inr y))) rfl
      have catv109 : ((([(.ref b5), (.ref b18), (.ref b31), (.ref b44), (.ref b57)] : List Value).getD (own_b3 p0).toNatClampNeg .null)).category = 1 := by rcases ref_cases isv109 with q | ⟨_, q⟩ <;> rw [q] <;> rfl
      have pre110 : ∀ t, Steps p.tables e below (T100.setTop (mkF m 165 #[.val (.int p0), .val (.int p1), .val (.int p2), .val (.int (own_b1 p0)), .val (.int (own_b2 p0)), .val (.int (own_b3 p0)), .val (.int (own_b4 p0)), .val (.ref b2), .unset, .unset, .unset, .unset, .unset] [(([(.ref b5), (.ref b18), (.ref b31), (.ref b44), (.ref b57)] : List Value).getD (own_b3 p0).toNatClampNeg .null), (.ref b44)])) t → Steps p.tables e below (s₁.setTop (entryFrame m #[(.int p0), (.int p1), (.int p2)] maxLocals)) t := fun t kt => by
        refine pre108 _ ?_
        show Steps p.tables e below (T100.setTop (mkF m 164 #[.val (.int p0), .val (.int p1), .val (.int p2), .val (.int (own_b1 p0)), .val (.int (own_b2 p0)), .val (.int (own_b3 p0)), .val (.int (own_b4 p0)), .val (.ref b2), .unset, .unset, .unset, .unset, .unset] [(.int (own_b3 p0)), (.ref b2), (.ref b44)])) _
        refine X100.aaload hx (j := (own_b3 p0)) (v := (([(.ref b5), (.ref b18), (.ref b31), (.ref b44), (.ref b57)] : List Value).getD (own_b3 p0).toNatClampNeg .null)) (by rw [e100]; exact Ar109.1) (State.isArrayOf_alike hZ.alike Ar109.2.1) rfl Ar109.2.2 hin109 hat109 (g := (mkF m 164 #[.val (.int p0), .val (.int p1), .val (.int p2), .val (.int (own_b1 p0)), .val (.int (own_b2 p0)), .val (.int (own_b3 p0)), .val (.int (own_b4 p0)), .val (.ref b2), .unset, .unset, .unset, .unset, .unset] [(.int (own_b3 p0)), (.ref b2), (.ref b44)])) rfl rfl (hb hby at_164) _ ?_
        exact kt
      rw [show (own_r [(.ref b5), (.ref b18), (.ref b31), (.ref b44), (.ref b57)] (own_b3 p0)) = (([(.ref b5), (.ref b18), (.ref b31), (.ref b44), (.ref b57)] : List Value).getD (own_b3 p0).toNatClampNeg .null) from if_neg c1] at kt
      exact pre110 _ kt
  have f111 := (((((((Fb49.other W54 (Or.inl (Ne.symm (Nat.ne_of_lt (Nat.lt_of_lt_of_le V41'.lt (Nat.le_of_eq gq44.symm)))))).ext E57).keep K62 (ninS (Nat.ne_of_lt (Nat.lt_of_lt_of_le (f53.wr W54).lt (Nat.le_of_eq gq57.symm))) nin0)).other W67 (Or.inl (Ne.symm (Nat.ne_of_lt (Nat.lt_of_lt_of_le V41'.lt (Nat.le_of_eq gq44.symm)))))).other W74 (Or.inl (Ne.symm (Nat.ne_of_lt (Nat.lt_of_lt_of_le (((((((f14.wr W15).ext E18).keep K23).wr W28).ext E31).keep K36).wr W41).lt (Nat.le_of_eq gq44.symm)))))).other W87 (Or.inl (Ne.symm (Nat.ne_of_lt (Nat.lt_of_lt_of_le ((((f27.wr W28).ext E31).keep K36).wr W41).lt (Nat.le_of_eq gq44.symm)))))).other W100 (Or.inl (Ne.symm (Nat.ne_of_lt (Nat.lt_of_lt_of_le (f40.wr W41).lt (Nat.le_of_eq gq44.symm))))))
  have f112 := (((((((f53.wr W54).ext E57).keep K62).wr W67).wr W74).wr W87).wr W100)
  obtain ⟨T113, h113, X113, e113, W113, st113⟩ := putF X100 hx hZ hown (host := "") (Or.inl (hw _ (List.mem_of_getElem? (i := 19) rfl))) Via.refl e100 f111 f112 (Or.inl (hw _ (List.mem_of_getElem? (i := 20) rfl))) (hw _ (List.mem_of_getElem? (i := 2) rfl)) (ty := (.object "com/example/labbrief/labbrief/cda/SchemaModel$ComplexType")) (by decide) (own_nar is3) (own_fit is3) (g := (mkF m 165 #[.val (.int p0), .val (.int p1), .val (.int p2), .val (.int (own_b1 p0)), .val (.int (own_b2 p0)), .val (.int (own_b3 p0)), .val (.int (own_b4 p0)), .val (.ref b2), .unset, .unset, .unset, .unset, .unset] [(own_r [(.ref b5), (.ref b18), (.ref b31), (.ref b44), (.ref b57)] (own_b3 p0)), (.ref b44)])) rfl rfl (hb hby at_165)
  have Fw113 := f111.same W113
  have N113 := Fr.snoc X113 N100 gg_b44
  have pre114 : ∀ t, Steps p.tables e below (T113.setTop (mkF m 168 #[.val (.int p0), .val (.int p1), .val (.int p2), .val (.int (own_b1 p0)), .val (.int (own_b2 p0)), .val (.int (own_b3 p0)), .val (.int (own_b4 p0)), .val (.ref b2), .unset, .unset, .unset, .unset, .unset] [])) t → Steps p.tables e below (s₁.setTop (entryFrame m #[(.int p0), (.int p1), (.int p2)] maxLocals)) t := fun t kt => pre106 _ (st113 _ kt)
  have pre115 : ∀ t, Steps p.tables e below (T113.setTop (mkF m 171 #[.val (.int p0), .val (.int p1), .val (.int p2), .val (.int (own_b1 p0)), .val (.int (own_b2 p0)), .val (.int (own_b3 p0)), .val (.int (own_b4 p0)), .val (.ref b2), .unset, .unset, .unset, .unset, .unset] [(.int (4 : Int32)), (.ref b2)])) t → Steps p.tables e below (s₁.setTop (entryFrame m #[(.int p0), (.int p1), (.int p2)] maxLocals)) t := fun t kt => by
    refine pre114 _ ?_
    show Steps p.tables e below (T113.setTop (mkF m 168 #[.val (.int p0), .val (.int p1), .val (.int p2), .val (.int (own_b1 p0)), .val (.int (own_b2 p0)), .val (.int (own_b3 p0)), .val (.int (own_b4 p0)), .val (.ref b2), .unset, .unset, .unset, .unset, .unset] [])) _
    refine XS.aload X113.here hx rfl (hb hby at_168) rfl rfl ?_
    show Steps p.tables e below (T113.setTop (mkF m 170 #[.val (.int p0), .val (.int p1), .val (.int p2), .val (.int (own_b1 p0)), .val (.int (own_b2 p0)), .val (.int (own_b3 p0)), .val (.int (own_b4 p0)), .val (.ref b2), .unset, .unset, .unset, .unset, .unset] [(.ref b2)])) _
    refine XS.iconst X113.here hx rfl (hb hby at_170) ?_
    exact kt
  have f116 := (f103.other W113 (Nat.ne_of_lt (Nat.lt_of_lt_of_le V41'.lt (Nat.le_of_eq gq44.symm))))
  obtain ⟨cl117, Ar117, qk117, Sz117, Nn117, Hh117, Gg117⟩ := id f116
  have hin117 : ¬ ((4 : Int32) < 0 ∨ cl117.slots.size ≤ ((4 : Int32)).toNatClampNeg) := inb_of Sz117 ⟨by decide, by decide⟩
  have hat117 : cl117.slots[((4 : Int32)).toNatClampNeg]? = some (.ref b57) := Hh117.at hin117 rfl
  have pre118 : ∀ t, Steps p.tables e below (T113.setTop (mkF m 174 #[.val (.int p0), .val (.int p1), .val (.int p2), .val (.int (own_b1 p0)), .val (.int (own_b2 p0)), .val (.int (own_b3 p0)), .val (.int (own_b4 p0)), .val (.ref b2), .unset, .unset, .unset, .unset, .unset] [(.int (own_b4 p0)), (.ref b57)])) t → Steps p.tables e below (s₁.setTop (entryFrame m #[(.int p0), (.int p1), (.int p2)] maxLocals)) t := fun t kt => by
    refine pre115 _ ?_
    show Steps p.tables e below (T113.setTop (mkF m 171 #[.val (.int p0), .val (.int p1), .val (.int p2), .val (.int (own_b1 p0)), .val (.int (own_b2 p0)), .val (.int (own_b3 p0)), .val (.int (own_b4 p0)), .val (.ref b2), .unset, .unset, .unset, .unset, .unset] [(.int (4 : Int32)), (.ref b2)])) _
    refine X113.aaload hx (j := (4 : Int32)) (v := (.ref b57)) (by rw [e113]; exact Ar117.1) (State.isArrayOf_alike hZ.alike Ar117.2.1) rfl Ar117.2.2 hin117 hat117 (g := (mkF m 171 #[.val (.int p0), .val (.int p1), .val (.int p2), .val (.int (own_b1 p0)), .val (.int (own_b2 p0)), .val (.int (own_b3 p0)), .val (.int (own_b4 p0)), .val (.ref b2), .unset, .unset, .unset, .unset, .unset] [(.int (4 : Int32)), (.ref b2)])) rfl rfl (hb hby at_171) _ ?_
    show Steps p.tables e below (T113.setTop (mkF m 172 #[.val (.int p0), .val (.int p1), .val (.int p2), .val (.int (own_b1 p0)), .val (.int (own_b2 p0)), .val (.int (own_b3 p0)), .val (.int (own_b4 p0)), .val (.ref b2), .unset, .unset, .unset, .unset, .unset] [(.ref b57)])) _
    refine XS.iload X113.here hx rfl (hb hby at_172) rfl ?_
    exact kt
  have is4 : (own_r [(.ref b5), (.ref b18), (.ref b31), (.ref b44), (.ref b57)] (own_b4 p0)).isRef = true := own_r_is hrefs _
  have pre119 : ∀ t, Steps p.tables e below (T113.setTop (mkF m 186 #[.val (.int p0), .val (.int p1), .val (.int p2), .val (.int (own_b1 p0)), .val (.int (own_b2 p0)), .val (.int (own_b3 p0)), .val (.int (own_b4 p0)), .val (.ref b2), .unset, .unset, .unset, .unset, .unset] [(own_r [(.ref b5), (.ref b18), (.ref b31), (.ref b44), (.ref b57)] (own_b4 p0)), (.ref b57)])) t → Steps p.tables e below (s₁.setTop (entryFrame m #[(.int p0), (.int p1), (.int p2)] maxLocals)) t := fun t kt => by
    rcases lo4 with c1 | ⟨c1, c2, c3⟩
    · have pre120 : ∀ t, Steps p.tables e below (T113.setTop (mkF m 186 #[.val (.int p0), .val (.int p1), .val (.int p2), .val (.int (own_b1 p0)), .val (.int (own_b2 p0)), .val (.int (own_b3 p0)), .val (.int (own_b4 p0)), .val (.ref b2), .unset, .unset, .unset, .unset, .unset] [.null, (.ref b57)])) t → Steps p.tables e below (s₁.setTop (entryFrame m #[(.int p0), (.int p1), (.int p2)] maxLocals)) t := fun t kt => by
        refine pre118 _ ?_
        show Steps p.tables e below (T113.setTop (mkF m 174 #[.val (.int p0), .val (.int p1), .val (.int p2), .val (.int (own_b1 p0)), .val (.int (own_b2 p0)), .val (.int (own_b3 p0)), .val (.int (own_b4 p0)), .val (.ref b2), .unset, .unset, .unset, .unset, .unset] [(.int (own_b4 p0)), (.ref b57)])) _
        refine XS.ifNo X113.here hx rfl (hb hby at_174) rfl ((if0 _ _).trans (tlt (c1 : (own_b4 p0) < (0 : Int32))).2.1) ?_
        show Steps p.tables e below (T113.setTop (mkF m 177 #[.val (.int p0), .val (.int p1), .val (.int p2), .val (.int (own_b1 p0)), .val (.int (own_b2 p0)), .val (.int (own_b3 p0)), .val (.int (own_b4 p0)), .val (.ref b2), .unset, .unset, .unset, .unset, .unset] [(.ref b57)])) _
        refine XS.aconstNull X113.here hx rfl (hb hby at_177) ?_
        show Steps p.tables e below (T113.setTop (mkF m 178 #[.val (.int p0), .val (.int p1), .val (.int p2), .val (.int (own_b1 p0)), .val (.int (own_b2 p0)), .val (.int (own_b3 p0)), .val (.int (own_b4 p0)), .val (.ref b2), .unset, .unset, .unset, .unset, .unset] [.null, (.ref b57)])) _
        refine XS.goto X113.here hx rfl (pc0 := 178) (pc' := 186) rfl (hb hby at_178) (by decide) (by decide) ?_
        exact kt
      rw [show (own_r [(.ref b5), (.ref b18), (.ref b31), (.ref b44), (.ref b57)] (own_b4 p0)) = .null from if_pos c1] at kt
      exact pre120 _ kt
    · have pre121 : ∀ t, Steps p.tables e below (T113.setTop (mkF m 185 #[.val (.int p0), .val (.int p1), .val (.int p2), .val (.int (own_b1 p0)), .val (.int (own_b2 p0)), .val (.int (own_b3 p0)), .val (.int (own_b4 p0)), .val (.ref b2), .unset, .unset, .unset, .unset, .unset] [(.int (own_b4 p0)), (.ref b2), (.ref b57)])) t → Steps p.tables e below (s₁.setTop (entryFrame m #[(.int p0), (.int p1), (.int p2)] maxLocals)) t := fun t kt => by
        refine pre118 _ ?_
        show Steps p.tables e below (T113.setTop (mkF m 174 #[.val (.int p0), .val (.int p1), .val (.int p2), .val (.int (own_b1 p0)), .val (.int (own_b2 p0)), .val (.int (own_b3 p0)), .val (.int (own_b4 p0)), .val (.ref b2), .unset, .unset, .unset, .unset, .unset] [(.int (own_b4 p0)), (.ref b57)])) _
        refine XS.ifYes X113.here hx rfl (pc0 := 174) (pc' := 181) rfl (hb hby at_174) rfl ((if0 _ _).trans (flt (c1 : ¬ ((own_b4 p0) < (0 : Int32)))).2.1) (by decide) (by decide) ?_
        show Steps p.tables e below (T113.setTop (mkF m 181 #[.val (.int p0), .val (.int p1), .val (.int p2), .val (.int (own_b1 p0)), .val (.int (own_b2 p0)), .val (.int (own_b3 p0)), .val (.int (own_b4 p0)), .val (.ref b2), .unset, .unset, .unset, .unset, .unset] [(.ref b57)])) _
        refine XS.aload X113.here hx rfl (hb hby at_181) rfl rfl ?_
        show Steps p.tables e below (T113.setTop (mkF m 183 #[.val (.int p0), .val (.int p1), .val (.int p2), .val (.int (own_b1 p0)), .val (.int (own_b2 p0)), .val (.int (own_b3 p0)), .val (.int (own_b4 p0)), .val (.ref b2), .unset, .unset, .unset, .unset, .unset] [(.ref b2), (.ref b57)])) _
        refine XS.iload X113.here hx rfl (hb hby at_183) rfl ?_
        exact kt
      obtain ⟨cl122, Ar122, qk122, Sz122, Nn122, Hh122, Gg122⟩ := id f116
      have hin122 : ¬ ((own_b4 p0) < 0 ∨ cl122.slots.size ≤ ((own_b4 p0)).toNatClampNeg) := inb_of Sz122 ⟨c1, c2⟩
      have hat122 : cl122.slots[((own_b4 p0)).toNatClampNeg]? = some (([(.ref b5), (.ref b18), (.ref b31), (.ref b44), (.ref b57)] : List Value).getD (own_b4 p0).toNatClampNeg .null) := Hh122.at hin122 rfl
      have isv122 : ((([(.ref b5), (.ref b18), (.ref b31), (.ref b44), (.ref b57)] : List Value).getD (own_b4 p0).toNatClampNeg .null)).isRef = true := fit_R (Gg122 _ (Nat.lt_of_not_le fun y => hin122 (Or.inr y))) rfl
      have catv122 : ((([(.ref b5), (.ref b18), (.ref b31), (.ref b44), (.ref b57)] : List Value).getD (own_b4 p0).toNatClampNeg .null)).category = 1 := by rcases ref_cases isv122 with q | ⟨_, q⟩ <;> rw [q] <;> rfl
      have pre123 : ∀ t, Steps p.tables e below (T113.setTop (mkF m 186 #[.val (.int p0), .val (.int p1), .val (.int p2), .val (.int (own_b1 p0)), .val (.int (own_b2 p0)), .val (.int (own_b3 p0)), .val (.int (own_b4 p0)), .val (.ref b2), .unset, .unset, .unset, .unset, .unset] [(([(.ref b5), (.ref b18), (.ref b31), (.ref b44), (.ref b57)] : List Value).getD (own_b4 p0).toNatClampNeg .null), (.ref b57)])) t → Steps p.tables e below (s₁.setTop (entryFrame m #[(.int p0), (.int p1), (.int p2)] maxLocals)) t := fun t kt => by
        refine pre121 _ ?_
        show Steps p.tables e below (T113.setTop (mkF m 185 #[.val (.int p0), .val (.int p1), .val (.int p2), .val (.int (own_b1 p0)), .val (.int (own_b2 p0)), .val (.int (own_b3 p0)), .val (.int (own_b4 p0)), .val (.ref b2), .unset, .unset, .unset, .unset, .unset] [(.int (own_b4 p0)), (.ref b2), (.ref b57)])) _
        refine X113.aaload hx (j := (own_b4 p0)) (v := (([(.ref b5), (.ref b18), (.ref b31), (.ref b44), (.ref b57)] : List Value).getD (own_b4 p0).toNatClampNeg .null)) (by rw [e113]; exact Ar122.1) (State.isArrayOf_alike hZ.alike Ar122.2.1) rfl Ar122.2.2 hin122 hat122 (g := (mkF m 185 #[.val (.int p0), .val (.int p1), .val (.int p2), .val (.int (own_b1 p0)), .val (.int (own_b2 p0)), .val (.int (own_b3 p0)), .val (.int (own_b4 p0)), .val (.ref b2), .unset, .unset, .unset, .unset, .unset] [(.int (own_b4 p0)), (.ref b2), (.ref b57)])) rfl rfl (hb hby at_185) _ ?_
        exact kt
      rw [show (own_r [(.ref b5), (.ref b18), (.ref b31), (.ref b44), (.ref b57)] (own_b4 p0)) = (([(.ref b5), (.ref b18), (.ref b31), (.ref b44), (.ref b57)] : List Value).getD (own_b4 p0).toNatClampNeg .null) from if_neg c1] at kt
      exact pre123 _ kt
  have f124 := (((((Fb62.other W67 (Or.inl (Ne.symm (Nat.ne_of_lt (Nat.lt_of_lt_of_le V54'.lt (Nat.le_of_eq gq57.symm)))))).other W74 (Or.inl (Ne.symm (Nat.ne_of_lt (Nat.lt_of_lt_of_le ((((((((((f14.wr W15).ext E18).keep K23).wr W28).ext E31).keep K36).wr W41).ext E44).keep K49).wr W54).lt (Nat.le_of_eq gq57.symm)))))).other W87 (Or.inl (Ne.symm (Nat.ne_of_lt (Nat.lt_of_lt_of_le (((((((f27.wr W28).ext E31).keep K36).wr W41).ext E44).keep K49).wr W54).lt (Nat.le_of_eq gq57.symm)))))).other W100 (Or.inl (Ne.symm (Nat.ne_of_lt (Nat.lt_of_lt_of_le ((((f40.wr W41).ext E44).keep K49).wr W54).lt (Nat.le_of_eq gq57.symm)))))).other W113 (Or.inl (Ne.symm (Nat.ne_of_lt (Nat.lt_of_lt_of_le (f53.wr W54).lt (Nat.le_of_eq gq57.symm))))))
  have f125 := (((((f66.wr W67).wr W74).wr W87).wr W100).wr W113)
  obtain ⟨T126, h126, X126, e126, W126, st126⟩ := putF X113 hx hZ hown (host := "") (Or.inl (hw _ (List.mem_of_getElem? (i := 19) rfl))) Via.refl e113 f124 f125 (Or.inl (hw _ (List.mem_of_getElem? (i := 20) rfl))) (hw _ (List.mem_of_getElem? (i := 2) rfl)) (ty := (.object "com/example/labbrief/labbrief/cda/SchemaModel$ComplexType")) (by decide) (own_nar is4) (own_fit is4) (g := (mkF m 186 #[.val (.int p0), .val (.int p1), .val (.int p2), .val (.int (own_b1 p0)), .val (.int (own_b2 p0)), .val (.int (own_b3 p0)), .val (.int (own_b4 p0)), .val (.ref b2), .unset, .unset, .unset, .unset, .unset] [(own_r [(.ref b5), (.ref b18), (.ref b31), (.ref b44), (.ref b57)] (own_b4 p0)), (.ref b57)])) rfl rfl (hb hby at_186)
  have Fw126 := f124.same W126
  have N126 := Fr.snoc X126 N113 gg_b57
  have pre127 : ∀ t, Steps p.tables e below (T126.setTop (mkF m 189 #[.val (.int p0), .val (.int p1), .val (.int p2), .val (.int (own_b1 p0)), .val (.int (own_b2 p0)), .val (.int (own_b3 p0)), .val (.int (own_b4 p0)), .val (.ref b2), .unset, .unset, .unset, .unset, .unset] [])) t → Steps p.tables e below (s₁.setTop (entryFrame m #[(.int p0), (.int p1), (.int p2)] maxLocals)) t := fun t kt => pre119 _ (st126 _ kt)
  have pre128 : ∀ t, Steps p.tables e below (T126.setTop (mkF m 190 #[.val (.int p0), .val (.int p1), .val (.int p2), .val (.int (own_b1 p0)), .val (.int (own_b2 p0)), .val (.int (own_b3 p0)), .val (.int (own_b4 p0)), .val (.ref b2), .unset, .unset, .unset, .unset, .unset] [(.int (5 : Int32))])) t → Steps p.tables e below (s₁.setTop (entryFrame m #[(.int p0), (.int p1), (.int p2)] maxLocals)) t := fun t kt => by
    refine pre127 _ ?_
    show Steps p.tables e below (T126.setTop (mkF m 189 #[.val (.int p0), .val (.int p1), .val (.int p2), .val (.int (own_b1 p0)), .val (.int (own_b2 p0)), .val (.int (own_b3 p0)), .val (.int (own_b4 p0)), .val (.ref b2), .unset, .unset, .unset, .unset, .unset] [])) _
    refine XS.iconst X126.here hx rfl (hb hby at_189) ?_
    exact kt
  obtain ⟨T129, h129, k129, X129, e129, E129, A129, st129⟩ := newP X126 hx hZ (hw _ (List.mem_of_getElem? (i := 21) rfl)) e126 (g := (mkF m 190 #[.val (.int p0), .val (.int p1), .val (.int p2), .val (.int (own_b1 p0)), .val (.int (own_b2 p0)), .val (.int (own_b3 p0)), .val (.int (own_b4 p0)), .val (.ref b2), .unset, .unset, .unset, .unset, .unset] [(.int (5 : Int32))])) rfl (hb hby at_190) rfl (by decide) (cap := 5) (by decide) (by decide) (by decide) (by decide)
  obtain ⟨b129, gq129⟩ : ∃ z, z = h126.size := ⟨_, rfl⟩
  rw [← gq129] at A129 st129
  have z130 : n0 ≤ h126.size := (Nat.le_trans (Nat.le_trans (Nat.le_trans (Nat.le_trans (Nat.le_trans (Nat.le_trans (Nat.le_trans (Nat.le_trans z58 E57.1) K62.1) (Keep.of_wr W67).1) (Keep.of_wr W74).1) (Keep.of_wr W87).1) (Keep.of_wr W100).1) (Keep.of_wr W113).1) (Keep.of_wr W126).1)
  have gg_b129 : n0 ≤ b129 := Nat.le_trans z130 (Nat.le_of_eq gq129.symm)
  have V129 : Arv Z h129 b129 k129 .int (5 : Int32) [(.int (0 : Int32)), (.int (0 : Int32)), (.int (0 : Int32)), (.int (0 : Int32)), (.int (0 : Int32))] (.int (0 : Int32)) := (Arv.new A129 (by decide)).pad (pad_rep [] (.int (0 : Int32)) 5)
  have pre131 : ∀ t, Steps p.tables e below (T129.setTop (mkF m 192 #[.val (.int p0), .val (.int p1), .val (.int p2), .val (.int (own_b1 p0)), .val (.int (own_b2 p0)), .val (.int (own_b3 p0)), .val (.int (own_b4 p0)), .val (.ref b2), .unset, .unset, .unset, .unset, .unset] [(.ref b129)])) t → Steps p.tables e below (s₁.setTop (entryFrame m #[(.int p0), (.int p1), (.int p2)] maxLocals)) t := fun t kt => pre128 _ (st129 _ kt)
  obtain ⟨cl132, Ar132, qk132, Sz132, Nn132, Hh132, Gg132⟩ := id V129
  have hin132 : ¬ ((0 : Int32) < 0 ∨ cl132.slots.size ≤ ((0 : Int32)).toNatClampNeg) := inb_of Sz132 ⟨by decide, by decide⟩
  have pre133 : ∀ t, Steps p.tables e below (T129.setTop (mkF m 198 #[.val (.int p0), .val (.int p1), .val (.int p2), .val (.int (own_b1 p0)), .val (.int (own_b2 p0)), .val (.int (own_b3 p0)), .val (.int (own_b4 p0)), .val (.ref b2), .val (.ref b129), .unset, .unset, .unset, .unset] [(.int (1 : Int32)), (.int (0 : Int32)), (.ref b129)])) t → Steps p.tables e below (s₁.setTop (entryFrame m #[(.int p0), (.int p1), (.int p2)] maxLocals)) t := fun t kt => by
    refine pre131 _ ?_
    show Steps p.tables e below (T129.setTop (mkF m 192 #[.val (.int p0), .val (.int p1), .val (.int p2), .val (.int (own_b1 p0)), .val (.int (own_b2 p0)), .val (.int (own_b3 p0)), .val (.int (own_b4 p0)), .val (.ref b2), .unset, .unset, .unset, .unset, .unset] [(.ref b129)])) _
    refine XS.astore X129.here hx rfl (hb hby at_192) rfl rfl (l' := #[.val (.int p0), .val (.int p1), .val (.int p2), .val (.int (own_b1 p0)), .val (.int (own_b2 p0)), .val (.int (own_b3 p0)), .val (.int (own_b4 p0)), .val (.ref b2), .val (.ref b129), .unset, .unset, .unset, .unset]) rfl ?_
    show Steps p.tables e below (T129.setTop (mkF m 194 #[.val (.int p0), .val (.int p1), .val (.int p2), .val (.int (own_b1 p0)), .val (.int (own_b2 p0)), .val (.int (own_b3 p0)), .val (.int (own_b4 p0)), .val (.ref b2), .val (.ref b129), .unset, .unset, .unset, .unset] [])) _
    refine XS.aload X129.here hx rfl (hb hby at_194) rfl rfl ?_
    show Steps p.tables e below (T129.setTop (mkF m 196 #[.val (.int p0), .val (.int p1), .val (.int p2), .val (.int (own_b1 p0)), .val (.int (own_b2 p0)), .val (.int (own_b3 p0)), .val (.int (own_b4 p0)), .val (.ref b2), .val (.ref b129), .unset, .unset, .unset, .unset] [(.ref b129)])) _
    refine XS.iconst X129.here hx rfl (hb hby at_196) ?_
    show Steps p.tables e below (T129.setTop (mkF m 197 #[.val (.int p0), .val (.int p1), .val (.int p2), .val (.int (own_b1 p0)), .val (.int (own_b2 p0)), .val (.int (own_b3 p0)), .val (.int (own_b4 p0)), .val (.ref b2), .val (.ref b129), .unset, .unset, .unset, .unset] [(.int (0 : Int32)), (.ref b129)])) _
    refine XS.iconst X129.here hx rfl (hb hby at_197) ?_
    exact kt
  obtain ⟨T134, h134, X134, e134, W134, st134⟩ := stI X129 hx hZ e129 Ar132 (j := (0 : Int32)) hin132 (g := (mkF m 198 #[.val (.int p0), .val (.int p1), .val (.int p2), .val (.int (own_b1 p0)), .val (.int (own_b2 p0)), .val (.int (own_b3 p0)), .val (.int (own_b4 p0)), .val (.ref b2), .val (.ref b129), .unset, .unset, .unset, .unset] [(.int (1 : Int32)), (.int (0 : Int32)), (.ref b129)])) rfl rfl (hb hby at_198)
  have V134 := Arv.set Ar132 qk132 Sz132 Nn132 Hh132 Gg132 rfl W134 0 rfl (Nat.le_of_ble_eq_true rfl)
  have V134' : Arv Z h134 b129 k129 .int (5 : Int32) [(.int (1 : Int32)), (.int (0 : Int32)), (.int (0 : Int32)), (.int (0 : Int32)), (.int (0 : Int32))] (.int (0 : Int32)) := V134
  have N134 := Fr.snoc X134 N126 gg_b129
  have pre135 : ∀ t, Steps p.tables e below (T134.setTop (mkF m 199 #[.val (.int p0), .val (.int p1), .val (.int p2), .val (.int (own_b1 p0)), .val (.int (own_b2 p0)), .val (.int (own_b3 p0)), .val (.int (own_b4 p0)), .val (.ref b2), .val (.ref b129), .unset, .unset, .unset, .unset] [])) t → Steps p.tables e below (s₁.setTop (entryFrame m #[(.int p0), (.int p1), (.int p2)] maxLocals)) t := fun t kt => pre133 _ (st134 _ kt)
  have pre136 : ∀ t, Steps p.tables e below (T134.setTop (mkF m 204 #[.val (.int p0), .val (.int p1), .val (.int p2), .val (.int (own_b1 p0)), .val (.int (own_b2 p0)), .val (.int (own_b3 p0)), .val (.int (own_b4 p0)), .val (.ref b2), .val (.ref b129), .unset, .unset, .unset, .unset] [(.int (own_b1 p0)), (.int (2 : Int32)), (.int (1 : Int32)), (.ref b129)])) t → Steps p.tables e below (s₁.setTop (entryFrame m #[(.int p0), (.int p1), (.int p2)] maxLocals)) t := fun t kt => by
    refine pre135 _ ?_
    show Steps p.tables e below (T134.setTop (mkF m 199 #[.val (.int p0), .val (.int p1), .val (.int p2), .val (.int (own_b1 p0)), .val (.int (own_b2 p0)), .val (.int (own_b3 p0)), .val (.int (own_b4 p0)), .val (.ref b2), .val (.ref b129), .unset, .unset, .unset, .unset] [])) _
    refine XS.aload X134.here hx rfl (hb hby at_199) rfl rfl ?_
    show Steps p.tables e below (T134.setTop (mkF m 201 #[.val (.int p0), .val (.int p1), .val (.int p2), .val (.int (own_b1 p0)), .val (.int (own_b2 p0)), .val (.int (own_b3 p0)), .val (.int (own_b4 p0)), .val (.ref b2), .val (.ref b129), .unset, .unset, .unset, .unset] [(.ref b129)])) _
    refine XS.iconst X134.here hx rfl (hb hby at_201) ?_
    show Steps p.tables e below (T134.setTop (mkF m 202 #[.val (.int p0), .val (.int p1), .val (.int p2), .val (.int (own_b1 p0)), .val (.int (own_b2 p0)), .val (.int (own_b3 p0)), .val (.int (own_b4 p0)), .val (.ref b2), .val (.ref b129), .unset, .unset, .unset, .unset] [(.int (1 : Int32)), (.ref b129)])) _
    refine XS.iconst X134.here hx rfl (hb hby at_202) ?_
    show Steps p.tables e below (T134.setTop (mkF m 203 #[.val (.int p0), .val (.int p1), .val (.int p2), .val (.int (own_b1 p0)), .val (.int (own_b2 p0)), .val (.int (own_b3 p0)), .val (.int (own_b4 p0)), .val (.ref b2), .val (.ref b129), .unset, .unset, .unset, .unset] [(.int (2 : Int32)), (.int (1 : Int32)), (.ref b129)])) _
    refine XS.iloadN X134.here hx rfl (hb hby at_203) rfl ?_
    exact kt
  have pre137 : ∀ t, Steps p.tables e below (T134.setTop (mkF m 215 #[.val (.int p0), .val (.int p1), .val (.int p2), .val (.int (own_b1 p0)), .val (.int (own_b2 p0)), .val (.int (own_b3 p0)), .val (.int (own_b4 p0)), .val (.ref b2), .val (.ref b129), .unset, .unset, .unset, .unset] [(.int (own_g [(1 : Int32), (0 : Int32), (0 : Int32), (0 : Int32), (0 : Int32)] (own_b1 p0))), (.int (2 : Int32)), (.int (1 : Int32)), (.ref b129)])) t → Steps p.tables e below (s₁.setTop (entryFrame m #[(.int p0), (.int p1), (.int p2)] maxLocals)) t := fun t kt => by
    rcases lo1 with c1 | ⟨c1, c2, c3⟩
    · have pre138 : ∀ t, Steps p.tables e below (T134.setTop (mkF m 215 #[.val (.int p0), .val (.int p1), .val (.int p2), .val (.int (own_b1 p0)), .val (.int (own_b2 p0)), .val (.int (own_b3 p0)), .val (.int (own_b4 p0)), .val (.ref b2), .val (.ref b129), .unset, .unset, .unset, .unset] [(.int (0 : Int32)), (.int (2 : Int32)), (.int (1 : Int32)), (.ref b129)])) t → Steps p.tables e below (s₁.setTop (entryFrame m #[(.int p0), (.int p1), (.int p2)] maxLocals)) t := fun t kt => by
        refine pre136 _ ?_
        show Steps p.tables e below (T134.setTop (mkF m 204 #[.val (.int p0), .val (.int p1), .val (.int p2), .val (.int (own_b1 p0)), .val (.int (own_b2 p0)), .val (.int (own_b3 p0)), .val (.int (own_b4 p0)), .val (.ref b2), .val (.ref b129), .unset, .unset, .unset, .unset] [(.int (own_b1 p0)), (.int (2 : Int32)), (.int (1 : Int32)), (.ref b129)])) _
        refine XS.ifNo X134.here hx rfl (hb hby at_204) rfl ((if0 _ _).trans (tlt (c1 : (own_b1 p0) < (0 : Int32))).2.1) ?_
        show Steps p.tables e below (T134.setTop (mkF m 207 #[.val (.int p0), .val (.int p1), .val (.int p2), .val (.int (own_b1 p0)), .val (.int (own_b2 p0)), .val (.int (own_b3 p0)), .val (.int (own_b4 p0)), .val (.ref b2), .val (.ref b129), .unset, .unset, .unset, .unset] [(.int (2 : Int32)), (.int (1 : Int32)), (.ref b129)])) _
        refine XS.iconst X134.here hx rfl (hb hby at_207) ?_
        show Steps p.tables e below (T134.setTop (mkF m 208 #[.val (.int p0), .val (.int p1), .val (.int p2), .val (.int (own_b1 p0)), .val (.int (own_b2 p0)), .val (.int (own_b3 p0)), .val (.int (own_b4 p0)), .val (.ref b2), .val (.ref b129), .unset, .unset, .unset, .unset] [(.int (0 : Int32)), (.int (2 : Int32)), (.int (1 : Int32)), (.ref b129)])) _
        refine XS.goto X134.here hx rfl (pc0 := 208) (pc' := 215) rfl (hb hby at_208) (by decide) (by decide) ?_
        exact kt
      rw [show (own_g [(1 : Int32), (0 : Int32), (0 : Int32), (0 : Int32), (0 : Int32)] (own_b1 p0)) = (0 : Int32) from if_pos c1] at kt
      exact pre138 _ kt
    · have pre139 : ∀ t, Steps p.tables e below (T134.setTop (mkF m 214 #[.val (.int p0), .val (.int p1), .val (.int p2), .val (.int (own_b1 p0)), .val (.int (own_b2 p0)), .val (.int (own_b3 p0)), .val (.int (own_b4 p0)), .val (.ref b2), .val (.ref b129), .unset, .unset, .unset, .unset] [(.int (own_b1 p0)), (.ref b129), (.int (2 : Int32)), (.int (1 : Int32)), (.ref b129)])) t → Steps p.tables e below (s₁.setTop (entryFrame m #[(.int p0), (.int p1), (.int p2)] maxLocals)) t := fun t kt => by
        refine pre136 _ ?_
        show Steps p.tables e below (T134.setTop (mkF m 204 #[.val (.int p0), .val (.int p1), .val (.int p2), .val (.int (own_b1 p0)), .val (.int (own_b2 p0)), .val (.int (own_b3 p0)), .val (.int (own_b4 p0)), .val (.ref b2), .val (.ref b129), .unset, .unset, .unset, .unset] [(.int (own_b1 p0)), (.int (2 : Int32)), (.int (1 : Int32)), (.ref b129)])) _
        refine XS.ifYes X134.here hx rfl (pc0 := 204) (pc' := 211) rfl (hb hby at_204) rfl ((if0 _ _).trans (flt (c1 : ¬ ((own_b1 p0) < (0 : Int32)))).2.1) (by decide) (by decide) ?_
        show Steps p.tables e below (T134.setTop (mkF m 211 #[.val (.int p0), .val (.int p1), .val (.int p2), .val (.int (own_b1 p0)), .val (.int (own_b2 p0)), .val (.int (own_b3 p0)), .val (.int (own_b4 p0)), .val (.ref b2), .val (.ref b129), .unset, .unset, .unset, .unset] [(.int (2 : Int32)), (.int (1 : Int32)), (.ref b129)])) _
        refine XS.aload X134.here hx rfl (hb hby at_211) rfl rfl ?_
        show Steps p.tables e below (T134.setTop (mkF m 213 #[.val (.int p0), .val (.int p1), .val (.int p2), .val (.int (own_b1 p0)), .val (.int (own_b2 p0)), .val (.int (own_b3 p0)), .val (.int (own_b4 p0)), .val (.ref b2), .val (.ref b129), .unset, .unset, .unset, .unset] [(.ref b129), (.int (2 : Int32)), (.int (1 : Int32)), (.ref b129)])) _
        refine XS.iloadN X134.here hx rfl (hb hby at_213) rfl ?_
        exact kt
      obtain ⟨cl140, Ar140, qk140, Sz140, Nn140, Hh140, Gg140⟩ := id V134'
      have hin140 : ¬ ((own_b1 p0) < 0 ∨ cl140.slots.size ≤ ((own_b1 p0)).toNatClampNeg) := inb_of Sz140 ⟨c1, c2⟩
      have hat140 : cl140.slots[((own_b1 p0)).toNatClampNeg]? = some (.int ([(1 : Int32), (0 : Int32), (0 : Int32), (0 : Int32), (0 : Int32)].getD (own_b1 p0).toNatClampNeg 0)) := Hh140.at hin140 (own_getD [(1 : Int32), (0 : Int32), (0 : Int32), (0 : Int32), (0 : Int32)] _)
      have pre141 : ∀ t, Steps p.tables e below (T134.setTop (mkF m 215 #[.val (.int p0), .val (.int p1), .val (.int p2), .val (.int (own_b1 p0)), .val (.int (own_b2 p0)), .val (.int (own_b3 p0)), .val (.int (own_b4 p0)), .val (.ref b2), .val (.ref b129), .unset, .unset, .unset, .unset] [(.int ([(1 : Int32), (0 : Int32), (0 : Int32), (0 : Int32), (0 : Int32)].getD (own_b1 p0).toNatClampNeg 0)), (.int (2 : Int32)), (.int (1 : Int32)), (.ref b129)])) t → Steps p.tables e below (s₁.setTop (entryFrame m #[(.int p0), (.int p1), (.int p2)] maxLocals)) t := fun t kt => by
        refine pre139 _ ?_
        show Steps p.tables e below (T134.setTop (mkF m 214 #[.val (.int p0), .val (.int p1), .val (.int p2), .val (.int (own_b1 p0)), .val (.int (own_b2 p0)), .val (.int (own_b3 p0)), .val (.int (own_b4 p0)), .val (.ref b2), .val (.ref b129), .unset, .unset, .unset, .unset] [(.int (own_b1 p0)), (.ref b129), (.int (2 : Int32)), (.int (1 : Int32)), (.ref b129)])) _
        refine X134.iaload hx (j := (own_b1 p0)) (v := (.int ([(1 : Int32), (0 : Int32), (0 : Int32), (0 : Int32), (0 : Int32)].getD (own_b1 p0).toNatClampNeg 0))) (by rw [e134]; exact Ar140.1) (State.isArrayOf_alike hZ.alike Ar140.2.1) Ar140.2.2 hin140 hat140 (g := (mkF m 214 #[.val (.int p0), .val (.int p1), .val (.int p2), .val (.int (own_b1 p0)), .val (.int (own_b2 p0)), .val (.int (own_b3 p0)), .val (.int (own_b4 p0)), .val (.ref b2), .val (.ref b129), .unset, .unset, .unset, .unset] [(.int (own_b1 p0)), (.ref b129), (.int (2 : Int32)), (.int (1 : Int32)), (.ref b129)])) rfl rfl (hb hby at_214) _ ?_
        exact kt
      rw [show (own_g [(1 : Int32), (0 : Int32), (0 : Int32), (0 : Int32), (0 : Int32)] (own_b1 p0)) = ([(1 : Int32), (0 : Int32), (0 : Int32), (0 : Int32), (0 : Int32)].getD (own_b1 p0).toNatClampNeg 0) from if_neg c1] at kt
      exact pre141 _ kt
  obtain ⟨cl142, Ar142, qk142, Sz142, Nn142, Hh142, Gg142⟩ := id V134'
  have hin142 : ¬ ((1 : Int32) < 0 ∨ cl142.slots.size ≤ ((1 : Int32)).toNatClampNeg) := inb_of Sz142 ⟨by decide, by decide⟩
  have pre143 : ∀ t, Steps p.tables e below (T134.setTop (mkF m 216 #[.val (.int p0), .val (.int p1), .val (.int p2), .val (.int (own_b1 p0)), .val (.int (own_b2 p0)), .val (.int (own_b3 p0)), .val (.int (own_b4 p0)), .val (.ref b2), .val (.ref b129), .unset, .unset, .unset, .unset] [(.int (own_m1 (own_b1 p0))), (.int (1 : Int32)), (.ref b129)])) t → Steps p.tables e below (s₁.setTop (entryFrame m #[(.int p0), (.int p1), (.int p2)] maxLocals)) t := fun t kt => by
    refine pre137 _ ?_
    show Steps p.tables e below (T134.setTop (mkF m 215 #[.val (.int p0), .val (.int p1), .val (.int p2), .val (.int (own_b1 p0)), .val (.int (own_b2 p0)), .val (.int (own_b3 p0)), .val (.int (own_b4 p0)), .val (.ref b2), .val (.ref b129), .unset, .unset, .unset, .unset] [(.int (own_g [(1 : Int32), (0 : Int32), (0 : Int32), (0 : Int32), (0 : Int32)] (own_b1 p0))), (.int (2 : Int32)), (.int (1 : Int32)), (.ref b129)])) _
    refine XS.ior X134.here hx rfl (hb hby at_215) rfl ?_
    show Steps p.tables e below (T134.setTop (mkF m 216 #[.val (.int p0), .val (.int p1), .val (.int p2), .val (.int (own_b1 p0)), .val (.int (own_b2 p0)), .val (.int (own_b3 p0)), .val (.int (own_b4 p0)), .val (.ref b2), .val (.ref b129), .unset, .unset, .unset, .unset] [(.int (own_m1 (own_b1 p0))), (.int (1 : Int32)), (.ref b129)])) _
    exact kt
  obtain ⟨T144, h144, X144, e144, W144, st144⟩ := stI X134 hx hZ e134 Ar142 (j := (1 : Int32)) hin142 (g := (mkF m 216 #[.val (.int p0), .val (.int p1), .val (.int p2), .val (.int (own_b1 p0)), .val (.int (own_b2 p0)), .val (.int (own_b3 p0)), .val (.int (own_b4 p0)), .val (.ref b2), .val (.ref b129), .unset, .unset, .unset, .unset] [(.int (own_m1 (own_b1 p0))), (.int (1 : Int32)), (.ref b129)])) rfl rfl (hb hby at_216)
  have V144 := Arv.set Ar142 qk142 Sz142 Nn142 Hh142 Gg142 rfl W144 1 rfl (Nat.le_of_ble_eq_true rfl)
  have V144' : Arv Z h144 b129 k129 .int (5 : Int32) [(.int (1 : Int32)), (.int (own_m1 (own_b1 p0))), (.int (0 : Int32)), (.int (0 : Int32)), (.int (0 : Int32))] (.int (0 : Int32)) := V144
  have N144 := Fr.snoc X144 N134 gg_b129
  have pre145 : ∀ t, Steps p.tables e below (T144.setTop (mkF m 217 #[.val (.int p0), .val (.int p1), .val (.int p2), .val (.int (own_b1 p0)), .val (.int (own_b2 p0)), .val (.int (own_b3 p0)), .val (.int (own_b4 p0)), .val (.ref b2), .val (.ref b129), .unset, .unset, .unset, .unset] [])) t → Steps p.tables e below (s₁.setTop (entryFrame m #[(.int p0), (.int p1), (.int p2)] maxLocals)) t := fun t kt => pre143 _ (st144 _ kt)
  have pre146 : ∀ t, Steps p.tables e below (T144.setTop (mkF m 223 #[.val (.int p0), .val (.int p1), .val (.int p2), .val (.int (own_b1 p0)), .val (.int (own_b2 p0)), .val (.int (own_b3 p0)), .val (.int (own_b4 p0)), .val (.ref b2), .val (.ref b129), .unset, .unset, .unset, .unset] [(.int (own_b2 p0)), (.int (4 : Int32)), (.int (2 : Int32)), (.ref b129)])) t → Steps p.tables e below (s₁.setTop (entryFrame m #[(.int p0), (.int p1), (.int p2)] maxLocals)) t := fun t kt => by
    refine pre145 _ ?_
    show Steps p.tables e below (T144.setTop (mkF m 217 #[.val (.int p0), .val (.int p1), .val (.int p2), .val (.int (own_b1 p0)), .val (.int (own_b2 p0)), .val (.int (own_b3 p0)), .val (.int (own_b4 p0)), .val (.ref b2), .val (.ref b129), .unset, .unset, .unset, .unset] [])) _
    refine XS.aload X144.here hx rfl (hb hby at_217) rfl rfl ?_
    show Steps p.tables e below (T144.setTop (mkF m 219 #[.val (.int p0), .val (.int p1), .val (.int p2), .val (.int (own_b1 p0)), .val (.int (own_b2 p0)), .val (.int (own_b3 p0)), .val (.int (own_b4 p0)), .val (.ref b2), .val (.ref b129), .unset, .unset, .unset, .unset] [(.ref b129)])) _
    refine XS.iconst X144.here hx rfl (hb hby at_219) ?_
    show Steps p.tables e below (T144.setTop (mkF m 220 #[.val (.int p0), .val (.int p1), .val (.int p2), .val (.int (own_b1 p0)), .val (.int (own_b2 p0)), .val (.int (own_b3 p0)), .val (.int (own_b4 p0)), .val (.ref b2), .val (.ref b129), .unset, .unset, .unset, .unset] [(.int (2 : Int32)), (.ref b129)])) _
    refine XS.iconst X144.here hx rfl (hb hby at_220) ?_
    show Steps p.tables e below (T144.setTop (mkF m 221 #[.val (.int p0), .val (.int p1), .val (.int p2), .val (.int (own_b1 p0)), .val (.int (own_b2 p0)), .val (.int (own_b3 p0)), .val (.int (own_b4 p0)), .val (.ref b2), .val (.ref b129), .unset, .unset, .unset, .unset] [(.int (4 : Int32)), (.int (2 : Int32)), (.ref b129)])) _
    refine XS.iload X144.here hx rfl (hb hby at_221) rfl ?_
    exact kt
  have pre147 : ∀ t, Steps p.tables e below (T144.setTop (mkF m 235 #[.val (.int p0), .val (.int p1), .val (.int p2), .val (.int (own_b1 p0)), .val (.int (own_b2 p0)), .val (.int (own_b3 p0)), .val (.int (own_b4 p0)), .val (.ref b2), .val (.ref b129), .unset, .unset, .unset, .unset] [(.int (own_g [(1 : Int32), (own_m1 (own_b1 p0)), (0 : Int32), (0 : Int32), (0 : Int32)] (own_b2 p0))), (.int (4 : Int32)), (.int (2 : Int32)), (.ref b129)])) t → Steps p.tables e below (s₁.setTop (entryFrame m #[(.int p0), (.int p1), (.int p2)] maxLocals)) t := fun t kt => by
    rcases lo2 with c1 | ⟨c1, c2, c3⟩
    · have pre148 : ∀ t, Steps p.tables e below (T144.setTop (mkF m 235 #[.val (.int p0), .val (.int p1), .val (.int p2), .val (.int (own_b1 p0)), .val (.int (own_b2 p0)), .val (.int (own_b3 p0)), .val (.int (own_b4 p0)), .val (.ref b2), .val (.ref b129), .unset, .unset, .unset, .unset] [(.int (0 : Int32)), (.int (4 : Int32)), (.int (2 : Int32)), (.ref b129)])) t → Steps p.tables e below (s₁.setTop (entryFrame m #[(.int p0), (.int p1), (.int p2)] maxLocals)) t := fun t kt => by
        refine pre146 _ ?_
        show Steps p.tables e below (T144.setTop (mkF m 223 #[.val (.int p0), .val (.int p1), .val (.int p2), .val (.int (own_b1 p0)), .val (.int (own_b2 p0)), .val (.int (own_b3 p0)), .val (.int (own_b4 p0)), .val (.ref b2), .val (.ref b129), .unset, .unset, .unset, .unset] [(.int (own_b2 p0)), (.int (4 : Int32)), (.int (2 : Int32)), (.ref b129)])) _
        refine XS.ifNo X144.here hx rfl (hb hby at_223) rfl ((if0 _ _).trans (tlt (c1 : (own_b2 p0) < (0 : Int32))).2.1) ?_
        show Steps p.tables e below (T144.setTop (mkF m 226 #[.val (.int p0), .val (.int p1), .val (.int p2), .val (.int (own_b1 p0)), .val (.int (own_b2 p0)), .val (.int (own_b3 p0)), .val (.int (own_b4 p0)), .val (.ref b2), .val (.ref b129), .unset, .unset, .unset, .unset] [(.int (4 : Int32)), (.int (2 : Int32)), (.ref b129)])) _
        refine XS.iconst X144.here hx rfl (hb hby at_226) ?_
        show Steps p.tables e below (T144.setTop (mkF m 227 #[.val (.int p0), .val (.int p1), .val (.int p2), .val (.int (own_b1 p0)), .val (.int (own_b2 p0)), .val (.int (own_b3 p0)), .val (.int (own_b4 p0)), .val (.ref b2), .val (.ref b129), .unset, .unset, .unset, .unset] [(.int (0 : Int32)), (.int (4 : Int32)), (.int (2 : Int32)), (.ref b129)])) _
        refine XS.goto X144.here hx rfl (pc0 := 227) (pc' := 235) rfl (hb hby at_227) (by decide) (by decide) ?_
        exact kt
      rw [show (own_g [(1 : Int32), (own_m1 (own_b1 p0)), (0 : Int32), (0 : Int32), (0 : Int32)] (own_b2 p0)) = (0 : Int32) from if_pos c1] at kt
      exact pre148 _ kt
    · have pre149 : ∀ t, Steps p.tables e below (T144.setTop (mkF m 234 #[.val (.int p0), .val (.int p1), .val (.int p2), .val (.int (own_b1 p0)), .val (.int (own_b2 p0)), .val (.int (own_b3 p0)), .val (.int (own_b4 p0)), .val (.ref b2), .val (.ref b129), .unset, .unset, .unset, .unset] [(.int (own_b2 p0)), (.ref b129), (.int (4 : Int32)), (.int (2 : Int32)), (.ref b129)])) t → Steps p.tables e below (s₁.setTop (entryFrame m #[(.int p0), (.int p1), (.int p2)] maxLocals)) t := fun t kt => by
        refine pre146 _ ?_
        show Steps p.tables e below (T144.setTop (mkF m 223 #[.val (.int p0), .val (.int p1), .val (.int p2), .val (.int (own_b1 p0)), .val (.int (own_b2 p0)), .val (.int (own_b3 p0)), .val (.int (own_b4 p0)), .val (.ref b2), .val (.ref b129), .unset, .unset, .unset, .unset] [(.int (own_b2 p0)), (.int (4 : Int32)), (.int (2 : Int32)), (.ref b129)])) _
        refine XS.ifYes X144.here hx rfl (pc0 := 223) (pc' := 230) rfl (hb hby at_223) rfl ((if0 _ _).trans (flt (c1 : ¬ ((own_b2 p0) < (0 : Int32)))).2.1) (by decide) (by decide) ?_
        show Steps p.tables e below (T144.setTop (mkF m 230 #[.val (.int p0), .val (.int p1), .val (.int p2), .val (.int (own_b1 p0)), .val (.int (own_b2 p0)), .val (.int (own_b3 p0)), .val (.int (own_b4 p0)), .val (.ref b2), .val (.ref b129), .unset, .unset, .unset, .unset] [(.int (4 : Int32)), (.int (2 : Int32)), (.ref b129)])) _
        refine XS.aload X144.here hx rfl (hb hby at_230) rfl rfl ?_
        show Steps p.tables e below (T144.setTop (mkF m 232 #[.val (.int p0), .val (.int p1), .val (.int p2), .val (.int (own_b1 p0)), .val (.int (own_b2 p0)), .val (.int (own_b3 p0)), .val (.int (own_b4 p0)), .val (.ref b2), .val (.ref b129), .unset, .unset, .unset, .unset] [(.ref b129), (.int (4 : Int32)), (.int (2 : Int32)), (.ref b129)])) _
        refine XS.iload X144.here hx rfl (hb hby at_232) rfl ?_
        exact kt
      obtain ⟨cl150, Ar150, qk150, Sz150, Nn150, Hh150, Gg150⟩ := id V144'
      have hin150 : ¬ ((own_b2 p0) < 0 ∨ cl150.slots.size ≤ ((own_b2 p0)).toNatClampNeg) := inb_of Sz150 ⟨c1, c2⟩
      have hat150 : cl150.slots[((own_b2 p0)).toNatClampNeg]? = some (.int ([(1 : Int32), (own_m1 (own_b1 p0)), (0 : Int32), (0 : Int32), (0 : Int32)].getD (own_b2 p0).toNatClampNeg 0)) := Hh150.at hin150 (own_getD [(1 : Int32), (own_m1 (own_b1 p0)), (0 : Int32), (0 : Int32), (0 : Int32)] _)
      have pre151 : ∀ t, Steps p.tables e below (T144.setTop (mkF m 235 #[.val (.int p0), .val (.int p1), .val (.int p2), .val (.int (own_b1 p0)), .val (.int (own_b2 p0)), .val (.int (own_b3 p0)), .val (.int (own_b4 p0)), .val (.ref b2), .val (.ref b129), .unset, .unset, .unset, .unset] [(.int ([(1 : Int32), (own_m1 (own_b1 p0)), (0 : Int32), (0 : Int32), (0 : Int32)].getD (own_b2 p0).toNatClampNeg 0)), (.int (4 : Int32)), (.int (2 : Int32)), (.ref b129)])) t → Steps p.tables e below (s₁.setTop (entryFrame m #[(.int p0), (.int p1), (.int p2)] maxLocals)) t := fun t kt => by
        refine pre149 _ ?_
        show Steps p.tables e below (T144.setTop (mkF m 234 #[.val (.int p0), .val (.int p1), .val (.int p2), .val (.int (own_b1 p0)), .val (.int (own_b2 p0)), .val (.int (own_b3 p0)), .val (.int (own_b4 p0)), .val (.ref b2), .val (.ref b129), .unset, .unset, .unset, .unset] [(.int (own_b2 p0)), (.ref b129), (.int (4 : Int32)), (.int (2 : Int32)), (.ref b129)])) _
        refine X144.iaload hx (j := (own_b2 p0)) (v := (.int ([(1 : Int32), (own_m1 (own_b1 p0)), (0 : Int32), (0 : Int32), (0 : Int32)].getD (own_b2 p0).toNatClampNeg 0))) (by rw [e144]; exact Ar150.1) (State.isArrayOf_alike hZ.alike Ar150.2.1) Ar150.2.2 hin150 hat150 (g := (mkF m 234 #[.val (.int p0), .val (.int p1), .val (.int p2), .val (.int (own_b1 p0)), .val (.int (own_b2 p0)), .val (.int (own_b3 p0)), .val (.int (own_b4 p0)), .val (.ref b2), .val (.ref b129), .unset, .unset, .unset, .unset] [(.int (own_b2 p0)), (.ref b129), (.int (4 : Int32)), (.int (2 : Int32)), (.ref b129)])) rfl rfl (hb hby at_234) _ ?_
        exact kt
      rw [show (own_g [(1 : Int32), (own_m1 (own_b1 p0)), (0 : Int32), (0 : Int32), (0 : Int32)] (own_b2 p0)) = ([(1 : Int32), (own_m1 (own_b1 p0)), (0 : Int32), (0 : Int32), (0 : Int32)].getD (own_b2 p0).toNatClampNeg 0) from if_neg c1] at kt
      exact pre151 _ kt
  obtain ⟨cl152, Ar152, qk152, Sz152, Nn152, Hh152, Gg152⟩ := id V144'
  have hin152 : ¬ ((2 : Int32) < 0 ∨ cl152.slots.size ≤ ((2 : Int32)).toNatClampNeg) := inb_of Sz152 ⟨by decide, by decide⟩
  have pre153 : ∀ t, Steps p.tables e below (T144.setTop (mkF m 236 #[.val (.int p0), .val (.int p1), .val (.int p2), .val (.int (own_b1 p0)), .val (.int (own_b2 p0)), .val (.int (own_b3 p0)), .val (.int (own_b4 p0)), .val (.ref b2), .val (.ref b129), .unset, .unset, .unset, .unset] [(.int (own_m2 (own_b1 p0) (own_b2 p0))), (.int (2 : Int32)), (.ref b129)])) t → Steps p.tables e below (s₁.setTop (entryFrame m #[(.int p0), (.int p1), (.int p2)] maxLocals)) t := fun t kt => by
    refine pre147 _ ?_
    show Steps p.tables e below (T144.setTop (mkF m 235 #[.val (.int p0), .val (.int p1), .val (.int p2), .val (.int (own_b1 p0)), .val (.int (own_b2 p0)), .val (.int (own_b3 p0)), .val (.int (own_b4 p0)), .val (.ref b2), .val (.ref b129), .unset, .unset, .unset, .unset] [(.int (own_g [(1 : Int32), (own_m1 (own_b1 p0)), (0 : Int32), (0 : Int32), (0 : Int32)] (own_b2 p0))), (.int (4 : Int32)), (.int (2 : Int32)), (.ref b129)])) _
    refine XS.ior X144.here hx rfl (hb hby at_235) rfl ?_
    show Steps p.tables e below (T144.setTop (mkF m 236 #[.val (.int p0), .val (.int p1), .val (.int p2), .val (.int (own_b1 p0)), .val (.int (own_b2 p0)), .val (.int (own_b3 p0)), .val (.int (own_b4 p0)), .val (.ref b2), .val (.ref b129), .unset, .unset, .unset, .unset] [(.int (own_m2 (own_b1 p0) (own_b2 p0))), (.int (2 : Int32)), (.ref b129)])) _
    exact kt
  obtain ⟨T154, h154, X154, e154, W154, st154⟩ := stI X144 hx hZ e144 Ar152 (j := (2 : Int32)) hin152 (g := (mkF m 236 #[.val (.int p0), .val (.int p1), .val (.int p2), .val (.int (own_b1 p0)), .val (.int (own_b2 p0)), .val (.int (own_b3 p0)), .val (.int (own_b4 p0)), .val (.ref b2), .val (.ref b129), .unset, .unset, .unset, .unset] [(.int (own_m2 (own_b1 p0) (own_b2 p0))), (.int (2 : Int32)), (.ref b129)])) rfl rfl (hb hby at_236)
  have V154 := Arv.set Ar152 qk152 Sz152 Nn152 Hh152 Gg152 rfl W154 2 rfl (Nat.le_of_ble_eq_true rfl)
  have V154' : Arv Z h154 b129 k129 .int (5 : Int32) [(.int (1 : Int32)), (.int (own_m1 (own_b1 p0))), (.int (own_m2 (own_b1 p0) (own_b2 p0))), (.int (0 : Int32)), (.int (0 : Int32))] (.int (0 : Int32)) := V154
  have N154 := Fr.snoc X154 N144 gg_b129
  have pre155 : ∀ t, Steps p.tables e below (T154.setTop (mkF m 237 #[.val (.int p0), .val (.int p1), .val (.int p2), .val (.int (own_b1 p0)), .val (.int (own_b2 p0)), .val (.int (own_b3 p0)), .val (.int (own_b4 p0)), .val (.ref b2), .val (.ref b129), .unset, .unset, .unset, .unset] [])) t → Steps p.tables e below (s₁.setTop (entryFrame m #[(.int p0), (.int p1), (.int p2)] maxLocals)) t := fun t kt => pre153 _ (st154 _ kt)
  have pre156 : ∀ t, Steps p.tables e below (T154.setTop (mkF m 244 #[.val (.int p0), .val (.int p1), .val (.int p2), .val (.int (own_b1 p0)), .val (.int (own_b2 p0)), .val (.int (own_b3 p0)), .val (.int (own_b4 p0)), .val (.ref b2), .val (.ref b129), .unset, .unset, .unset, .unset] [(.int (own_b3 p0)), (.int (8 : Int32)), (.int (3 : Int32)), (.ref b129)])) t → Steps p.tables e below (s₁.setTop (entryFrame m #[(.int p0), (.int p1), (.int p2)] maxLocals)) t := fun t kt => by
    refine pre155 _ ?_
    show Steps p.tables e below (T154.setTop (mkF m 237 #[.val (.int p0), .val (.int p1), .val (.int p2), .val (.int (own_b1 p0)), .val (.int (own_b2 p0)), .val (.int (own_b3 p0)), .val (.int (own_b4 p0)), .val (.ref b2), .val (.ref b129), .unset, .unset, .unset, .unset] [])) _
    refine XS.aload X154.here hx rfl (hb hby at_237) rfl rfl ?_
    show Steps p.tables e below (T154.setTop (mkF m 239 #[.val (.int p0), .val (.int p1), .val (.int p2), .val (.int (own_b1 p0)), .val (.int (own_b2 p0)), .val (.int (own_b3 p0)), .val (.int (own_b4 p0)), .val (.ref b2), .val (.ref b129), .unset, .unset, .unset, .unset] [(.ref b129)])) _
    refine XS.iconst X154.here hx rfl (hb hby at_239) ?_
    show Steps p.tables e below (T154.setTop (mkF m 240 #[.val (.int p0), .val (.int p1), .val (.int p2), .val (.int (own_b1 p0)), .val (.int (own_b2 p0)), .val (.int (own_b3 p0)), .val (.int (own_b4 p0)), .val (.ref b2), .val (.ref b129), .unset, .unset, .unset, .unset] [(.int (3 : Int32)), (.ref b129)])) _
    refine XS.bipush X154.here hx rfl (hb hby at_240) ?_
    show Steps p.tables e below (T154.setTop (mkF m 242 #[.val (.int p0), .val (.int p1), .val (.int p2), .val (.int (own_b1 p0)), .val (.int (own_b2 p0)), .val (.int (own_b3 p0)), .val (.int (own_b4 p0)), .val (.ref b2), .val (.ref b129), .unset, .unset, .unset, .unset] [(.int (8 : Int32)), (.int (3 : Int32)), (.ref b129)])) _
    refine XS.iload X154.here hx rfl (hb hby at_242) rfl ?_
    exact kt
  have pre157 : ∀ t, Steps p.tables e below (T154.setTop (mkF m 256 #[.val (.int p0), .val (.int p1), .val (.int p2), .val (.int (own_b1 p0)), .val (.int (own_b2 p0)), .val (.int (own_b3 p0)), .val (.int (own_b4 p0)), .val (.ref b2), .val (.ref b129), .unset, .unset, .unset, .unset] [(.int (own_g [(1 : Int32), (own_m1 (own_b1 p0)), (own_m2 (own_b1 p0) (own_b2 p0)), (0 : Int32), (0 : Int32)] (own_b3 p0))), (.int (8 : Int32)), (.int (3 : Int32)), (.ref b129)])) t → Steps p.tables e below (s₁.setTop (entryFrame m #[(.int p0), (.int p1), (.int p2)] maxLocals)) t := fun t kt => by
    rcases lo3 with c1 | ⟨c1, c2, c3⟩
    · have pre158 : ∀ t, Steps p.tables e below (T154.setTop (mkF m 256 #[.val (.int p0), .val (.int p1), .val (.int p2), .val (.int (own_b1 p0)), .val (.int (own_b2 p0)), .val (.int (own_b3 p0)), .val (.int (own_b4 p0)), .val (.ref b2), .val (.ref b129), .unset, .unset, .unset, .unset] [(.int (0 : Int32)), (.int (8 : Int32)), (.int (3 : Int32)), (.ref b129)])) t → Steps p.tables e below (s₁.setTop (entryFrame m #[(.int p0), (.int p1), (.int p2)] maxLocals)) t := fun t kt => by
        refine pre156 _ ?_
        show Steps p.tables e below (T154.setTop (mkF m 244 #[.val (.int p0), .val (.int p1), .val (.int p2), .val (.int (own_b1 p0)), .val (.int (own_b2 p0)), .val (.int (own_b3 p0)), .val (.int (own_b4 p0)), .val (.ref b2), .val (.ref b129), .unset, .unset, .unset, .unset] [(.int (own_b3 p0)), (.int (8 : Int32)), (.int (3 : Int32)), (.ref b129)])) _
        refine XS.ifNo X154.here hx rfl (hb hby at_244) rfl ((if0 _ _).trans (tlt (c1 : (own_b3 p0) < (0 : Int32))).2.1) ?_
        show Steps p.tables e below (T154.setTop (mkF m 247 #[.val (.int p0), .val (.int p1), .val (.int p2), .val (.int (own_b1 p0)), .val (.int (own_b2 p0)), .val (.int (own_b3 p0)), .val (.int (own_b4 p0)), .val (.ref b2), .val (.ref b129), .unset, .unset, .unset, .unset] [(.int (8 : Int32)), (.int (3 : Int32)), (.ref b129)])) _
        refine XS.iconst X154.here hx rfl (hb hby at_247) ?_
        show Steps p.tables e below (T154.setTop (mkF m 248 #[.val (.int p0), .val (.int p1), .val (.int p2), .val (.int (own_b1 p0)), .val (.int (own_b2 p0)), .val (.int (own_b3 p0)), .val (.int (own_b4 p0)), .val (.ref b2), .val (.ref b129), .unset, .unset, .unset, .unset] [(.int (0 : Int32)), (.int (8 : Int32)), (.int (3 : Int32)), (.ref b129)])) _
        refine XS.goto X154.here hx rfl (pc0 := 248) (pc' := 256) rfl (hb hby at_248) (by decide) (by decide) ?_
        exact kt
      rw [show (own_g [(1 : Int32), (own_m1 (own_b1 p0)), (own_m2 (own_b1 p0) (own_b2 p0)), (0 : Int32), (0 : Int32)] (own_b3 p0)) = (0 : Int32) from if_pos c1] at kt
      exact pre158 _ kt
    · have pre159 : ∀ t, Steps p.tables e below (T154.setTop (mkF m 255 #[.val (.int p0), .val (.int p1), .val (.int p2), .val (.int (own_b1 p0)), .val (.int (own_b2 p0)), .val (.int (own_b3 p0)), .val (.int (own_b4 p0)), .val (.ref b2), .val (.ref b129), .unset, .unset, .unset, .unset] [(.int (own_b3 p0)), (.ref b129), (.int (8 : Int32)), (.int (3 : Int32)), (.ref b129)])) t → Steps p.tables e below (s₁.setTop (entryFrame m #[(.int p0), (.int p1), (.int p2)] maxLocals)) t := fun t kt => by
        refine pre156 _ ?_
        show Steps p.tables e below (T154.setTop (mkF m 244 #[.val (.int p0), .val (.int p1), .val (.int p2), .val (.int (own_b1 p0)), .val (.int (own_b2 p0)), .val (.int (own_b3 p0)), .val (.int (own_b4 p0)), .val (.ref b2), .val (.ref b129), .unset, .unset, .unset, .unset] [(.int (own_b3 p0)), (.int (8 : Int32)), (.int (3 : Int32)), (.ref b129)])) _
        refine XS.ifYes X154.here hx rfl (pc0 := 244) (pc' := 251) rfl (hb hby at_244) rfl ((if0 _ _).trans (flt (c1 : ¬ ((own_b3 p0) < (0 : Int32)))).2.1) (by decide) (by decide) ?_
        show Steps p.tables e below (T154.setTop (mkF m 251 #[.val (.int p0), .val (.int p1), .val (.int p2), .val (.int (own_b1 p0)), .val (.int (own_b2 p0)), .val (.int (own_b3 p0)), .val (.int (own_b4 p0)), .val (.ref b2), .val (.ref b129), .unset, .unset, .unset, .unset] [(.int (8 : Int32)), (.int (3 : Int32)), (.ref b129)])) _
        refine XS.aload X154.here hx rfl (hb hby at_251) rfl rfl ?_
        show Steps p.tables e below (T154.setTop (mkF m 253 #[.val (.int p0), .val (.int p1), .val (.int p2), .val (.int (own_b1 p0)), .val (.int (own_b2 p0)), .val (.int (own_b3 p0)), .val (.int (own_b4 p0)), .val (.ref b2), .val (.ref b129), .unset, .unset, .unset, .unset] [(.ref b129), (.int (8 : Int32)), (.int (3 : Int32)), (.ref b129)])) _
        refine XS.iload X154.here hx rfl (hb hby at_253) rfl ?_
        exact kt
      obtain ⟨cl160, Ar160, qk160, Sz160, Nn160, Hh160, Gg160⟩ := id V154'
      have hin160 : ¬ ((own_b3 p0) < 0 ∨ cl160.slots.size ≤ ((own_b3 p0)).toNatClampNeg) := inb_of Sz160 ⟨c1, c2⟩
      have hat160 : cl160.slots[((own_b3 p0)).toNatClampNeg]? = some (.int ([(1 : Int32), (own_m1 (own_b1 p0)), (own_m2 (own_b1 p0) (own_b2 p0)), (0 : Int32), (0 : Int32)].getD (own_b3 p0).toNatClampNeg 0)) := Hh160.at hin160 (own_getD [(1 : Int32), (own_m1 (own_b1 p0)), (own_m2 (own_b1 p0) (own_b2 p0)), (0 : Int32), (0 : Int32)] _)
      have pre161 : ∀ t, Steps p.tables e below (T154.setTop (mkF m 256 #[.val (.int p0), .val (.int p1), .val (.int p2), .val (.int (own_b1 p0)), .val (.int (own_b2 p0)), .val (.int (own_b3 p0)), .val (.int (own_b4 p0)), .val (.ref b2), .val (.ref b129), .unset, .unset, .unset, .unset] [(.int ([(1 : Int32), (own_m1 (own_b1 p0)), (own_m2 (own_b1 p0) (own_b2 p0)), (0 : Int32), (0 : Int32)].getD (own_b3 p0).toNatClampNeg 0)), (.int (8 : Int32)), (.int (3 : Int32)), (.ref b129)])) t → Steps p.tables e below (s₁.setTop (entryFrame m #[(.int p0), (.int p1), (.int p2)] maxLocals)) t := fun t kt => by
        refine pre159 _ ?_
        show Steps p.tables e below (T154.setTop (mkF m 255 #[.val (.int p0), .val (.int p1), .val (.int p2), .val (.int (own_b1 p0)), .val (.int (own_b2 p0)), .val (.int (own_b3 p0)), .val (.int (own_b4 p0)), .val (.ref b2), .val (.ref b129), .unset, .unset, .unset, .unset] [(.int (own_b3 p0)), (.ref b129), (.int (8 : Int32)), (.int (3 : Int32)), (.ref b129)])) _
        refine X154.iaload hx (j := (own_b3 p0)) (v := (.int ([(1 : Int32), (own_m1 (own_b1 p0)), (own_m2 (own_b1 p0) (own_b2 p0)), (0 : Int32), (0 : Int32)].getD (own_b3 p0).toNatClampNeg 0))) (by rw [e154]; exact Ar160.1) (State.isArrayOf_alike hZ.alike Ar160.2.1) Ar160.2.2 hin160 hat160 (g := (mkF m 255 #[.val (.int p0), .val (.int p1), .val (.int p2), .val (.int (own_b1 p0)), .val (.int (own_b2 p0)), .val (.int (own_b3 p0)), .val (.int (own_b4 p0)), .val (.ref b2), .val (.ref b129), .unset, .unset, .unset, .unset] [(.int (own_b3 p0)), (.ref b129), (.int (8 : Int32)), (.int (3 : Int32)), (.ref b129)])) rfl rfl (hb hby at_255) _ ?_
        exact kt
      rw [show (own_g [(1 : Int32), (own_m1 (own_b1 p0)), (own_m2 (own_b1 p0) (own_b2 p0)), (0 : Int32), (0 : Int32)] (own_b3 p0)) = ([(1 : Int32), (own_m1 (own_b1 p0)), (own_m2 (own_b1 p0) (own_b2 p0)), (0 : Int32), (0 : Int32)].getD (own_b3 p0).toNatClampNeg 0) from if_neg c1] at kt
      exact pre161 _ kt
  obtain ⟨cl162, Ar162, qk162, Sz162, Nn162, Hh162, Gg162⟩ := id V154'
  have hin162 : ¬ ((3 : Int32) < 0 ∨ cl162.slots.size ≤ ((3 : Int32)).toNatClampNeg) := inb_of Sz162 ⟨by decide, by decide⟩
  have pre163 : ∀ t, Steps p.tables e below (T154.setTop (mkF m 257 #[.val (.int p0), .val (.int p1), .val (.int p2), .val (.int (own_b1 p0)), .val (.int (own_b2 p0)), .val (.int (own_b3 p0)), .val (.int (own_b4 p0)), .val (.ref b2), .val (.ref b129), .unset, .unset, .unset, .unset] [(.int (own_m3 (own_b1 p0) (own_b2 p0) (own_b3 p0))), (.int (3 : Int32)), (.ref b129)])) t → Steps p.tables e below (s₁.setTop (entryFrame m #[(.int p0), (.int p1), (.int p2)] maxLocals)) t := fun t kt => by
    refine pre157 _ ?_
    show Steps p.tables e below (T154.setTop (mkF m 256 #[.val (.int p0), .val (.int p1), .val (.int p2), .val (.int (own_b1 p0)), .val (.int (own_b2 p0)), .val (.int (own_b3 p0)), .val (.int (own_b4 p0)), .val (.ref b2), .val (.ref b129), .unset, .unset, .unset, .unset] [(.int (own_g [(1 : Int32), (own_m1 (own_b1 p0)), (own_m2 (own_b1 p0) (own_b2 p0)), (0 : Int32), (0 : Int32)] (own_b3 p0))), (.int (8 : Int32)), (.int (3 : Int32)), (.ref b129)])) _
    refine XS.ior X154.here hx rfl (hb hby at_256) rfl ?_
    show Steps p.tables e below (T154.setTop (mkF m 257 #[.val (.int p0), .val (.int p1), .val (.int p2), .val (.int (own_b1 p0)), .val (.int (own_b2 p0)), .val (.int (own_b3 p0)), .val (.int (own_b4 p0)), .val (.ref b2), .val (.ref b129), .unset, .unset, .unset, .unset] [(.int (own_m3 (own_b1 p0) (own_b2 p0) (own_b3 p0))), (.int (3 : Int32)), (.ref b129)])) _
    exact kt
  obtain ⟨T164, h164, X164, e164, W164, st164⟩ := stI X154 hx hZ e154 Ar162 (j := (3 : Int32)) hin162 (g := (mkF m 257 #[.val (.int p0), .val (.int p1), .val (.int p2), .val (.int (own_b1 p0)), .val (.int (own_b2 p0)), .val (.int (own_b3 p0)), .val (.int (own_b4 p0)), .val (.ref b2), .val (.ref b129), .unset, .unset, .unset, .unset] [(.int (own_m3 (own_b1 p0) (own_b2 p0) (own_b3 p0))), (.int (3 : Int32)), (.ref b129)])) rfl rfl (hb hby at_257)
  have V164 := Arv.set Ar162 qk162 Sz162 Nn162 Hh162 Gg162 rfl W164 3 rfl (Nat.le_of_ble_eq_true rfl)
  have V164' : Arv Z h164 b129 k129 .int (5 : Int32) [(.int (1 : Int32)), (.int (own_m1 (own_b1 p0))), (.int (own_m2 (own_b1 p0) (own_b2 p0))), (.int (own_m3 (own_b1 p0) (own_b2 p0) (own_b3 p0))), (.int (0 : Int32))] (.int (0 : Int32)) := V164
  have N164 := Fr.snoc X164 N154 gg_b129
  have pre165 : ∀ t, Steps p.tables e below (T164.setTop (mkF m 258 #[.val (.int p0), .val (.int p1), .val (.int p2), .val (.int (own_b1 p0)), .val (.int (own_b2 p0)), .val (.int (own_b3 p0)), .val (.int (own_b4 p0)), .val (.ref b2), .val (.ref b129), .unset, .unset, .unset, .unset] [])) t → Steps p.tables e below (s₁.setTop (entryFrame m #[(.int p0), (.int p1), (.int p2)] maxLocals)) t := fun t kt => pre163 _ (st164 _ kt)
  have pre166 : ∀ t, Steps p.tables e below (T164.setTop (mkF m 265 #[.val (.int p0), .val (.int p1), .val (.int p2), .val (.int (own_b1 p0)), .val (.int (own_b2 p0)), .val (.int (own_b3 p0)), .val (.int (own_b4 p0)), .val (.ref b2), .val (.ref b129), .unset, .unset, .unset, .unset] [(.int (own_b4 p0)), (.int (16 : Int32)), (.int (4 : Int32)), (.ref b129)])) t → Steps p.tables e below (s₁.setTop (entryFrame m #[(.int p0), (.int p1), (.int p2)] maxLocals)) t := fun t kt => by
    refine pre165 _ ?_
    show Steps p.tables e below (T164.setTop (mkF m 258 #[.val (.int p0), .val (.int p1), .val (.int p2), .val (.int (own_b1 p0)), .val (.int (own_b2 p0)), .val (.int (own_b3 p0)), .val (.int (own_b4 p0)), .val (.ref b2), .val (.ref b129), .unset, .unset, .unset, .unset] [])) _
    refine XS.aload X164.here hx rfl (hb hby at_258) rfl rfl ?_
    show Steps p.tables e below (T164.setTop (mkF m 260 #[.val (.int p0), .val (.int p1), .val (.int p2), .val (.int (own_b1 p0)), .val (.int (own_b2 p0)), .val (.int (own_b3 p0)), .val (.int (own_b4 p0)), .val (.ref b2), .val (.ref b129), .unset, .unset, .unset, .unset] [(.ref b129)])) _
    refine XS.iconst X164.here hx rfl (hb hby at_260) ?_
    show Steps p.tables e below (T164.setTop (mkF m 261 #[.val (.int p0), .val (.int p1), .val (.int p2), .val (.int (own_b1 p0)), .val (.int (own_b2 p0)), .val (.int (own_b3 p0)), .val (.int (own_b4 p0)), .val (.ref b2), .val (.ref b129), .unset, .unset, .unset, .unset] [(.int (4 : Int32)), (.ref b129)])) _
    refine XS.bipush X164.here hx rfl (hb hby at_261) ?_
    show Steps p.tables e below (T164.setTop (mkF m 263 #[.val (.int p0), .val (.int p1), .val (.int p2), .val (.int (own_b1 p0)), .val (.int (own_b2 p0)), .val (.int (own_b3 p0)), .val (.int (own_b4 p0)), .val (.ref b2), .val (.ref b129), .unset, .unset, .unset, .unset] [(.int (16 : Int32)), (.int (4 : Int32)), (.ref b129)])) _
    refine XS.iload X164.here hx rfl (hb hby at_263) rfl ?_
    exact kt
  have pre167 : ∀ t, Steps p.tables e below (T164.setTop (mkF m 277 #[.val (.int p0), .val (.int p1), .val (.int p2), .val (.int (own_b1 p0)), .val (.int (own_b2 p0)), .val (.int (own_b3 p0)), .val (.int (own_b4 p0)), .val (.ref b2), .val (.ref b129), .unset, .unset, .unset, .unset] [(.int (own_g [(1 : Int32), (own_m1 (own_b1 p0)), (own_m2 (own_b1 p0) (own_b2 p0)), (own_m3 (own_b1 p0) (own_b2 p0) (own_b3 p0)), (0 : Int32)] (own_b4 p0))), (.int (16 : Int32)), (.int (4 : Int32)), (.ref b129)])) t → Steps p.tables e below (s₁.setTop (entryFrame m #[(.int p0), (.int p1), (.int p2)] maxLocals)) t := fun t kt => by
    rcases lo4 with c1 | ⟨c1, c2, c3⟩
    · have pre168 : ∀ t, Steps p.tables e below (T164.setTop (mkF m 277 #[.val (.int p0), .val (.int p1), .val (.int p2), .val (.int (own_b1 p0)), .val (.int (own_b2 p0)), .val (.int (own_b3 p0)), .val (.int (own_b4 p0)), .val (.ref b2), .val (.ref b129), .unset, .unset, .unset, .unset] [(.int (0 : Int32)), (.int (16 : Int32)), (.int (4 : Int32)), (.ref b129)])) t → Steps p.tables e below (s₁.setTop (entryFrame m #[(.int p0), (.int p1), (.int p2)] maxLocals)) t := fun t kt => by
        refine pre166 _ ?_
        show Steps p.tables e below (T164.setTop (mkF m 265 #[.val (.int p0), .val (.int p1), .val (.int p2), .val (.int (own_b1 p0)), .val (.int (own_b2 p0)), .val (.int (own_b3 p0)), .val (.int (own_b4 p0)), .val (.ref b2), .val (.ref b129), .unset, .unset, .unset, .unset] [(.int (own_b4 p0)), (.int (16 : Int32)), (.int (4 : Int32)), (.ref b129)])) _
        refine XS.ifNo X164.here hx rfl (hb hby at_265) rfl ((if0 _ _).trans (tlt (c1 : (own_b4 p0) < (0 : Int32))).2.1) ?_
        show Steps p.tables e below (T164.setTop (mkF m 268 #[.val (.int p0), .val (.int p1), .val (.int p2), .val (.int (own_b1 p0)), .val (.int (own_b2 p0)), .val (.int (own_b3 p0)), .val (.int (own_b4 p0)), .val (.ref b2), .val (.ref b129), .unset, .unset, .unset, .unset] [(.int (16 : Int32)), (.int (4 : Int32)), (.ref b129)])) _
        refine XS.iconst X164.here hx rfl (hb hby at_268) ?_
        show Steps p.tables e below (T164.setTop (mkF m 269 #[.val (.int p0), .val (.int p1), .val (.int p2), .val (.int (own_b1 p0)), .val (.int (own_b2 p0)), .val (.int (own_b3 p0)), .val (.int (own_b4 p0)), .val (.ref b2), .val (.ref b129), .unset, .unset, .unset, .unset] [(.int (0 : Int32)), (.int (16 : Int32)), (.int (4 : Int32)), (.ref b129)])) _
        refine XS.goto X164.here hx rfl (pc0 := 269) (pc' := 277) rfl (hb hby at_269) (by decide) (by decide) ?_
        exact kt
      rw [show (own_g [(1 : Int32), (own_m1 (own_b1 p0)), (own_m2 (own_b1 p0) (own_b2 p0)), (own_m3 (own_b1 p0) (own_b2 p0) (own_b3 p0)), (0 : Int32)] (own_b4 p0)) = (0 : Int32) from if_pos c1] at kt
      exact pre168 _ kt
    · have pre169 : ∀ t, Steps p.tables e below (T164.setTop (mkF m 276 #[.val (.int p0), .val (.int p1), .val (.int p2), .val (.int (own_b1 p0)), .val (.int (own_b2 p0)), .val (.int (own_b3 p0)), .val (.int (own_b4 p0)), .val (.ref b2), .val (.ref b129), .unset, .unset, .unset, .unset] [(.int (own_b4 p0)), (.ref b129), (.int (16 : Int32)), (.int (4 : Int32)), (.ref b129)])) t → Steps p.tables e below (s₁.setTop (entryFrame m #[(.int p0), (.int p1), (.int p2)] maxLocals)) t := fun t kt => by
        refine pre166 _ ?_
        show Steps p.tables e below (T164.setTop (mkF m 265 #[.val (.int p0), .val (.int p1), .val (.int p2), .val (.int (own_b1 p0)), .val (.int (own_b2 p0)), .val (.int (own_b3 p0)), .val (.int (own_b4 p0)), .val (.ref b2), .val (.ref b129), .unset, .unset, .unset, .unset] [(.int (own_b4 p0)), (.int (16 : Int32)), (.int (4 : Int32)), (.ref b129)])) _
        refine XS.ifYes X164.here hx rfl (pc0 := 265) (pc' := 272) rfl (hb hby at_265) rfl ((if0 _ _).trans (flt (c1 : ¬ ((own_b4 p0) < (0 : Int32)))).2.1) (by decide) (by decide) ?_
        show Steps p.tables e below (T164.setTop (mkF m 272 #[.val (.int p0), .val (.int p1), .val (.int p2), .val (.int (own_b1 p0)), .val (.int (own_b2 p0)), .val (.int (own_b3 p0)), .val (.int (own_b4 p0)), .val (.ref b2), .val (.ref b129), .unset, .unset, .unset, .unset] [(.int (16 : Int32)), (.int (4 : Int32)), (.ref b129)])) _
        refine XS.aload X164.here hx rfl (hb hby at_272) rfl rfl ?_
        show Steps p.tables e below (T164.setTop (mkF m 274 #[.val (.int p0), .val (.int p1), .val (.int p2), .val (.int (own_b1 p0)), .val (.int (own_b2 p0)), .val (.int (own_b3 p0)), .val (.int (own_b4 p0)), .val (.ref b2), .val (.ref b129), .unset, .unset, .unset, .unset] [(.ref b129), (.int (16 : Int32)), (.int (4 : Int32)), (.ref b129)])) _
        refine XS.iload X164.here hx rfl (hb hby at_274) rfl ?_
        exact kt
      obtain ⟨cl170, Ar170, qk170, Sz170, Nn170, Hh170, Gg170⟩ := id V164'
      have hin170 : ¬ ((own_b4 p0) < 0 ∨ cl170.slots.size ≤ ((own_b4 p0)).toNatClampNeg) := inb_of Sz170 ⟨c1, c2⟩
      have hat170 : cl170.slots[((own_b4 p0)).toNatClampNeg]? = some (.int ([(1 : Int32), (own_m1 (own_b1 p0)), (own_m2 (own_b1 p0) (own_b2 p0)), (own_m3 (own_b1 p0) (own_b2 p0) (own_b3 p0)), (0 : Int32)].getD (own_b4 p0).toNatClampNeg 0)) := Hh170.at hin170 (own_getD [(1 : Int32), (own_m1 (own_b1 p0)), (own_m2 (own_b1 p0) (own_b2 p0)), (own_m3 (own_b1 p0) (own_b2 p0) (own_b3 p0)), (0 : Int32)] _)
      have pre171 : ∀ t, Steps p.tables e below (T164.setTop (mkF m 277 #[.val (.int p0), .val (.int p1), .val (.int p2), .val (.int (own_b1 p0)), .val (.int (own_b2 p0)), .val (.int (own_b3 p0)), .val (.int (own_b4 p0)), .val (.ref b2), .val (.ref b129), .unset, .unset, .unset, .unset] [(.int ([(1 : Int32), (own_m1 (own_b1 p0)), (own_m2 (own_b1 p0) (own_b2 p0)), (own_m3 (own_b1 p0) (own_b2 p0) (own_b3 p0)), (0 : Int32)].getD (own_b4 p0).toNatClampNeg 0)), (.int (16 : Int32)), (.int (4 : Int32)), (.ref b129)])) t → Steps p.tables e below (s₁.setTop (entryFrame m #[(.int p0), (.int p1), (.int p2)] maxLocals)) t := fun t kt => by
        refine pre169 _ ?_
        show Steps p.tables e below (T164.setTop (mkF m 276 #[.val (.int p0), .val (.int p1), .val (.int p2), .val (.int (own_b1 p0)), .val (.int (own_b2 p0)), .val (.int (own_b3 p0)), .val (.int (own_b4 p0)), .val (.ref b2), .val (.ref b129), .unset, .unset, .unset, .unset] [(.int (own_b4 p0)), (.ref b129), (.int (16 : Int32)), (.int (4 : Int32)), (.ref b129)])) _
        refine X164.iaload hx (j := (own_b4 p0)) (v := (.int ([(1 : Int32), (own_m1 (own_b1 p0)), (own_m2 (own_b1 p0) (own_b2 p0)), (own_m3 (own_b1 p0) (own_b2 p0) (own_b3 p0)), (0 : Int32)].getD (own_b4 p0).toNatClampNeg 0))) (by rw [e164]; exact Ar170.1) (State.isArrayOf_alike hZ.alike Ar170.2.1) Ar170.2.2 hin170 hat170 (g := (mkF m 276 #[.val (.int p0), .val (.int p1), .val (.int p2), .val (.int (own_b1 p0)), .val (.int (own_b2 p0)), .val (.int (own_b3 p0)), .val (.int (own_b4 p0)), .val (.ref b2), .val (.ref b129), .unset, .unset, .unset, .unset] [(.int (own_b4 p0)), (.ref b129), (.int (16 : Int32)), (.int (4 : Int32)), (.ref b129)])) rfl rfl (hb hby at_276) _ ?_
        exact kt
      rw [show (own_g [(1 : Int32), (own_m1 (own_b1 p0)), (own_m2 (own_b1 p0) (own_b2 p0)), (own_m3 (own_b1 p0) (own_b2 p0) (own_b3 p0)), (0 : Int32)] (own_b4 p0)) = ([(1 : Int32), (own_m1 (own_b1 p0)), (own_m2 (own_b1 p0) (own_b2 p0)), (own_m3 (own_b1 p0) (own_b2 p0) (own_b3 p0)), (0 : Int32)].getD (own_b4 p0).toNatClampNeg 0) from if_neg c1] at kt
      exact pre171 _ kt
  obtain ⟨cl172, Ar172, qk172, Sz172, Nn172, Hh172, Gg172⟩ := id V164'
  have hin172 : ¬ ((4 : Int32) < 0 ∨ cl172.slots.size ≤ ((4 : Int32)).toNatClampNeg) := inb_of Sz172 ⟨by decide, by decide⟩
  have pre173 : ∀ t, Steps p.tables e below (T164.setTop (mkF m 278 #[.val (.int p0), .val (.int p1), .val (.int p2), .val (.int (own_b1 p0)), .val (.int (own_b2 p0)), .val (.int (own_b3 p0)), .val (.int (own_b4 p0)), .val (.ref b2), .val (.ref b129), .unset, .unset, .unset, .unset] [(.int (own_m4 (own_b1 p0) (own_b2 p0) (own_b3 p0) (own_b4 p0))), (.int (4 : Int32)), (.ref b129)])) t → Steps p.tables e below (s₁.setTop (entryFrame m #[(.int p0), (.int p1), (.int p2)] maxLocals)) t := fun t kt => by
    refine pre167 _ ?_
    show Steps p.tables e below (T164.setTop (mkF m 277 #[.val (.int p0), .val (.int p1), .val (.int p2), .val (.int (own_b1 p0)), .val (.int (own_b2 p0)), .val (.int (own_b3 p0)), .val (.int (own_b4 p0)), .val (.ref b2), .val (.ref b129), .unset, .unset, .unset, .unset] [(.int (own_g [(1 : Int32), (own_m1 (own_b1 p0)), (own_m2 (own_b1 p0) (own_b2 p0)), (own_m3 (own_b1 p0) (own_b2 p0) (own_b3 p0)), (0 : Int32)] (own_b4 p0))), (.int (16 : Int32)), (.int (4 : Int32)), (.ref b129)])) _
    refine XS.ior X164.here hx rfl (hb hby at_277) rfl ?_
    show Steps p.tables e below (T164.setTop (mkF m 278 #[.val (.int p0), .val (.int p1), .val (.int p2), .val (.int (own_b1 p0)), .val (.int (own_b2 p0)), .val (.int (own_b3 p0)), .val (.int (own_b4 p0)), .val (.ref b2), .val (.ref b129), .unset, .unset, .unset, .unset] [(.int (own_m4 (own_b1 p0) (own_b2 p0) (own_b3 p0) (own_b4 p0))), (.int (4 : Int32)), (.ref b129)])) _
    exact kt
  obtain ⟨T174, h174, X174, e174, W174, st174⟩ := stI X164 hx hZ e164 Ar172 (j := (4 : Int32)) hin172 (g := (mkF m 278 #[.val (.int p0), .val (.int p1), .val (.int p2), .val (.int (own_b1 p0)), .val (.int (own_b2 p0)), .val (.int (own_b3 p0)), .val (.int (own_b4 p0)), .val (.ref b2), .val (.ref b129), .unset, .unset, .unset, .unset] [(.int (own_m4 (own_b1 p0) (own_b2 p0) (own_b3 p0) (own_b4 p0))), (.int (4 : Int32)), (.ref b129)])) rfl rfl (hb hby at_278)
  have V174 := Arv.set Ar172 qk172 Sz172 Nn172 Hh172 Gg172 rfl W174 4 rfl (Nat.le_of_ble_eq_true rfl)
  have V174' : Arv Z h174 b129 k129 .int (5 : Int32) [(.int (1 : Int32)), (.int (own_m1 (own_b1 p0))), (.int (own_m2 (own_b1 p0) (own_b2 p0))), (.int (own_m3 (own_b1 p0) (own_b2 p0) (own_b3 p0))), (.int (own_m4 (own_b1 p0) (own_b2 p0) (own_b3 p0) (own_b4 p0)))] (.int (0 : Int32)) := V174
  have N174 := Fr.snoc X174 N164 gg_b129
  have pre175 : ∀ t, Steps p.tables e below (T174.setTop (mkF m 279 #[.val (.int p0), .val (.int p1), .val (.int p2), .val (.int (own_b1 p0)), .val (.int (own_b2 p0)), .val (.int (own_b3 p0)), .val (.int (own_b4 p0)), .val (.ref b2), .val (.ref b129), .unset, .unset, .unset, .unset] [])) t → Steps p.tables e below (s₁.setTop (entryFrame m #[(.int p0), (.int p1), (.int p2)] maxLocals)) t := fun t kt => pre173 _ (st174 _ kt)
  have pre176 : ∀ t, Steps p.tables e below (T174.setTop (mkF m 299 #[.val (.int p0), .val (.int p1), .val (.int p2), .val (.int (own_b1 p0)), .val (.int (own_b2 p0)), .val (.int (own_b3 p0)), .val (.int (own_b4 p0)), .val (.ref b2), .val (.ref b129), .val (.int (own_k p1)), .val (.int (own_a p2)), .unset, .unset] [(.int (5 : Int32)), (.int (own_a p2))])) t → Steps p.tables e below (s₁.setTop (entryFrame m #[(.int p0), (.int p1), (.int p2)] maxLocals)) t := fun t kt => by
    refine pre175 _ ?_
    show Steps p.tables e below (T174.setTop (mkF m 279 #[.val (.int p0), .val (.int p1), .val (.int p2), .val (.int (own_b1 p0)), .val (.int (own_b2 p0)), .val (.int (own_b3 p0)), .val (.int (own_b4 p0)), .val (.ref b2), .val (.ref b129), .unset, .unset, .unset, .unset] [])) _
    refine XS.iloadN X174.here hx rfl (hb hby at_279) rfl ?_
    show Steps p.tables e below (T174.setTop (mkF m 280 #[.val (.int p0), .val (.int p1), .val (.int p2), .val (.int (own_b1 p0)), .val (.int (own_b2 p0)), .val (.int (own_b3 p0)), .val (.int (own_b4 p0)), .val (.ref b2), .val (.ref b129), .unset, .unset, .unset, .unset] [(.int p1)])) _
    refine XS.bipush X174.here hx rfl (hb hby at_280) ?_
    show Steps p.tables e below (T174.setTop (mkF m 282 #[.val (.int p0), .val (.int p1), .val (.int p2), .val (.int (own_b1 p0)), .val (.int (own_b2 p0)), .val (.int (own_b3 p0)), .val (.int (own_b4 p0)), .val (.ref b2), .val (.ref b129), .unset, .unset, .unset, .unset] [(.int (7 : Int32)), (.int p1)])) _
    refine XS.iand X174.here hx rfl (hb hby at_282) rfl ?_
    show Steps p.tables e below (T174.setTop (mkF m 283 #[.val (.int p0), .val (.int p1), .val (.int p2), .val (.int (own_b1 p0)), .val (.int (own_b2 p0)), .val (.int (own_b3 p0)), .val (.int (own_b4 p0)), .val (.ref b2), .val (.ref b129), .unset, .unset, .unset, .unset] [(.int (p1 &&& (7 : Int32)))])) _
    refine XS.iconst X174.here hx rfl (hb hby at_283) ?_
    show Steps p.tables e below (T174.setTop (mkF m 284 #[.val (.int p0), .val (.int p1), .val (.int p2), .val (.int (own_b1 p0)), .val (.int (own_b2 p0)), .val (.int (own_b3 p0)), .val (.int (own_b4 p0)), .val (.ref b2), .val (.ref b129), .unset, .unset, .unset, .unset] [(.int (5 : Int32)), (.int (p1 &&& (7 : Int32)))])) _
    refine Jvm.RoadKit.iremM X174 hx rfl (hb hby at_284) rfl (by decide) ?_
    show Steps p.tables e below (T174.setTop (mkF m 285 #[.val (.int p0), .val (.int p1), .val (.int p2), .val (.int (own_b1 p0)), .val (.int (own_b2 p0)), .val (.int (own_b3 p0)), .val (.int (own_b4 p0)), .val (.ref b2), .val (.ref b129), .unset, .unset, .unset, .unset] [(.int (own_k p1))])) _
    show Steps p.tables e below (T174.setTop (mkF m 285 #[.val (.int p0), .val (.int p1), .val (.int p2), .val (.int (own_b1 p0)), .val (.int (own_b2 p0)), .val (.int (own_b3 p0)), .val (.int (own_b4 p0)), .val (.ref b2), .val (.ref b129), .unset, .unset, .unset, .unset] [(.int (own_k p1))])) _
    refine XS.istore X174.here hx rfl (hb hby at_285) rfl (l' := #[.val (.int p0), .val (.int p1), .val (.int p2), .val (.int (own_b1 p0)), .val (.int (own_b2 p0)), .val (.int (own_b3 p0)), .val (.int (own_b4 p0)), .val (.ref b2), .val (.ref b129), .val (.int (own_k p1)), .unset, .unset, .unset]) rfl ?_
    show Steps p.tables e below (T174.setTop (mkF m 287 #[.val (.int p0), .val (.int p1), .val (.int p2), .val (.int (own_b1 p0)), .val (.int (own_b2 p0)), .val (.int (own_b3 p0)), .val (.int (own_b4 p0)), .val (.ref b2), .val (.ref b129), .val (.int (own_k p1)), .unset, .unset, .unset] [])) _
    refine XS.iloadN X174.here hx rfl (hb hby at_287) rfl ?_
    show Steps p.tables e below (T174.setTop (mkF m 288 #[.val (.int p0), .val (.int p1), .val (.int p2), .val (.int (own_b1 p0)), .val (.int (own_b2 p0)), .val (.int (own_b3 p0)), .val (.int (own_b4 p0)), .val (.ref b2), .val (.ref b129), .val (.int (own_k p1)), .unset, .unset, .unset] [(.int p2)])) _
    refine XS.bipush X174.here hx rfl (hb hby at_288) ?_
    show Steps p.tables e below (T174.setTop (mkF m 290 #[.val (.int p0), .val (.int p1), .val (.int p2), .val (.int (own_b1 p0)), .val (.int (own_b2 p0)), .val (.int (own_b3 p0)), .val (.int (own_b4 p0)), .val (.ref b2), .val (.ref b129), .val (.int (own_k p1)), .unset, .unset, .unset] [(.int (7 : Int32)), (.int p2)])) _
    refine XS.iand X174.here hx rfl (hb hby at_290) rfl ?_
    show Steps p.tables e below (T174.setTop (mkF m 291 #[.val (.int p0), .val (.int p1), .val (.int p2), .val (.int (own_b1 p0)), .val (.int (own_b2 p0)), .val (.int (own_b3 p0)), .val (.int (own_b4 p0)), .val (.ref b2), .val (.ref b129), .val (.int (own_k p1)), .unset, .unset, .unset] [(.int (p2 &&& (7 : Int32)))])) _
    refine XS.bipush X174.here hx rfl (hb hby at_291) ?_
    show Steps p.tables e below (T174.setTop (mkF m 293 #[.val (.int p0), .val (.int p1), .val (.int p2), .val (.int (own_b1 p0)), .val (.int (own_b2 p0)), .val (.int (own_b3 p0)), .val (.int (own_b4 p0)), .val (.ref b2), .val (.ref b129), .val (.int (own_k p1)), .unset, .unset, .unset] [(.int (6 : Int32)), (.int (p2 &&& (7 : Int32)))])) _
    refine Jvm.RoadKit.iremM X174 hx rfl (hb hby at_293) rfl (by decide) ?_
    show Steps p.tables e below (T174.setTop (mkF m 294 #[.val (.int p0), .val (.int p1), .val (.int p2), .val (.int (own_b1 p0)), .val (.int (own_b2 p0)), .val (.int (own_b3 p0)), .val (.int (own_b4 p0)), .val (.ref b2), .val (.ref b129), .val (.int (own_k p1)), .unset, .unset, .unset] [(.int (own_a p2))])) _
    show Steps p.tables e below (T174.setTop (mkF m 294 #[.val (.int p0), .val (.int p1), .val (.int p2), .val (.int (own_b1 p0)), .val (.int (own_b2 p0)), .val (.int (own_b3 p0)), .val (.int (own_b4 p0)), .val (.ref b2), .val (.ref b129), .val (.int (own_k p1)), .unset, .unset, .unset] [(.int (own_a p2))])) _
    refine XS.istore X174.here hx rfl (hb hby at_294) rfl (l' := #[.val (.int p0), .val (.int p1), .val (.int p2), .val (.int (own_b1 p0)), .val (.int (own_b2 p0)), .val (.int (own_b3 p0)), .val (.int (own_b4 p0)), .val (.ref b2), .val (.ref b129), .val (.int (own_k p1)), .val (.int (own_a p2)), .unset, .unset]) rfl ?_
    show Steps p.tables e below (T174.setTop (mkF m 296 #[.val (.int p0), .val (.int p1), .val (.int p2), .val (.int (own_b1 p0)), .val (.int (own_b2 p0)), .val (.int (own_b3 p0)), .val (.int (own_b4 p0)), .val (.ref b2), .val (.ref b129), .val (.int (own_k p1)), .val (.int (own_a p2)), .unset, .unset] [])) _
    refine XS.iload X174.here hx rfl (hb hby at_296) rfl ?_
    show Steps p.tables e below (T174.setTop (mkF m 298 #[.val (.int p0), .val (.int p1), .val (.int p2), .val (.int (own_b1 p0)), .val (.int (own_b2 p0)), .val (.int (own_b3 p0)), .val (.int (own_b4 p0)), .val (.ref b2), .val (.ref b129), .val (.int (own_k p1)), .val (.int (own_a p2)), .unset, .unset] [(.int (own_a p2))])) _
    refine XS.iconst X174.here hx rfl (hb hby at_298) ?_
    exact kt
  obtain ⟨jk, hk⟩ := own_kf p1
  obtain ⟨ja, ha⟩ := own_af p2
  have hkb : ¬ (own_k p1) < (0 : Int32) ∧ (own_k p1) < (5 : Int32) := by rw [hk]; exact (by decide +kernel : ∀ j : Fin 5, ¬ Int32.ofNat j.val < (0 : Int32) ∧ Int32.ofNat j.val < (5 : Int32)) jk
  have hab : ¬ (own_a p2) < (0 : Int32) ∧ (¬ (own_a p2) = (5 : Int32) → (own_a p2) < (5 : Int32)) := by rw [ha]; exact (by decide +kernel : ∀ j : Fin 6, ¬ Int32.ofNat j.val < (0 : Int32) ∧ (¬ Int32.ofNat j.val = (5 : Int32) → Int32.ofNat j.val < (5 : Int32))) ja
  have isA : (own_anc [(.ref b5), (.ref b18), (.ref b31), (.ref b44), (.ref b57)] (own_a p2)).isRef = true := own_anc_is hrefs _
  have pre177 : ∀ t, Steps p.tables e below (T174.setTop (mkF m 311 #[.val (.int p0), .val (.int p1), .val (.int p2), .val (.int (own_b1 p0)), .val (.int (own_b2 p0)), .val (.int (own_b3 p0)), .val (.int (own_b4 p0)), .val (.ref b2), .val (.ref b129), .val (.int (own_k p1)), .val (.int (own_a p2)), .unset, .unset] [(own_anc [(.ref b5), (.ref b18), (.ref b31), (.ref b44), (.ref b57)] (own_a p2))])) t → Steps p.tables e below (s₁.setTop (entryFrame m #[(.int p0), (.int p1), (.int p2)] maxLocals)) t := fun t kt => by
    by_cases c1 : (own_a p2) = (5 : Int32)
    · have pre178 : ∀ t, Steps p.tables e below (T174.setTop (mkF m 311 #[.val (.int p0), .val (.int p1), .val (.int p2), .val (.int (own_b1 p0)), .val (.int (own_b2 p0)), .val (.int (own_b3 p0)), .val (.int (own_b4 p0)), .val (.ref b2), .val (.ref b129), .val (.int (own_k p1)), .val (.int (own_a p2)), .unset, .unset] [.null])) t → Steps p.tables e below (s₁.setTop (entryFrame m #[(.int p0), (.int p1), (.int p2)] maxLocals)) t := fun t kt => by
        refine pre176 _ ?_
        show Steps p.tables e below (T174.setTop (mkF m 299 #[.val (.int p0), .val (.int p1), .val (.int p2), .val (.int (own_b1 p0)), .val (.int (own_b2 p0)), .val (.int (own_b3 p0)), .val (.int (own_b4 p0)), .val (.ref b2), .val (.ref b129), .val (.int (own_k p1)), .val (.int (own_a p2)), .unset, .unset] [(.int (5 : Int32)), (.int (own_a p2))])) _
        refine XS.icmpNo X174.here hx rfl (hb hby at_299) rfl (teq (c1 : (own_a p2) = (5 : Int32))).2 ?_
        show Steps p.tables e below (T174.setTop (mkF m 302 #[.val (.int p0), .val (.int p1), .val (.int p2), .val (.int (own_b1 p0)), .val (.int (own_b2 p0)), .val (.int (own_b3 p0)), .val (.int (own_b4 p0)), .val (.ref b2), .val (.ref b129), .val (.int (own_k p1)), .val (.int (own_a p2)), .unset, .unset] [])) _
        refine XS.aconstNull X174.here hx rfl (hb hby at_302) ?_
        show Steps p.tables e below (T174.setTop (mkF m 303 #[.val (.int p0), .val (.int p1), .val (.int p2), .val (.int (own_b1 p0)), .val (.int (own_b2 p0)), .val (.int (own_b3 p0)), .val (.int (own_b4 p0)), .val (.ref b2), .val (.ref b129), .val (.int (own_k p1)), .val (.int (own_a p2)), .unset, .unset] [.null])) _
        refine XS.goto X174.here hx rfl (pc0 := 303) (pc' := 311) rfl (hb hby at_303) (by decide) (by decide) ?_
        exact kt
      rw [show (own_anc [(.ref b5), (.ref b18), (.ref b31), (.ref b44), (.ref b57)] (own_a p2)) = .null from if_pos c1] at kt
      exact pre178 _ kt
    · have pre179 : ∀ t, Steps p.tables e below (T174.setTop (mkF m 310 #[.val (.int p0), .val (.int p1), .val (.int p2), .val (.int (own_b1 p0)), .val (.int (own_b2 p0)), .val (.int (own_b3 p0)), .val (.int (own_b4 p0)), .val (.ref b2), .val (.ref b129), .val (.int (own_k p1)), .val (.int (own_a p2)), .unset, .unset] [(.int (own_a p2)), (.ref b2)])) t → Steps p.tables e below (s₁.setTop (entryFrame m #[(.int p0), (.int p1), (.int p2)] maxLocals)) t := fun t kt => by
        refine pre176 _ ?_
        show Steps p.tables e below (T174.setTop (mkF m 299 #[.val (.int p0), .val (.int p1), .val (.int p2), .val (.int (own_b1 p0)), .val (.int (own_b2 p0)), .val (.int (own_b3 p0)), .val (.int (own_b4 p0)), .val (.ref b2), .val (.ref b129), .val (.int (own_k p1)), .val (.int (own_a p2)), .unset, .unset] [(.int (5 : Int32)), (.int (own_a p2))])) _
        refine XS.icmpYes X174.here hx rfl (pc0 := 299) (pc' := 306) rfl (hb hby at_299) rfl (feq (c1 : ¬ ((own_a p2) = (5 : Int32)))).2 (by decide) (by decide) ?_
        show Steps p.tables e below (T174.setTop (mkF m 306 #[.val (.int p0), .val (.int p1), .val (.int p2), .val (.int (own_b1 p0)), .val (.int (own_b2 p0)), .val (.int (own_b3 p0)), .val (.int (own_b4 p0)), .val (.ref b2), .val (.ref b129), .val (.int (own_k p1)), .val (.int (own_a p2)), .unset, .unset] [])) _
        refine XS.aload X174.here hx rfl (hb hby at_306) rfl rfl ?_
        show Steps p.tables e below (T174.setTop (mkF m 308 #[.val (.int p0), .val (.int p1), .val (.int p2), .val (.int (own_b1 p0)), .val (.int (own_b2 p0)), .val (.int (own_b3 p0)), .val (.int (own_b4 p0)), .val (.ref b2), .val (.ref b129), .val (.int (own_k p1)), .val (.int (own_a p2)), .unset, .unset] [(.ref b2)])) _
        refine XS.iload X174.here hx rfl (hb hby at_308) rfl ?_
        exact kt
      have f180 := (((((((f116.other W126 (Nat.ne_of_lt (Nat.lt_of_lt_of_le V54'.lt (Nat.le_of_eq gq57.symm)))).ext E129).other W134 (Nat.ne_of_lt (Nat.lt_of_lt_of_le (f116.other W126 (Nat.ne_of_lt (Nat.lt_of_lt_of_le V54'.lt (Nat.le_of_eq gq57.symm)))).lt (Nat.le_of_eq gq129.symm)))).other W144 (Nat.ne_of_lt (Nat.lt_of_lt_of_le (f116.other W126 (Nat.ne_of_lt (Nat.lt_of_lt_of_le V54'.lt (Nat.le_of_eq gq57.symm)))).lt (Nat.le_of_eq gq129.symm)))).other W154 (Nat.ne_of_lt (Nat.lt_of_lt_of_le (f116.other W126 (Nat.ne_of_lt (Nat.lt_of_lt_of_le V54'.lt (Nat.le_of_eq gq57.symm)))).lt (Nat.le_of_eq gq129.symm)))).other W164 (Nat.ne_of_lt (Nat.lt_of_lt_of_le (f116.other W126 (Nat.ne_of_lt (Nat.lt_of_lt_of_le V54'.lt (Nat.le_of_eq gq57.symm)))).lt (Nat.le_of_eq gq129.symm)))).other W174 (Nat.ne_of_lt (Nat.lt_of_lt_of_le (f116.other W126 (Nat.ne_of_lt (Nat.lt_of_lt_of_le V54'.lt (Nat.le_of_eq gq57.symm)))).lt (Nat.le_of_eq gq129.symm))))
      obtain ⟨cl181, Ar181, qk181, Sz181, Nn181, Hh181, Gg181⟩ := id f180
      have hin181 : ¬ ((own_a p2) < 0 ∨ cl181.slots.size ≤ ((own_a p2)).toNatClampNeg) := inb_of Sz181 ⟨hab.1, hab.2 c1⟩
      have hat181 : cl181.slots[((own_a p2)).toNatClampNeg]? = some (([(.ref b5), (.ref b18), (.ref b31), (.ref b44), (.ref b57)] : List Value).getD (own_a p2).toNatClampNeg .null) := Hh181.at hin181 rfl
      have isv181 : ((([(.ref b5), (.ref b18), (.ref b31), (.ref b44), (.ref b57)] : List Value).getD (own_a p2).toNatClampNeg .null)).isRef = true := fit_R (Gg181 _ (Nat.lt_of_not_le fun y => hin181 (Or.inr y))) rfl
      have catv181 : ((([(.ref b5), (.ref b18), (.ref b31), (.ref b44), (.ref b57)] : List Value).getD (own_a p2).toNatClampNeg .null)).category = 1 := by rcases ref_cases isv181 with q | ⟨_, q⟩ <;> rw [q] <;> rfl
      have pre182 : ∀ t, Steps p.tables e below (T174.setTop (mkF m 311 #[.val (.int p0), .val (.int p1), .val (.int p2), .val (.int (own_b1 p0)), .val (.int (own_b2 p0)), .val (.int (own_b3 p0)), .val (.int (own_b4 p0)), .val (.ref b2), .val (.ref b129), .val (.int (own_k p1)), .val (.int (own_a p2)), .unset, .unset] [(([(.ref b5), (.ref b18), (.ref b31), (.ref b44), (.ref b57)] : List Value).getD (own_a p2).toNatClampNeg .null)])) t → Steps p.tables e below (s₁.setTop (entryFrame m #[(.int p0), (.int p1), (.int p2)] maxLocals)) t := fun t kt => by
        refine pre179 _ ?_
        show Steps p.tables e below (T174.setTop (mkF m 310 #[.val (.int p0), .val (.int p1), .val (.int p2), .val (.int (own_b1 p0)), .val (.int (own_b2 p0)), .val (.int (own_b3 p0)), .val (.int (own_b4 p0)), .val (.ref b2), .val (.ref b129), .val (.int (own_k p1)), .val (.int (own_a p2)), .unset, .unset] [(.int (own_a p2)), (.ref b2)])) _
        refine X174.aaload hx (j := (own_a p2)) (v := (([(.ref b5), (.ref b18), (.ref b31), (.ref b44), (.ref b57)] : List Value).getD (own_a p2).toNatClampNeg .null)) (by rw [e174]; exact Ar181.1) (State.isArrayOf_alike hZ.alike Ar181.2.1) rfl Ar181.2.2 hin181 hat181 (g := (mkF m 310 #[.val (.int p0), .val (.int p1), .val (.int p2), .val (.int (own_b1 p0)), .val (.int (own_b2 p0)), .val (.int (own_b3 p0)), .val (.int (own_b4 p0)), .val (.ref b2), .val (.ref b129), .val (.int (own_k p1)), .val (.int (own_a p2)), .unset, .unset] [(.int (own_a p2)), (.ref b2)])) rfl rfl (hb hby at_310) _ ?_
        exact kt
      rw [show (own_anc [(.ref b5), (.ref b18), (.ref b31), (.ref b44), (.ref b57)] (own_a p2)) = (([(.ref b5), (.ref b18), (.ref b31), (.ref b44), (.ref b57)] : List Value).getD (own_a p2).toNatClampNeg .null) from if_neg c1] at kt
      exact pre182 _ kt
  have pre183 : ∀ t, Steps p.tables e below (T174.setTop (mkF m 316 #[.val (.int p0), .val (.int p1), .val (.int p2), .val (.int (own_b1 p0)), .val (.int (own_b2 p0)), .val (.int (own_b3 p0)), .val (.int (own_b4 p0)), .val (.ref b2), .val (.ref b129), .val (.int (own_k p1)), .val (.int (own_a p2)), .val (own_anc [(.ref b5), (.ref b18), (.ref b31), (.ref b44), (.ref b57)] (own_a p2)), .unset] [(.int (5 : Int32)), (.int (own_a p2))])) t → Steps p.tables e below (s₁.setTop (entryFrame m #[(.int p0), (.int p1), (.int p2)] maxLocals)) t := fun t kt => by
    refine pre177 _ ?_
    show Steps p.tables e below (T174.setTop (mkF m 311 #[.val (.int p0), .val (.int p1), .val (.int p2), .val (.int (own_b1 p0)), .val (.int (own_b2 p0)), .val (.int (own_b3 p0)), .val (.int (own_b4 p0)), .val (.ref b2), .val (.ref b129), .val (.int (own_k p1)), .val (.int (own_a p2)), .unset, .unset] [(own_anc [(.ref b5), (.ref b18), (.ref b31), (.ref b44), (.ref b57)] (own_a p2))])) _
    refine XS.astore X174.here hx rfl (hb hby at_311) rfl isA (l' := #[.val (.int p0), .val (.int p1), .val (.int p2), .val (.int (own_b1 p0)), .val (.int (own_b2 p0)), .val (.int (own_b3 p0)), .val (.int (own_b4 p0)), .val (.ref b2), .val (.ref b129), .val (.int (own_k p1)), .val (.int (own_a p2)), .val (own_anc [(.ref b5), (.ref b18), (.ref b31), (.ref b44), (.ref b57)] (own_a p2)), .unset]) (by rcases ref_cases isA with qs0 | ⟨_, qs0⟩ <;> simp only [qs0] <;> rfl) ?_
    show Steps p.tables e below (T174.setTop (mkF m 313 #[.val (.int p0), .val (.int p1), .val (.int p2), .val (.int (own_b1 p0)), .val (.int (own_b2 p0)), .val (.int (own_b3 p0)), .val (.int (own_b4 p0)), .val (.ref b2), .val (.ref b129), .val (.int (own_k p1)), .val (.int (own_a p2)), .val (own_anc [(.ref b5), (.ref b18), (.ref b31), (.ref b44), (.ref b57)] (own_a p2)), .unset] [])) _
    refine XS.iload X174.here hx rfl (hb hby at_313) rfl ?_
    show Steps p.tables e below (T174.setTop (mkF m 315 #[.val (.int p0), .val (.int p1), .val (.int p2), .val (.int (own_b1 p0)), .val (.int (own_b2 p0)), .val (.int (own_b3 p0)), .val (.int (own_b4 p0)), .val (.ref b2), .val (.ref b129), .val (.int (own_k p1)), .val (.int (own_a p2)), .val (own_anc [(.ref b5), (.ref b18), (.ref b31), (.ref b44), (.ref b57)] (own_a p2)), .unset] [(.int (own_a p2))])) _
    refine XS.iconst X174.here hx rfl (hb hby at_315) ?_
    exact kt
  have pre184 : ∀ t, Steps p.tables e below (T174.setTop (mkF m 337 #[.val (.int p0), .val (.int p1), .val (.int p2), .val (.int (own_b1 p0)), .val (.int (own_b2 p0)), .val (.int (own_b3 p0)), .val (.int (own_b4 p0)), .val (.ref b2), .val (.ref b129), .val (.int (own_k p1)), .val (.int (own_a p2)), .val (own_anc [(.ref b5), (.ref b18), (.ref b31), (.ref b44), (.ref b57)] (own_a p2)), .unset] [(.int (own_e ([(1 : Int32), (own_m1 (own_b1 p0)), (own_m2 (own_b1 p0) (own_b2 p0)), (own_m3 (own_b1 p0) (own_b2 p0) (own_b3 p0)), (own_m4 (own_b1 p0) (own_b2 p0) (own_b3 p0) (own_b4 p0))].getD (own_k p1).toNatClampNeg 0) (own_a p2)))])) t → Steps p.tables e below (s₁.setTop (entryFrame m #[(.int p0), (.int p1), (.int p2)] maxLocals)) t := fun t kt => by
    by_cases c1 : (own_a p2) < (5 : Int32)
    · have pre185 : ∀ t, Steps p.tables e below (T174.setTop (mkF m 323 #[.val (.int p0), .val (.int p1), .val (.int p2), .val (.int (own_b1 p0)), .val (.int (own_b2 p0)), .val (.int (own_b3 p0)), .val (.int (own_b4 p0)), .val (.ref b2), .val (.ref b129), .val (.int (own_k p1)), .val (.int (own_a p2)), .val (own_anc [(.ref b5), (.ref b18), (.ref b31), (.ref b44), (.ref b57)] (own_a p2)), .unset] [(.int (own_k p1)), (.ref b129)])) t → Steps p.tables e below (s₁.setTop (entryFrame m #[(.int p0), (.int p1), (.int p2)] maxLocals)) t := fun t kt => by
        refine pre183 _ ?_
        show Steps p.tables e below (T174.setTop (mkF m 316 #[.val (.int p0), .val (.int p1), .val (.int p2), .val (.int (own_b1 p0)), .val (.int (own_b2 p0)), .val (.int (own_b3 p0)), .val (.int (own_b4 p0)), .val (.ref b2), .val (.ref b129), .val (.int (own_k p1)), .val (.int (own_a p2)), .val (own_anc [(.ref b5), (.ref b18), (.ref b31), (.ref b44), (.ref b57)] (own_a p2)), .unset] [(.int (5 : Int32)), (.int (own_a p2))])) _
        refine XS.icmpNo X174.here hx rfl (hb hby at_316) rfl (tlt (c1 : (own_a p2) < (5 : Int32))).2.1 ?_
        show Steps p.tables e below (T174.setTop (mkF m 319 #[.val (.int p0), .val (.int p1), .val (.int p2), .val (.int (own_b1 p0)), .val (.int (own_b2 p0)), .val (.int (own_b3 p0)), .val (.int (own_b4 p0)), .val (.ref b2), .val (.ref b129), .val (.int (own_k p1)), .val (.int (own_a p2)), .val (own_anc [(.ref b5), (.ref b18), (.ref b31), (.ref b44), (.ref b57)] (own_a p2)), .unset] [])) _
        refine XS.aload X174.here hx rfl (hb hby at_319) rfl rfl ?_
        show Steps p.tables e below (T174.setTop (mkF m 321 #[.val (.int p0), .val (.int p1), .val (.int p2), .val (.int (own_b1 p0)), .val (.int (own_b2 p0)), .val (.int (own_b3 p0)), .val (.int (own_b4 p0)), .val (.ref b2), .val (.ref b129), .val (.int (own_k p1)), .val (.int (own_a p2)), .val (own_anc [(.ref b5), (.ref b18), (.ref b31), (.ref b44), (.ref b57)] (own_a p2)), .unset] [(.ref b129)])) _
        refine XS.iload X174.here hx rfl (hb hby at_321) rfl ?_
        exact kt
      obtain ⟨cl186, Ar186, qk186, Sz186, Nn186, Hh186, Gg186⟩ := id V174'
      have hin186 : ¬ ((own_k p1) < 0 ∨ cl186.slots.size ≤ ((own_k p1)).toNatClampNeg) := inb_of Sz186 hkb
      have hat186 : cl186.slots[((own_k p1)).toNatClampNeg]? = some (.int ([(1 : Int32), (own_m1 (own_b1 p0)), (own_m2 (own_b1 p0) (own_b2 p0)), (own_m3 (own_b1 p0) (own_b2 p0) (own_b3 p0)), (own_m4 (own_b1 p0) (own_b2 p0) (own_b3 p0) (own_b4 p0))].getD (own_k p1).toNatClampNeg 0)) := Hh186.at hin186 (own_getD [(1 : Int32), (own_m1 (own_b1 p0)), (own_m2 (own_b1 p0) (own_b2 p0)), (own_m3 (own_b1 p0) (own_b2 p0) (own_b3 p0)), (own_m4 (own_b1 p0) (own_b2 p0) (own_b3 p0) (own_b4 p0))] _)
      have pre187 : ∀ t, Steps p.tables e below (T174.setTop (mkF m 329 #[.val (.int p0), .val (.int p1), .val (.int p2), .val (.int (own_b1 p0)), .val (.int (own_b2 p0)), .val (.int (own_b3 p0)), .val (.int (own_b4 p0)), .val (.ref b2), .val (.ref b129), .val (.int (own_k p1)), .val (.int (own_a p2)), .val (own_anc [(.ref b5), (.ref b18), (.ref b31), (.ref b44), (.ref b57)] (own_a p2)), .unset] [(.int (own_bit ([(1 : Int32), (own_m1 (own_b1 p0)), (own_m2 (own_b1 p0) (own_b2 p0)), (own_m3 (own_b1 p0) (own_b2 p0) (own_b3 p0)), (own_m4 (own_b1 p0) (own_b2 p0) (own_b3 p0) (own_b4 p0))].getD (own_k p1).toNatClampNeg 0) (own_a p2)))])) t → Steps p.tables e below (s₁.setTop (entryFrame m #[(.int p0), (.int p1), (.int p2)] maxLocals)) t := fun t kt => by
        refine pre185 _ ?_
        show Steps p.tables e below (T174.setTop (mkF m 323 #[.val (.int p0), .val (.int p1), .val (.int p2), .val (.int (own_b1 p0)), .val (.int (own_b2 p0)), .val (.int (own_b3 p0)), .val (.int (own_b4 p0)), .val (.ref b2), .val (.ref b129), .val (.int (own_k p1)), .val (.int (own_a p2)), .val (own_anc [(.ref b5), (.ref b18), (.ref b31), (.ref b44), (.ref b57)] (own_a p2)), .unset] [(.int (own_k p1)), (.ref b129)])) _
        refine X174.iaload hx (j := (own_k p1)) (v := (.int ([(1 : Int32), (own_m1 (own_b1 p0)), (own_m2 (own_b1 p0) (own_b2 p0)), (own_m3 (own_b1 p0) (own_b2 p0) (own_b3 p0)), (own_m4 (own_b1 p0) (own_b2 p0) (own_b3 p0) (own_b4 p0))].getD (own_k p1).toNatClampNeg 0))) (by rw [e174]; exact Ar186.1) (State.isArrayOf_alike hZ.alike Ar186.2.1) Ar186.2.2 hin186 hat186 (g := (mkF m 323 #[.val (.int p0), .val (.int p1), .val (.int p2), .val (.int (own_b1 p0)), .val (.int (own_b2 p0)), .val (.int (own_b3 p0)), .val (.int (own_b4 p0)), .val (.ref b2), .val (.ref b129), .val (.int (own_k p1)), .val (.int (own_a p2)), .val (own_anc [(.ref b5), (.ref b18), (.ref b31), (.ref b44), (.ref b57)] (own_a p2)), .unset] [(.int (own_k p1)), (.ref b129)])) rfl rfl (hb hby at_323) _ ?_
        show Steps p.tables e below (T174.setTop (mkF m 324 #[.val (.int p0), .val (.int p1), .val (.int p2), .val (.int (own_b1 p0)), .val (.int (own_b2 p0)), .val (.int (own_b3 p0)), .val (.int (own_b4 p0)), .val (.ref b2), .val (.ref b129), .val (.int (own_k p1)), .val (.int (own_a p2)), .val (own_anc [(.ref b5), (.ref b18), (.ref b31), (.ref b44), (.ref b57)] (own_a p2)), .unset] [(.int ([(1 : Int32), (own_m1 (own_b1 p0)), (own_m2 (own_b1 p0) (own_b2 p0)), (own_m3 (own_b1 p0) (own_b2 p0) (own_b3 p0)), (own_m4 (own_b1 p0) (own_b2 p0) (own_b3 p0) (own_b4 p0))].getD (own_k p1).toNatClampNeg 0))])) _
        refine XS.iload X174.here hx rfl (hb hby at_324) rfl ?_
        show Steps p.tables e below (T174.setTop (mkF m 326 #[.val (.int p0), .val (.int p1), .val (.int p2), .val (.int (own_b1 p0)), .val (.int (own_b2 p0)), .val (.int (own_b3 p0)), .val (.int (own_b4 p0)), .val (.ref b2), .val (.ref b129), .val (.int (own_k p1)), .val (.int (own_a p2)), .val (own_anc [(.ref b5), (.ref b18), (.ref b31), (.ref b44), (.ref b57)] (own_a p2)), .unset] [(.int (own_a p2)), (.int ([(1 : Int32), (own_m1 (own_b1 p0)), (own_m2 (own_b1 p0) (own_b2 p0)), (own_m3 (own_b1 p0) (own_b2 p0) (own_b3 p0)), (own_m4 (own_b1 p0) (own_b2 p0) (own_b3 p0) (own_b4 p0))].getD (own_k p1).toNatClampNeg 0))])) _
        refine XS.iushr X174.here hx rfl (hb hby at_326) rfl ?_
        show Steps p.tables e below (T174.setTop (mkF m 327 #[.val (.int p0), .val (.int p1), .val (.int p2), .val (.int (own_b1 p0)), .val (.int (own_b2 p0)), .val (.int (own_b3 p0)), .val (.int (own_b4 p0)), .val (.ref b2), .val (.ref b129), .val (.int (own_k p1)), .val (.int (own_a p2)), .val (own_anc [(.ref b5), (.ref b18), (.ref b31), (.ref b44), (.ref b57)] (own_a p2)), .unset] [(.int ((([(1 : Int32), (own_m1 (own_b1 p0)), (own_m2 (own_b1 p0) (own_b2 p0)), (own_m3 (own_b1 p0) (own_b2 p0) (own_b3 p0)), (own_m4 (own_b1 p0) (own_b2 p0) (own_b3 p0) (own_b4 p0))].getD (own_k p1).toNatClampNeg 0).toUInt32 >>> ((own_a p2) &&& 31).toUInt32).toInt32))])) _
        refine XS.iconst X174.here hx rfl (hb hby at_327) ?_
        show Steps p.tables e below (T174.setTop (mkF m 328 #[.val (.int p0), .val (.int p1), .val (.int p2), .val (.int (own_b1 p0)), .val (.int (own_b2 p0)), .val (.int (own_b3 p0)), .val (.int (own_b4 p0)), .val (.ref b2), .val (.ref b129), .val (.int (own_k p1)), .val (.int (own_a p2)), .val (own_anc [(.ref b5), (.ref b18), (.ref b31), (.ref b44), (.ref b57)] (own_a p2)), .unset] [(.int (1 : Int32)), (.int ((([(1 : Int32), (own_m1 (own_b1 p0)), (own_m2 (own_b1 p0) (own_b2 p0)), (own_m3 (own_b1 p0) (own_b2 p0) (own_b3 p0)), (own_m4 (own_b1 p0) (own_b2 p0) (own_b3 p0) (own_b4 p0))].getD (own_k p1).toNatClampNeg 0).toUInt32 >>> ((own_a p2) &&& 31).toUInt32).toInt32))])) _
        refine XS.iand X174.here hx rfl (hb hby at_328) rfl ?_
        show Steps p.tables e below (T174.setTop (mkF m 329 #[.val (.int p0), .val (.int p1), .val (.int p2), .val (.int (own_b1 p0)), .val (.int (own_b2 p0)), .val (.int (own_b3 p0)), .val (.int (own_b4 p0)), .val (.ref b2), .val (.ref b129), .val (.int (own_k p1)), .val (.int (own_a p2)), .val (own_anc [(.ref b5), (.ref b18), (.ref b31), (.ref b44), (.ref b57)] (own_a p2)), .unset] [(.int (own_bit ([(1 : Int32), (own_m1 (own_b1 p0)), (own_m2 (own_b1 p0) (own_b2 p0)), (own_m3 (own_b1 p0) (own_b2 p0) (own_b3 p0)), (own_m4 (own_b1 p0) (own_b2 p0) (own_b3 p0) (own_b4 p0))].getD (own_k p1).toNatClampNeg 0) (own_a p2)))])) _
        exact kt
      by_cases c2 : (own_bit ([(1 : Int32), (own_m1 (own_b1 p0)), (own_m2 (own_b1 p0) (own_b2 p0)), (own_m3 (own_b1 p0) (own_b2 p0) (own_b3 p0)), (own_m4 (own_b1 p0) (own_b2 p0) (own_b3 p0) (own_b4 p0))].getD (own_k p1).toNatClampNeg 0) (own_a p2)) = (0 : Int32)
      · have pre188 : ∀ t, Steps p.tables e below (T174.setTop (mkF m 337 #[.val (.int p0), .val (.int p1), .val (.int p2), .val (.int (own_b1 p0)), .val (.int (own_b2 p0)), .val (.int (own_b3 p0)), .val (.int (own_b4 p0)), .val (.ref b2), .val (.ref b129), .val (.int (own_k p1)), .val (.int (own_a p2)), .val (own_anc [(.ref b5), (.ref b18), (.ref b31), (.ref b44), (.ref b57)] (own_a p2)), .unset] [(.int (0 : Int32))])) t → Steps p.tables e below (s₁.setTop (entryFrame m #[(.int p0), (.int p1), (.int p2)] maxLocals)) t := fun t kt => by
          refine pre187 _ ?_
          show Steps p.tables e below (T174.setTop (mkF m 329 #[.val (.int p0), .val (.int p1), .val (.int p2), .val (.int (own_b1 p0)), .val (.int (own_b2 p0)), .val (.int (own_b3 p0)), .val (.int (own_b4 p0)), .val (.ref b2), .val (.ref b129), .val (.int (own_k p1)), .val (.int (own_a p2)), .val (own_anc [(.ref b5), (.ref b18), (.ref b31), (.ref b44), (.ref b57)] (own_a p2)), .unset] [(.int (own_bit ([(1 : Int32), (own_m1 (own_b1 p0)), (own_m2 (own_b1 p0) (own_b2 p0)), (own_m3 (own_b1 p0) (own_b2 p0) (own_b3 p0)), (own_m4 (own_b1 p0) (own_b2 p0) (own_b3 p0) (own_b4 p0))].getD (own_k p1).toNatClampNeg 0) (own_a p2)))])) _
          refine XS.ifYes X174.here hx rfl (pc0 := 329) (pc' := 336) rfl (hb hby at_329) rfl ((if0 _ _).trans (teq (c2 : (own_bit ([(1 : Int32), (own_m1 (own_b1 p0)), (own_m2 (own_b1 p0) (own_b2 p0)), (own_m3 (own_b1 p0) (own_b2 p0) (own_b3 p0)), (own_m4 (own_b1 p0) (own_b2 p0) (own_b3 p0) (own_b4 p0))].getD (own_k p1).toNatClampNeg 0) (own_a p2)) = (0 : Int32))).1) (by decide) (by decide) ?_
          show Steps p.tables e below (T174.setTop (mkF m 336 #[.val (.int p0), .val (.int p1), .val (.int p2), .val (.int (own_b1 p0)), .val (.int (own_b2 p0)), .val (.int (own_b3 p0)), .val (.int (own_b4 p0)), .val (.ref b2), .val (.ref b129), .val (.int (own_k p1)), .val (.int (own_a p2)), .val (own_anc [(.ref b5), (.ref b18), (.ref b31), (.ref b44), (.ref b57)] (own_a p2)), .unset] [])) _
          refine XS.iconst X174.here hx rfl (hb hby at_336) ?_
          exact kt
        rw [show (own_e ([(1 : Int32), (own_m1 (own_b1 p0)), (own_m2 (own_b1 p0) (own_b2 p0)), (own_m3 (own_b1 p0) (own_b2 p0) (own_b3 p0)), (own_m4 (own_b1 p0) (own_b2 p0) (own_b3 p0) (own_b4 p0))].getD (own_k p1).toNatClampNeg 0) (own_a p2)) = (0 : Int32) from (if_pos c1).trans (if_pos c2)] at kt
        exact pre188 _ kt
      · have pre189 : ∀ t, Steps p.tables e below (T174.setTop (mkF m 337 #[.val (.int p0), .val (.int p1), .val (.int p2), .val (.int (own_b1 p0)), .val (.int (own_b2 p0)), .val (.int (own_b3 p0)), .val (.int (own_b4 p0)), .val (.ref b2), .val (.ref b129), .val (.int (own_k p1)), .val (.int (own_a p2)), .val (own_anc [(.ref b5), (.ref b18), (.ref b31), (.ref b44), (.ref b57)] (own_a p2)), .unset] [(.int (1 : Int32))])) t → Steps p.tables e below (s₁.setTop (entryFrame m #[(.int p0), (.int p1), (.int p2)] maxLocals)) t := fun t kt => by
          refine pre187 _ ?_
          show Steps p.tables e below (T174.setTop (mkF m 329 #[.val (.int p0), .val (.int p1), .val (.int p2), .val (.int (own_b1 p0)), .val (.int (own_b2 p0)), .val (.int (own_b3 p0)), .val (.int (own_b4 p0)), .val (.ref b2), .val (.ref b129), .val (.int (own_k p1)), .val (.int (own_a p2)), .val (own_anc [(.ref b5), (.ref b18), (.ref b31), (.ref b44), (.ref b57)] (own_a p2)), .unset] [(.int (own_bit ([(1 : Int32), (own_m1 (own_b1 p0)), (own_m2 (own_b1 p0) (own_b2 p0)), (own_m3 (own_b1 p0) (own_b2 p0) (own_b3 p0)), (own_m4 (own_b1 p0) (own_b2 p0) (own_b3 p0) (own_b4 p0))].getD (own_k p1).toNatClampNeg 0) (own_a p2)))])) _
          refine XS.ifNo X174.here hx rfl (hb hby at_329) rfl ((if0 _ _).trans (feq (c2 : ¬ ((own_bit ([(1 : Int32), (own_m1 (own_b1 p0)), (own_m2 (own_b1 p0) (own_b2 p0)), (own_m3 (own_b1 p0) (own_b2 p0) (own_b3 p0)), (own_m4 (own_b1 p0) (own_b2 p0) (own_b3 p0) (own_b4 p0))].getD (own_k p1).toNatClampNeg 0) (own_a p2)) = (0 : Int32)))).1) ?_
          show Steps p.tables e below (T174.setTop (mkF m 332 #[.val (.int p0), .val (.int p1), .val (.int p2), .val (.int (own_b1 p0)), .val (.int (own_b2 p0)), .val (.int (own_b3 p0)), .val (.int (own_b4 p0)), .val (.ref b2), .val (.ref b129), .val (.int (own_k p1)), .val (.int (own_a p2)), .val (own_anc [(.ref b5), (.ref b18), (.ref b31), (.ref b44), (.ref b57)] (own_a p2)), .unset] [])) _
          refine XS.iconst X174.here hx rfl (hb hby at_332) ?_
          show Steps p.tables e below (T174.setTop (mkF m 333 #[.val (.int p0), .val (.int p1), .val (.int p2), .val (.int (own_b1 p0)), .val (.int (own_b2 p0)), .val (.int (own_b3 p0)), .val (.int (own_b4 p0)), .val (.ref b2), .val (.ref b129), .val (.int (own_k p1)), .val (.int (own_a p2)), .val (own_anc [(.ref b5), (.ref b18), (.ref b31), (.ref b44), (.ref b57)] (own_a p2)), .unset] [(.int (1 : Int32))])) _
          refine XS.goto X174.here hx rfl (pc0 := 333) (pc' := 337) rfl (hb hby at_333) (by decide) (by decide) ?_
          exact kt
        rw [show (own_e ([(1 : Int32), (own_m1 (own_b1 p0)), (own_m2 (own_b1 p0) (own_b2 p0)), (own_m3 (own_b1 p0) (own_b2 p0) (own_b3 p0)), (own_m4 (own_b1 p0) (own_b2 p0) (own_b3 p0) (own_b4 p0))].getD (own_k p1).toNatClampNeg 0) (own_a p2)) = (1 : Int32) from (if_pos c1).trans (if_neg c2)] at kt
        exact pre189 _ kt
    · have pre190 : ∀ t, Steps p.tables e below (T174.setTop (mkF m 337 #[.val (.int p0), .val (.int p1), .val (.int p2), .val (.int (own_b1 p0)), .val (.int (own_b2 p0)), .val (.int (own_b3 p0)), .val (.int (own_b4 p0)), .val (.ref b2), .val (.ref b129), .val (.int (own_k p1)), .val (.int (own_a p2)), .val (own_anc [(.ref b5), (.ref b18), (.ref b31), (.ref b44), (.ref b57)] (own_a p2)), .unset] [(.int (0 : Int32))])) t → Steps p.tables e below (s₁.setTop (entryFrame m #[(.int p0), (.int p1), (.int p2)] maxLocals)) t := fun t kt => by
        refine pre183 _ ?_
        show Steps p.tables e below (T174.setTop (mkF m 316 #[.val (.int p0), .val (.int p1), .val (.int p2), .val (.int (own_b1 p0)), .val (.int (own_b2 p0)), .val (.int (own_b3 p0)), .val (.int (own_b4 p0)), .val (.ref b2), .val (.ref b129), .val (.int (own_k p1)), .val (.int (own_a p2)), .val (own_anc [(.ref b5), (.ref b18), (.ref b31), (.ref b44), (.ref b57)] (own_a p2)), .unset] [(.int (5 : Int32)), (.int (own_a p2))])) _
        refine XS.icmpYes X174.here hx rfl (pc0 := 316) (pc' := 336) rfl (hb hby at_316) rfl (flt (c1 : ¬ ((own_a p2) < (5 : Int32)))).2.1 (by decide) (by decide) ?_
        show Steps p.tables e below (T174.setTop (mkF m 336 #[.val (.int p0), .val (.int p1), .val (.int p2), .val (.int (own_b1 p0)), .val (.int (own_b2 p0)), .val (.int (own_b3 p0)), .val (.int (own_b4 p0)), .val (.ref b2), .val (.ref b129), .val (.int (own_k p1)), .val (.int (own_a p2)), .val (own_anc [(.ref b5), (.ref b18), (.ref b31), (.ref b44), (.ref b57)] (own_a p2)), .unset] [])) _
        refine XS.iconst X174.here hx rfl (hb hby at_336) ?_
        exact kt
      rw [show (own_e ([(1 : Int32), (own_m1 (own_b1 p0)), (own_m2 (own_b1 p0) (own_b2 p0)), (own_m3 (own_b1 p0) (own_b2 p0) (own_b3 p0)), (own_m4 (own_b1 p0) (own_b2 p0) (own_b3 p0) (own_b4 p0))].getD (own_k p1).toNatClampNeg 0) (own_a p2)) = (0 : Int32) from if_neg c1] at kt
      exact pre190 _ kt
  have f191 := ((((((((((Fw74.other W87 (Or.inl (Nat.ne_of_lt (Nat.lt_of_lt_of_le (f14.wr W15).lt (Nat.le_of_eq gq18.symm))))).other W100 (Or.inl (Nat.ne_of_lt (Nat.lt_of_lt_of_le ((((f14.wr W15).ext E18).keep K23).wr W28).lt (Nat.le_of_eq gq31.symm))))).other W113 (Or.inl (Nat.ne_of_lt (Nat.lt_of_lt_of_le (((((((f14.wr W15).ext E18).keep K23).wr W28).ext E31).keep K36).wr W41).lt (Nat.le_of_eq gq44.symm))))).other W126 (Or.inl (Nat.ne_of_lt (Nat.lt_of_lt_of_le ((((((((((f14.wr W15).ext E18).keep K23).wr W28).ext E31).keep K36).wr W41).ext E44).keep K49).wr W54).lt (Nat.le_of_eq gq57.symm))))).ext E129).other W134 (Or.inl (Nat.ne_of_lt (Nat.lt_of_lt_of_le (((((f72.wr W74).wr W87).wr W100).wr W113).wr W126).lt (Nat.le_of_eq gq129.symm))))).other W144 (Or.inl (Nat.ne_of_lt (Nat.lt_of_lt_of_le (((((f72.wr W74).wr W87).wr W100).wr W113).wr W126).lt (Nat.le_of_eq gq129.symm))))).other W154 (Or.inl (Nat.ne_of_lt (Nat.lt_of_lt_of_le (((((f72.wr W74).wr W87).wr W100).wr W113).wr W126).lt (Nat.le_of_eq gq129.symm))))).other W164 (Or.inl (Nat.ne_of_lt (Nat.lt_of_lt_of_le (((((f72.wr W74).wr W87).wr W100).wr W113).wr W126).lt (Nat.le_of_eq gq129.symm))))).other W174 (Or.inl (Nat.ne_of_lt (Nat.lt_of_lt_of_le (((((f72.wr W74).wr W87).wr W100).wr W113).wr W126).lt (Nat.le_of_eq gq129.symm)))))
  have f192 := (((((((((Fw87.other W100 (Or.inl (Nat.ne_of_lt (Nat.lt_of_lt_of_le (f27.wr W28).lt (Nat.le_of_eq gq31.symm))))).other W113 (Or.inl (Nat.ne_of_lt (Nat.lt_of_lt_of_le ((((f27.wr W28).ext E31).keep K36).wr W41).lt (Nat.le_of_eq gq44.symm))))).other W126 (Or.inl (Nat.ne_of_lt (Nat.lt_of_lt_of_le (((((((f27.wr W28).ext E31).keep K36).wr W41).ext E44).keep K49).wr W54).lt (Nat.le_of_eq gq57.symm))))).ext E129).other W134 (Or.inl (Nat.ne_of_lt (Nat.lt_of_lt_of_le ((((f86.wr W87).wr W100).wr W113).wr W126).lt (Nat.le_of_eq gq129.symm))))).other W144 (Or.inl (Nat.ne_of_lt (Nat.lt_of_lt_of_le ((((f86.wr W87).wr W100).wr W113).wr W126).lt (Nat.le_of_eq gq129.symm))))).other W154 (Or.inl (Nat.ne_of_lt (Nat.lt_of_lt_of_le ((((f86.wr W87).wr W100).wr W113).wr W126).lt (Nat.le_of_eq gq129.symm))))).other W164 (Or.inl (Nat.ne_of_lt (Nat.lt_of_lt_of_le ((((f86.wr W87).wr W100).wr W113).wr W126).lt (Nat.le_of_eq gq129.symm))))).other W174 (Or.inl (Nat.ne_of_lt (Nat.lt_of_lt_of_le ((((f86.wr W87).wr W100).wr W113).wr W126).lt (Nat.le_of_eq gq129.symm)))))
  have f193 := ((((((((Fw100.other W113 (Or.inl (Nat.ne_of_lt (Nat.lt_of_lt_of_le (f40.wr W41).lt (Nat.le_of_eq gq44.symm))))).other W126 (Or.inl (Nat.ne_of_lt (Nat.lt_of_lt_of_le ((((f40.wr W41).ext E44).keep K49).wr W54).lt (Nat.le_of_eq gq57.symm))))).ext E129).other W134 (Or.inl (Nat.ne_of_lt (Nat.lt_of_lt_of_le (((f99.wr W100).wr W113).wr W126).lt (Nat.le_of_eq gq129.symm))))).other W144 (Or.inl (Nat.ne_of_lt (Nat.lt_of_lt_of_le (((f99.wr W100).wr W113).wr W126).lt (Nat.le_of_eq gq129.symm))))).other W154 (Or.inl (Nat.ne_of_lt (Nat.lt_of_lt_of_le (((f99.wr W100).wr W113).wr W126).lt (Nat.le_of_eq gq129.symm))))).other W164 (Or.inl (Nat.ne_of_lt (Nat.lt_of_lt_of_le (((f99.wr W100).wr W113).wr W126).lt (Nat.le_of_eq gq129.symm))))).other W174 (Or.inl (Nat.ne_of_lt (Nat.lt_of_lt_of_le (((f99.wr W100).wr W113).wr W126).lt (Nat.le_of_eq gq129.symm)))))
  have f194 := (((((((Fw113.other W126 (Or.inl (Nat.ne_of_lt (Nat.lt_of_lt_of_le (f53.wr W54).lt (Nat.le_of_eq gq57.symm))))).ext E129).other W134 (Or.inl (Nat.ne_of_lt (Nat.lt_of_lt_of_le ((f112.wr W113).wr W126).lt (Nat.le_of_eq gq129.symm))))).other W144 (Or.inl (Nat.ne_of_lt (Nat.lt_of_lt_of_le ((f112.wr W113).wr W126).lt (Nat.le_of_eq gq129.symm))))).other W154 (Or.inl (Nat.ne_of_lt (Nat.lt_of_lt_of_le ((f112.wr W113).wr W126).lt (Nat.le_of_eq gq129.symm))))).other W164 (Or.inl (Nat.ne_of_lt (Nat.lt_of_lt_of_le ((f112.wr W113).wr W126).lt (Nat.le_of_eq gq129.symm))))).other W174 (Or.inl (Nat.ne_of_lt (Nat.lt_of_lt_of_le ((f112.wr W113).wr W126).lt (Nat.le_of_eq gq129.symm)))))
  have f195 := ((((((Fw126.ext E129).other W134 (Or.inl (Nat.ne_of_lt (Nat.lt_of_lt_of_le (f125.wr W126).lt (Nat.le_of_eq gq129.symm))))).other W144 (Or.inl (Nat.ne_of_lt (Nat.lt_of_lt_of_le (f125.wr W126).lt (Nat.le_of_eq gq129.symm))))).other W154 (Or.inl (Nat.ne_of_lt (Nat.lt_of_lt_of_le (f125.wr W126).lt (Nat.le_of_eq gq129.symm))))).other W164 (Or.inl (Nat.ne_of_lt (Nat.lt_of_lt_of_le (f125.wr W126).lt (Nat.le_of_eq gq129.symm))))).other W174 (Or.inl (Nat.ne_of_lt (Nat.lt_of_lt_of_le (f125.wr W126).lt (Nat.le_of_eq gq129.symm)))))
  have pre196 : ∀ t, Steps p.tables e below (T174.setTop (mkF m 343 #[.val (.int p0), .val (.int p1), .val (.int p2), .val (.int (own_b1 p0)), .val (.int (own_b2 p0)), .val (.int (own_b3 p0)), .val (.int (own_b4 p0)), .val (.ref b2), .val (.ref b129), .val (.int (own_k p1)), .val (.int (own_a p2)), .val (own_anc [(.ref b5), (.ref b18), (.ref b31), (.ref b44), (.ref b57)] (own_a p2)), .val (.int (own_e ([(1 : Int32), (own_m1 (own_b1 p0)), (own_m2 (own_b1 p0) (own_b2 p0)), (own_m3 (own_b1 p0) (own_b2 p0) (own_b3 p0)), (own_m4 (own_b1 p0) (own_b2 p0) (own_b3 p0) (own_b4 p0))].getD (own_k p1).toNatClampNeg 0) (own_a p2)))] [(.int (own_k p1)), (.ref b2)])) t → Steps p.tables e below (s₁.setTop (entryFrame m #[(.int p0), (.int p1), (.int p2)] maxLocals)) t := fun t kt => by
    refine pre184 _ ?_
    show Steps p.tables e below (T174.setTop (mkF m 337 #[.val (.int p0), .val (.int p1), .val (.int p2), .val (.int (own_b1 p0)), .val (.int (own_b2 p0)), .val (.int (own_b3 p0)), .val (.int (own_b4 p0)), .val (.ref b2), .val (.ref b129), .val (.int (own_k p1)), .val (.int (own_a p2)), .val (own_anc [(.ref b5), (.ref b18), (.ref b31), (.ref b44), (.ref b57)] (own_a p2)), .unset] [(.int (own_e ([(1 : Int32), (own_m1 (own_b1 p0)), (own_m2 (own_b1 p0) (own_b2 p0)), (own_m3 (own_b1 p0) (own_b2 p0) (own_b3 p0)), (own_m4 (own_b1 p0) (own_b2 p0) (own_b3 p0) (own_b4 p0))].getD (own_k p1).toNatClampNeg 0) (own_a p2)))])) _
    refine XS.istore X174.here hx rfl (hb hby at_337) rfl (l' := #[.val (.int p0), .val (.int p1), .val (.int p2), .val (.int (own_b1 p0)), .val (.int (own_b2 p0)), .val (.int (own_b3 p0)), .val (.int (own_b4 p0)), .val (.ref b2), .val (.ref b129), .val (.int (own_k p1)), .val (.int (own_a p2)), .val (own_anc [(.ref b5), (.ref b18), (.ref b31), (.ref b44), (.ref b57)] (own_a p2)), .val (.int (own_e ([(1 : Int32), (own_m1 (own_b1 p0)), (own_m2 (own_b1 p0) (own_b2 p0)), (own_m3 (own_b1 p0) (own_b2 p0) (own_b3 p0)), (own_m4 (own_b1 p0) (own_b2 p0) (own_b3 p0) (own_b4 p0))].getD (own_k p1).toNatClampNeg 0) (own_a p2)))]) (by rcases ref_cases isA with qs0 | ⟨_, qs0⟩ <;> simp only [qs0] <;> rfl) ?_
    show Steps p.tables e below (T174.setTop (mkF m 339 #[.val (.int p0), .val (.int p1), .val (.int p2), .val (.int (own_b1 p0)), .val (.int (own_b2 p0)), .val (.int (own_b3 p0)), .val (.int (own_b4 p0)), .val (.ref b2), .val (.ref b129), .val (.int (own_k p1)), .val (.int (own_a p2)), .val (own_anc [(.ref b5), (.ref b18), (.ref b31), (.ref b44), (.ref b57)] (own_a p2)), .val (.int (own_e ([(1 : Int32), (own_m1 (own_b1 p0)), (own_m2 (own_b1 p0) (own_b2 p0)), (own_m3 (own_b1 p0) (own_b2 p0) (own_b3 p0)), (own_m4 (own_b1 p0) (own_b2 p0) (own_b3 p0) (own_b4 p0))].getD (own_k p1).toNatClampNeg 0) (own_a p2)))] [])) _
    refine XS.aload X174.here hx rfl (hb hby at_339) rfl rfl ?_
    show Steps p.tables e below (T174.setTop (mkF m 341 #[.val (.int p0), .val (.int p1), .val (.int p2), .val (.int (own_b1 p0)), .val (.int (own_b2 p0)), .val (.int (own_b3 p0)), .val (.int (own_b4 p0)), .val (.ref b2), .val (.ref b129), .val (.int (own_k p1)), .val (.int (own_a p2)), .val (own_anc [(.ref b5), (.ref b18), (.ref b31), (.ref b44), (.ref b57)] (own_a p2)), .val (.int (own_e ([(1 : Int32), (own_m1 (own_b1 p0)), (own_m2 (own_b1 p0) (own_b2 p0)), (own_m3 (own_b1 p0) (own_b2 p0) (own_b3 p0)), (own_m4 (own_b1 p0) (own_b2 p0) (own_b3 p0) (own_b4 p0))].getD (own_k p1).toNatClampNeg 0) (own_a p2)))] [(.ref b2)])) _
    refine XS.iload X174.here hx rfl (hb hby at_341) rfl ?_
    exact kt
  have ch0 : Chn Z h174 (.ref b5) (own_x0 (own_t b5 b18 b31 b44 b57)) := ⟨rfl, .null, f191, rfl, rfl⟩
  have ch1 : Chn Z h174 (.ref b18) (own_x1 (own_t b5 b18 b31 b44 b57) (own_b1 p0)) := ⟨rfl, _, f192, is1, own_link [(.ref b5), (.ref b18), (.ref b31), (.ref b44), (.ref b57)] [(own_x0 (own_t b5 b18 b31 b44 b57))] (fun i hi => match i, hi with | 0, _ => ch0 | n + 1, q => absurd q (by simp only [List.length_cons, List.length_nil]; omega)) _ lo1⟩
  have ch2 : Chn Z h174 (.ref b31) (own_x2 (own_t b5 b18 b31 b44 b57) (own_b1 p0) (own_b2 p0)) := ⟨rfl, _, f193, is2, own_link [(.ref b5), (.ref b18), (.ref b31), (.ref b44), (.ref b57)] [(own_x0 (own_t b5 b18 b31 b44 b57)), (own_x1 (own_t b5 b18 b31 b44 b57) (own_b1 p0))] (fun i hi => match i, hi with | 0, _ => ch0 | 1, _ => ch1 | n + 2, q => absurd q (by simp only [List.length_cons, List.length_nil]; omega)) _ lo2⟩
  have ch3 : Chn Z h174 (.ref b44) (own_x3 (own_t b5 b18 b31 b44 b57) (own_b1 p0) (own_b2 p0) (own_b3 p0)) := ⟨rfl, _, f194, is3, own_link [(.ref b5), (.ref b18), (.ref b31), (.ref b44), (.ref b57)] [(own_x0 (own_t b5 b18 b31 b44 b57)), (own_x1 (own_t b5 b18 b31 b44 b57) (own_b1 p0)), (own_x2 (own_t b5 b18 b31 b44 b57) (own_b1 p0) (own_b2 p0))] (fun i hi => match i, hi with | 0, _ => ch0 | 1, _ => ch1 | 2, _ => ch2 | n + 3, q => absurd q (by simp only [List.length_cons, List.length_nil]; omega)) _ lo3⟩
  have ch4 : Chn Z h174 (.ref b57) (own_x4 (own_t b5 b18 b31 b44 b57) (own_b1 p0) (own_b2 p0) (own_b3 p0) (own_b4 p0)) := ⟨rfl, _, f195, is4, own_link [(.ref b5), (.ref b18), (.ref b31), (.ref b44), (.ref b57)] [(own_x0 (own_t b5 b18 b31 b44 b57)), (own_x1 (own_t b5 b18 b31 b44 b57) (own_b1 p0)), (own_x2 (own_t b5 b18 b31 b44 b57) (own_b1 p0) (own_b2 p0)), (own_x3 (own_t b5 b18 b31 b44 b57) (own_b1 p0) (own_b2 p0) (own_b3 p0))] (fun i hi => match i, hi with | 0, _ => ch0 | 1, _ => ch1 | 2, _ => ch2 | 3, _ => ch3 | n + 4, q => absurd q (by simp only [List.length_cons, List.length_nil]; omega)) _ lo4⟩
  have inj := own_inj (Nat.ne_of_lt (Nat.lt_of_lt_of_le (f14.wr W15).lt (Nat.le_of_eq gq18.symm))) (Nat.ne_of_lt (Nat.lt_of_lt_of_le ((((f14.wr W15).ext E18).keep K23).wr W28).lt (Nat.le_of_eq gq31.symm))) (Nat.ne_of_lt (Nat.lt_of_lt_of_le (((((((f14.wr W15).ext E18).keep K23).wr W28).ext E31).keep K36).wr W41).lt (Nat.le_of_eq gq44.symm))) (Nat.ne_of_lt (Nat.lt_of_lt_of_le ((((((((((f14.wr W15).ext E18).keep K23).wr W28).ext E31).keep K36).wr W41).ext E44).keep K49).wr W54).lt (Nat.le_of_eq gq57.symm))) (Nat.ne_of_lt (Nat.lt_of_lt_of_le (f27.wr W28).lt (Nat.le_of_eq gq31.symm))) (Nat.ne_of_lt (Nat.lt_of_lt_of_le ((((f27.wr W28).ext E31).keep K36).wr W41).lt (Nat.le_of_eq gq44.symm))) (Nat.ne_of_lt (Nat.lt_of_lt_of_le (((((((f27.wr W28).ext E31).keep K36).wr W41).ext E44).keep K49).wr W54).lt (Nat.le_of_eq gq57.symm))) (Nat.ne_of_lt (Nat.lt_of_lt_of_le (f40.wr W41).lt (Nat.le_of_eq gq44.symm))) (Nat.ne_of_lt (Nat.lt_of_lt_of_le ((((f40.wr W41).ext E44).keep K49).wr W54).lt (Nat.le_of_eq gq57.symm))) (Nat.ne_of_lt (Nat.lt_of_lt_of_le (f53.wr W54).lt (Nat.le_of_eq gq57.symm)))
  have hj : jk = 0 ∨ jk = 1 ∨ jk = 2 ∨ jk = 3 ∨ jk = 4 := (by decide : ∀ j : Fin 5, j = 0 ∨ j = 1 ∨ j = 2 ∨ j = 3 ∨ j = 4) jk
  rcases hj with rfl | rfl | rfl | rfl | rfl
  · have hk' : own_k p1 = (0 : Int32) := hk
    have f197 := (((((((f116.other W126 (Nat.ne_of_lt (Nat.lt_of_lt_of_le V54'.lt (Nat.le_of_eq gq57.symm)))).ext E129).other W134 (Nat.ne_of_lt (Nat.lt_of_lt_of_le (f116.other W126 (Nat.ne_of_lt (Nat.lt_of_lt_of_le V54'.lt (Nat.le_of_eq gq57.symm)))).lt (Nat.le_of_eq gq129.symm)))).other W144 (Nat.ne_of_lt (Nat.lt_of_lt_of_le (f116.other W126 (Nat.ne_of_lt (Nat.lt_of_lt_of_le V54'.lt (Nat.le_of_eq gq57.symm)))).lt (Nat.le_of_eq gq129.symm)))).other W154 (Nat.ne_of_lt (Nat.lt_of_lt_of_le (f116.other W126 (Nat.ne_of_lt (Nat.lt_of_lt_of_le V54'.lt (Nat.le_of_eq gq57.symm)))).lt (Nat.le_of_eq gq129.symm)))).other W164 (Nat.ne_of_lt (Nat.lt_of_lt_of_le (f116.other W126 (Nat.ne_of_lt (Nat.lt_of_lt_of_le V54'.lt (Nat.le_of_eq gq57.symm)))).lt (Nat.le_of_eq gq129.symm)))).other W174 (Nat.ne_of_lt (Nat.lt_of_lt_of_le (f116.other W126 (Nat.ne_of_lt (Nat.lt_of_lt_of_le V54'.lt (Nat.le_of_eq gq57.symm)))).lt (Nat.le_of_eq gq129.symm))))
    obtain ⟨cl198, Ar198, qk198, Sz198, Nn198, Hh198, Gg198⟩ := id f197
    have hin198 : ¬ ((own_k p1) < 0 ∨ cl198.slots.size ≤ ((own_k p1)).toNatClampNeg) := inb_of Sz198 hkb
    have hat198 : cl198.slots[((own_k p1)).toNatClampNeg]? = some (.ref b5) := Hh198.at hin198 (by rw [hk']; rfl)
    have z199 : n0 ≤ h174.size := (Nat.le_trans (Nat.le_trans (Nat.le_trans (Nat.le_trans (Nat.le_trans (Nat.le_trans z130 E129.1) (Keep.of_wr W134).1) (Keep.of_wr W144).1) (Keep.of_wr W154).1) (Keep.of_wr W164).1) (Keep.of_wr W174).1)
    have pre200 : ∀ t, Steps p.tables e below (T174.setTop (mkF m 346 #[.val (.int p0), .val (.int p1), .val (.int p2), .val (.int (own_b1 p0)), .val (.int (own_b2 p0)), .val (.int (own_b3 p0)), .val (.int (own_b4 p0)), .val (.ref b2), .val (.ref b129), .val (.int (own_k p1)), .val (.int (own_a p2)), .val (own_anc [(.ref b5), (.ref b18), (.ref b31), (.ref b44), (.ref b57)] (own_a p2)), .val (.int (own_e ([(1 : Int32), (own_m1 (own_b1 p0)), (own_m2 (own_b1 p0) (own_b2 p0)), (own_m3 (own_b1 p0) (own_b2 p0) (own_b3 p0)), (own_m4 (own_b1 p0) (own_b2 p0) (own_b3 p0) (own_b4 p0))].getD (own_k p1).toNatClampNeg 0) (own_a p2)))] [(own_anc [(.ref b5), (.ref b18), (.ref b31), (.ref b44), (.ref b57)] (own_a p2)), (.ref b5)])) t → Steps p.tables e below (s₁.setTop (entryFrame m #[(.int p0), (.int p1), (.int p2)] maxLocals)) t := fun t kt => by
      refine pre196 _ ?_
      show Steps p.tables e below (T174.setTop (mkF m 343 #[.val (.int p0), .val (.int p1), .val (.int p2), .val (.int (own_b1 p0)), .val (.int (own_b2 p0)), .val (.int (own_b3 p0)), .val (.int (own_b4 p0)), .val (.ref b2), .val (.ref b129), .val (.int (own_k p1)), .val (.int (own_a p2)), .val (own_anc [(.ref b5), (.ref b18), (.ref b31), (.ref b44), (.ref b57)] (own_a p2)), .val (.int (own_e ([(1 : Int32), (own_m1 (own_b1 p0)), (own_m2 (own_b1 p0) (own_b2 p0)), (own_m3 (own_b1 p0) (own_b2 p0) (own_b3 p0)), (own_m4 (own_b1 p0) (own_b2 p0) (own_b3 p0) (own_b4 p0))].getD (own_k p1).toNatClampNeg 0) (own_a p2)))] [(.int (own_k p1)), (.ref b2)])) _
      refine X174.aaload hx (j := (own_k p1)) (v := (.ref b5)) (by rw [e174]; exact Ar198.1) (State.isArrayOf_alike hZ.alike Ar198.2.1) rfl Ar198.2.2 hin198 hat198 (g := (mkF m 343 #[.val (.int p0), .val (.int p1), .val (.int p2), .val (.int (own_b1 p0)), .val (.int (own_b2 p0)), .val (.int (own_b3 p0)), .val (.int (own_b4 p0)), .val (.ref b2), .val (.ref b129), .val (.int (own_k p1)), .val (.int (own_a p2)), .val (own_anc [(.ref b5), (.ref b18), (.ref b31), (.ref b44), (.ref b57)] (own_a p2)), .val (.int (own_e ([(1 : Int32), (own_m1 (own_b1 p0)), (own_m2 (own_b1 p0) (own_b2 p0)), (own_m3 (own_b1 p0) (own_b2 p0) (own_b3 p0)), (own_m4 (own_b1 p0) (own_b2 p0) (own_b3 p0) (own_b4 p0))].getD (own_k p1).toNatClampNeg 0) (own_a p2)))] [(.int (own_k p1)), (.ref b2)])) rfl rfl (hb hby at_343) _ ?_
      show Steps p.tables e below (T174.setTop (mkF m 344 #[.val (.int p0), .val (.int p1), .val (.int p2), .val (.int (own_b1 p0)), .val (.int (own_b2 p0)), .val (.int (own_b3 p0)), .val (.int (own_b4 p0)), .val (.ref b2), .val (.ref b129), .val (.int (own_k p1)), .val (.int (own_a p2)), .val (own_anc [(.ref b5), (.ref b18), (.ref b31), (.ref b44), (.ref b57)] (own_a p2)), .val (.int (own_e ([(1 : Int32), (own_m1 (own_b1 p0)), (own_m2 (own_b1 p0) (own_b2 p0)), (own_m3 (own_b1 p0) (own_b2 p0) (own_b3 p0)), (own_m4 (own_b1 p0) (own_b2 p0) (own_b3 p0) (own_b4 p0))].getD (own_k p1).toNatClampNeg 0) (own_a p2)))] [(.ref b5)])) _
      refine XS.aload X174.here hx rfl (hb hby at_344) rfl isA ?_
      exact kt
    have f202 := (((((((((((f72.wr W74).wr W87).wr W100).wr W113).wr W126).ext E129).wr W134).wr W144).wr W154).wr W164).wr W174)
    obtain ⟨cq201, kq201, q201a, q201b, q201c⟩ := isOf hZ e174 f202
    obtain ⟨_, _, ⟨T203, L203, kc203, nc203⟩, -, X203, ⟨Lc203, hQ203, l203, y203, z203⟩, st203⟩ := X174.virtualBack hx (y := (⟨"com/example/labbrief/labbrief/cda/SchemaModel$ComplexType", "derivesFrom", "(Lcom/example/labbrief/labbrief/cda/SchemaModel$ComplexType;)Z"⟩ : MethodName)) (z := (⟨"com/example/labbrief/labbrief/cda/SchemaModel$ComplexType", "derivesFrom", "(Lcom/example/labbrief/labbrief/cda/SchemaModel$ComplexType;)Z"⟩ : MethodName)) hown (mvT hZ (hw _ (List.mem_of_getElem? (i := 22) rfl))) (mvT hZ (hw _ (List.mem_of_getElem? (i := 23) rfl))) (notFace_of_selects (args := #[]) (mvT hZ (hw _ (List.mem_of_getElem? (i := 25) rfl)))) (mvT hZ (hw _ (List.mem_of_getElem? (i := 25) rfl))) (mvT hZ (hw _ (List.mem_of_getElem? (i := 24) rfl))) (by decide) (backOf (W := 0) (rm4 l Z a0 hw [] b5 (own_anc [(.ref b5), (.ref b18), (.ref b31), (.ref b44), (.ref b57)] (own_a p2)) (own_x0 (own_t b5 b18 b31 b44 b57)) h174 n0 z199 isA ch0) hZ (hw _ (List.mem_of_getElem? (i := 26) rfl)) (hw _ (List.mem_of_getElem? (i := 3) rfl)) (by decide) (by decide)) q201a q201c (g := (mkF m 346 #[.val (.int p0), .val (.int p1), .val (.int p2), .val (.int (own_b1 p0)), .val (.int (own_b2 p0)), .val (.int (own_b3 p0)), .val (.int (own_b4 p0)), .val (.ref b2), .val (.ref b129), .val (.int (own_k p1)), .val (.int (own_a p2)), .val (own_anc [(.ref b5), (.ref b18), (.ref b31), (.ref b44), (.ref b57)] (own_a p2)), .val (.int (own_e ([(1 : Int32), (own_m1 (own_b1 p0)), (own_m2 (own_b1 p0) (own_b2 p0)), (own_m3 (own_b1 p0) (own_b2 p0) (own_b3 p0)), (own_m4 (own_b1 p0) (own_b2 p0) (own_b3 p0) (own_b4 p0))].getD (own_k p1).toNatClampNeg 0) (own_a p2)))] [(own_anc [(.ref b5), (.ref b18), (.ref b31), (.ref b44), (.ref b57)] (own_a p2)), (.ref b5)])) rfl (by rw [hml]; rfl) (Steps.refl _) (argsL := [(own_anc [(.ref b5), (.ref b18), (.ref b31), (.ref b44), (.ref b57)] (own_a p2))]) (rest := []) (lenOf pd_2 rfl) rfl (by show 2 * 0 + _ ≤ _; exact Nat.le_of_eq rfl) (hb hby at_346) (fun _ _ => ⟨rfl, e174, (by decide : 7 + 0 ≤ _), (by decide : 50 + 0 ≤ _)⟩)
    dsimp only [Pt.U, Pt.locs, Pt.cells, Pt.slots] at X203 l203 y203 z203 st203 hQ203
    subst l203 y203 z203
    obtain ⟨rfl, N203q, he203⟩ := hQ203
    have N203 := Fr.app N174 N203q
    have pre204 : ∀ t, Steps p.tables e below (T203.setTop (mkF m 349 #[.val (.int p0), .val (.int p1), .val (.int p2), .val (.int (own_b1 p0)), .val (.int (own_b2 p0)), .val (.int (own_b3 p0)), .val (.int (own_b4 p0)), .val (.ref b2), .val (.ref b129), .val (.int (own_k p1)), .val (.int (own_a p2)), .val (own_anc [(.ref b5), (.ref b18), (.ref b31), (.ref b44), (.ref b57)] (own_a p2)), .val (.int (own_e ([(1 : Int32), (own_m1 (own_b1 p0)), (own_m2 (own_b1 p0) (own_b2 p0)), (own_m3 (own_b1 p0) (own_b2 p0) (own_b3 p0)), (own_m4 (own_b1 p0) (own_b2 p0) (own_b3 p0) (own_b4 p0))].getD (own_k p1).toNatClampNeg 0) (own_a p2)))] [(.int (own_mem (own_anc [(.ref b5), (.ref b18), (.ref b31), (.ref b44), (.ref b57)] (own_a p2)) (own_x0 (own_t b5 b18 b31 b44 b57))))])) t → Steps p.tables e below (s₁.setTop (entryFrame m #[(.int p0), (.int p1), (.int p2)] maxLocals)) t := fun t kt => pre200 _ (st203.trans kt)
    have pre205 : ∀ t, Steps p.tables e below (T203.setTop (mkF m 351 #[.val (.int p0), .val (.int p1), .val (.int p2), .val (.int (own_b1 p0)), .val (.int (own_b2 p0)), .val (.int (own_b3 p0)), .val (.int (own_b4 p0)), .val (.ref b2), .val (.ref b129), .val (.int (own_k p1)), .val (.int (own_a p2)), .val (own_anc [(.ref b5), (.ref b18), (.ref b31), (.ref b44), (.ref b57)] (own_a p2)), .val (.int (own_e ([(1 : Int32), (own_m1 (own_b1 p0)), (own_m2 (own_b1 p0) (own_b2 p0)), (own_m3 (own_b1 p0) (own_b2 p0) (own_b3 p0)), (own_m4 (own_b1 p0) (own_b2 p0) (own_b3 p0) (own_b4 p0))].getD (own_k p1).toNatClampNeg 0) (own_a p2)))] [(.int (own_e ([(1 : Int32), (own_m1 (own_b1 p0)), (own_m2 (own_b1 p0) (own_b2 p0)), (own_m3 (own_b1 p0) (own_b2 p0) (own_b3 p0)), (own_m4 (own_b1 p0) (own_b2 p0) (own_b3 p0) (own_b4 p0))].getD (own_k p1).toNatClampNeg 0) (own_a p2))), (.int (own_mem (own_anc [(.ref b5), (.ref b18), (.ref b31), (.ref b44), (.ref b57)] (own_a p2)) (own_x0 (own_t b5 b18 b31 b44 b57))))])) t → Steps p.tables e below (s₁.setTop (entryFrame m #[(.int p0), (.int p1), (.int p2)] maxLocals)) t := fun t kt => by
      refine pre204 _ ?_
      show Steps p.tables e below (T203.setTop (mkF m 349 #[.val (.int p0), .val (.int p1), .val (.int p2), .val (.int (own_b1 p0)), .val (.int (own_b2 p0)), .val (.int (own_b3 p0)), .val (.int (own_b4 p0)), .val (.ref b2), .val (.ref b129), .val (.int (own_k p1)), .val (.int (own_a p2)), .val (own_anc [(.ref b5), (.ref b18), (.ref b31), (.ref b44), (.ref b57)] (own_a p2)), .val (.int (own_e ([(1 : Int32), (own_m1 (own_b1 p0)), (own_m2 (own_b1 p0) (own_b2 p0)), (own_m3 (own_b1 p0) (own_b2 p0) (own_b3 p0)), (own_m4 (own_b1 p0) (own_b2 p0) (own_b3 p0) (own_b4 p0))].getD (own_k p1).toNatClampNeg 0) (own_a p2)))] [(.int (own_mem (own_anc [(.ref b5), (.ref b18), (.ref b31), (.ref b44), (.ref b57)] (own_a p2)) (own_x0 (own_t b5 b18 b31 b44 b57))))])) _
      refine XS.iload X203.here hx rfl (hb hby at_349) rfl ?_
      exact kt
    have em : ([(1 : Int32), (own_m1 (own_b1 p0)), (own_m2 (own_b1 p0) (own_b2 p0)), (own_m3 (own_b1 p0) (own_b2 p0) (own_b3 p0)), (own_m4 (own_b1 p0) (own_b2 p0) (own_b3 p0) (own_b4 p0))].getD (own_k p1).toNatClampNeg 0) = (1 : Int32) := by rw [hk']; rfl
    have fin : (own_mem (own_anc [(.ref b5), (.ref b18), (.ref b31), (.ref b44), (.ref b57)] (own_a p2)) (own_x0 (own_t b5 b18 b31 b44 b57))) = (own_e ([(1 : Int32), (own_m1 (own_b1 p0)), (own_m2 (own_b1 p0) (own_b2 p0)), (own_m3 (own_b1 p0) (own_b2 p0) (own_b3 p0)), (own_m4 (own_b1 p0) (own_b2 p0) (own_b3 p0) (own_b4 p0))].getD (own_k p1).toNatClampNeg 0) (own_a p2)) := by
      rw [em, ha]
      exact own_law inj _ _ ja (own_all0  ja)
    have pre206 : ∀ t, Steps p.tables e below (T203.setTop (mkF m 359 #[.val (.int p0), .val (.int p1), .val (.int p2), .val (.int (own_b1 p0)), .val (.int (own_b2 p0)), .val (.int (own_b3 p0)), .val (.int (own_b4 p0)), .val (.ref b2), .val (.ref b129), .val (.int (own_k p1)), .val (.int (own_a p2)), .val (own_anc [(.ref b5), (.ref b18), (.ref b31), (.ref b44), (.ref b57)] (own_a p2)), .val (.int (own_e ([(1 : Int32), (own_m1 (own_b1 p0)), (own_m2 (own_b1 p0) (own_b2 p0)), (own_m3 (own_b1 p0) (own_b2 p0) (own_b3 p0)), (own_m4 (own_b1 p0) (own_b2 p0) (own_b3 p0) (own_b4 p0))].getD (own_k p1).toNatClampNeg 0) (own_a p2)))] [(.int (1 : Int32))])) t → Steps p.tables e below (s₁.setTop (entryFrame m #[(.int p0), (.int p1), (.int p2)] maxLocals)) t := fun t kt => by
      refine pre205 _ ?_
      show Steps p.tables e below (T203.setTop (mkF m 351 #[.val (.int p0), .val (.int p1), .val (.int p2), .val (.int (own_b1 p0)), .val (.int (own_b2 p0)), .val (.int (own_b3 p0)), .val (.int (own_b4 p0)), .val (.ref b2), .val (.ref b129), .val (.int (own_k p1)), .val (.int (own_a p2)), .val (own_anc [(.ref b5), (.ref b18), (.ref b31), (.ref b44), (.ref b57)] (own_a p2)), .val (.int (own_e ([(1 : Int32), (own_m1 (own_b1 p0)), (own_m2 (own_b1 p0) (own_b2 p0)), (own_m3 (own_b1 p0) (own_b2 p0) (own_b3 p0)), (own_m4 (own_b1 p0) (own_b2 p0) (own_b3 p0) (own_b4 p0))].getD (own_k p1).toNatClampNeg 0) (own_a p2)))] [(.int (own_e ([(1 : Int32), (own_m1 (own_b1 p0)), (own_m2 (own_b1 p0) (own_b2 p0)), (own_m3 (own_b1 p0) (own_b2 p0) (own_b3 p0)), (own_m4 (own_b1 p0) (own_b2 p0) (own_b3 p0) (own_b4 p0))].getD (own_k p1).toNatClampNeg 0) (own_a p2))), (.int (own_mem (own_anc [(.ref b5), (.ref b18), (.ref b31), (.ref b44), (.ref b57)] (own_a p2)) (own_x0 (own_t b5 b18 b31 b44 b57))))])) _
      refine XS.icmpNo X203.here hx rfl (hb hby at_351) rfl (teq (fin : (own_mem (own_anc [(.ref b5), (.ref b18), (.ref b31), (.ref b44), (.ref b57)] (own_a p2)) (own_x0 (own_t b5 b18 b31 b44 b57))) = (own_e ([(1 : Int32), (own_m1 (own_b1 p0)), (own_m2 (own_b1 p0) (own_b2 p0)), (own_m3 (own_b1 p0) (own_b2 p0) (own_b3 p0)), (own_m4 (own_b1 p0) (own_b2 p0) (own_b3 p0) (own_b4 p0))].getD (own_k p1).toNatClampNeg 0) (own_a p2)))).2 ?_
      show Steps p.tables e below (T203.setTop (mkF m 354 #[.val (.int p0), .val (.int p1), .val (.int p2), .val (.int (own_b1 p0)), .val (.int (own_b2 p0)), .val (.int (own_b3 p0)), .val (.int (own_b4 p0)), .val (.ref b2), .val (.ref b129), .val (.int (own_k p1)), .val (.int (own_a p2)), .val (own_anc [(.ref b5), (.ref b18), (.ref b31), (.ref b44), (.ref b57)] (own_a p2)), .val (.int (own_e ([(1 : Int32), (own_m1 (own_b1 p0)), (own_m2 (own_b1 p0) (own_b2 p0)), (own_m3 (own_b1 p0) (own_b2 p0) (own_b3 p0)), (own_m4 (own_b1 p0) (own_b2 p0) (own_b3 p0) (own_b4 p0))].getD (own_k p1).toNatClampNeg 0) (own_a p2)))] [])) _
      refine XS.iconst X203.here hx rfl (hb hby at_354) ?_
      show Steps p.tables e below (T203.setTop (mkF m 355 #[.val (.int p0), .val (.int p1), .val (.int p2), .val (.int (own_b1 p0)), .val (.int (own_b2 p0)), .val (.int (own_b3 p0)), .val (.int (own_b4 p0)), .val (.ref b2), .val (.ref b129), .val (.int (own_k p1)), .val (.int (own_a p2)), .val (own_anc [(.ref b5), (.ref b18), (.ref b31), (.ref b44), (.ref b57)] (own_a p2)), .val (.int (own_e ([(1 : Int32), (own_m1 (own_b1 p0)), (own_m2 (own_b1 p0) (own_b2 p0)), (own_m3 (own_b1 p0) (own_b2 p0) (own_b3 p0)), (own_m4 (own_b1 p0) (own_b2 p0) (own_b3 p0) (own_b4 p0))].getD (own_k p1).toNatClampNeg 0) (own_a p2)))] [(.int (1 : Int32))])) _
      refine XS.goto X203.here hx rfl (pc0 := 355) (pc' := 359) rfl (hb hby at_355) (by decide) (by decide) ?_
      exact kt
    obtain ⟨fs, hr, hrun, hended, hW, hsame⟩ := X203.leave (v := (some (.int (1 : Int32)))) (fun h => by rw [Bd.returns] at h; cases h)
    refine ⟨_, _, pre206 _ ?_, hrun, hended, _, _, rfl, ?_, ⟨_, rfl⟩, hW, hsame.mono (by decide) (by decide)⟩
    · show Steps p.tables e below (T203.setTop (mkF m 359 #[.val (.int p0), .val (.int p1), .val (.int p2), .val (.int (own_b1 p0)), .val (.int (own_b2 p0)), .val (.int (own_b3 p0)), .val (.int (own_b4 p0)), .val (.ref b2), .val (.ref b129), .val (.int (own_k p1)), .val (.int (own_a p2)), .val (own_anc [(.ref b5), (.ref b18), (.ref b31), (.ref b44), (.ref b57)] (own_a p2)), .val (.int (own_e ([(1 : Int32), (own_m1 (own_b1 p0)), (own_m2 (own_b1 p0) (own_b2 p0)), (own_m3 (own_b1 p0) (own_b2 p0) (own_b3 p0)), (own_m4 (own_b1 p0) (own_b2 p0) (own_b3 p0) (own_b4 p0))].getD (own_k p1).toNatClampNeg 0) (own_a p2)))] [(.int (1 : Int32))])) _
      exact retN X203 hx (t := .boolean) Bd.returns (by simp) (hb hby at_359) hr
    · show Q0 Z p0 p1 p2 aM h0 n0 _ T203.heap _
      rw [he203]
      exact ⟨rfl, N203⟩
  · have hk' : own_k p1 = (1 : Int32) := hk
    have f207 := (((((((f116.other W126 (Nat.ne_of_lt (Nat.lt_of_lt_of_le V54'.lt (Nat.le_of_eq gq57.symm)))).ext E129).other W134 (Nat.ne_of_lt (Nat.lt_of_lt_of_le (f116.other W126 (Nat.ne_of_lt (Nat.lt_of_lt_of_le V54'.lt (Nat.le_of_eq gq57.symm)))).lt (Nat.le_of_eq gq129.symm)))).other W144 (Nat.ne_of_lt (Nat.lt_of_lt_of_le (f116.other W126 (Nat.ne_of_lt (Nat.lt_of_lt_of_le V54'.lt (Nat.le_of_eq gq57.symm)))).lt (Nat.le_of_eq gq129.symm)))).other W154 (Nat.ne_of_lt (Nat.lt_of_lt_of_le (f116.other W126 (Nat.ne_of_lt (Nat.lt_of_lt_of_le V54'.lt (Nat.le_of_eq gq57.symm)))).lt (Nat.le_of_eq gq129.symm)))).other W164 (Nat.ne_of_lt (Nat.lt_of_lt_of_le (f116.other W126 (Nat.ne_of_lt (Nat.lt_of_lt_of_le V54'.lt (Nat.le_of_eq gq57.symm)))).lt (Nat.le_of_eq gq129.symm)))).other W174 (Nat.ne_of_lt (Nat.lt_of_lt_of_le (f116.other W126 (Nat.ne_of_lt (Nat.lt_of_lt_of_le V54'.lt (Nat.le_of_eq gq57.symm)))).lt (Nat.le_of_eq gq129.symm))))
    obtain ⟨cl208, Ar208, qk208, Sz208, Nn208, Hh208, Gg208⟩ := id f207
    have hin208 : ¬ ((own_k p1) < 0 ∨ cl208.slots.size ≤ ((own_k p1)).toNatClampNeg) := inb_of Sz208 hkb
    have hat208 : cl208.slots[((own_k p1)).toNatClampNeg]? = some (.ref b18) := Hh208.at hin208 (by rw [hk']; rfl)
    have z209 : n0 ≤ h174.size := (Nat.le_trans (Nat.le_trans (Nat.le_trans (Nat.le_trans (Nat.le_trans (Nat.le_trans z130 E129.1) (Keep.of_wr W134).1) (Keep.of_wr W144).1) (Keep.of_wr W154).1) (Keep.of_wr W164).1) (Keep.of_wr W174).1)
    have pre210 : ∀ t, Steps p.tables e below (T174.setTop (mkF m 346 #[.val (.int p0), .val (.int p1), .val (.int p2), .val (.int (own_b1 p0)), .val (.int (own_b2 p0)), .val (.int (own_b3 p0)), .val (.int (own_b4 p0)), .val (.ref b2), .val (.ref b129), .val (.int (own_k p1)), .val (.int (own_a p2)), .val (own_anc [(.ref b5), (.ref b18), (.ref b31), (.ref b44), (.ref b57)] (own_a p2)), .val (.int (own_e ([(1 : Int32), (own_m1 (own_b1 p0)), (own_m2 (own_b1 p0) (own_b2 p0)), (own_m3 (own_b1 p0) (own_b2 p0) (own_b3 p0)), (own_m4 (own_b1 p0) (own_b2 p0) (own_b3 p0) (own_b4 p0))].getD (own_k p1).toNatClampNeg 0) (own_a p2)))] [(own_anc [(.ref b5), (.ref b18), (.ref b31), (.ref b44), (.ref b57)] (own_a p2)), (.ref b18)])) t → Steps p.tables e below (s₁.setTop (entryFrame m #[(.int p0), (.int p1), (.int p2)] maxLocals)) t := fun t kt => by
      refine pre196 _ ?_
      show Steps p.tables e below (T174.setTop (mkF m 343 #[.val (.int p0), .val (.int p1), .val (.int p2), .val (.int (own_b1 p0)), .val (.int (own_b2 p0)), .val (.int (own_b3 p0)), .val (.int (own_b4 p0)), .val (.ref b2), .val (.ref b129), .val (.int (own_k p1)), .val (.int (own_a p2)), .val (own_anc [(.ref b5), (.ref b18), (.ref b31), (.ref b44), (.ref b57)] (own_a p2)), .val (.int (own_e ([(1 : Int32), (own_m1 (own_b1 p0)), (own_m2 (own_b1 p0) (own_b2 p0)), (own_m3 (own_b1 p0) (own_b2 p0) (own_b3 p0)), (own_m4 (own_b1 p0) (own_b2 p0) (own_b3 p0) (own_b4 p0))].getD (own_k p1).toNatClampNeg 0) (own_a p2)))] [(.int (own_k p1)), (.ref b2)])) _
      refine X174.aaload hx (j := (own_k p1)) (v := (.ref b18)) (by rw [e174]; exact Ar208.1) (State.isArrayOf_alike hZ.alike Ar208.2.1) rfl Ar208.2.2 hin208 hat208 (g := (mkF m 343 #[.val (.int p0), .val (.int p1), .val (.int p2), .val (.int (own_b1 p0)), .val (.int (own_b2 p0)), .val (.int (own_b3 p0)), .val (.int (own_b4 p0)), .val (.ref b2), .val (.ref b129), .val (.int (own_k p1)), .val (.int (own_a p2)), .val (own_anc [(.ref b5), (.ref b18), (.ref b31), (.ref b44), (.ref b57)] (own_a p2)), .val (.int (own_e ([(1 : Int32), (own_m1 (own_b1 p0)), (own_m2 (own_b1 p0) (own_b2 p0)), (own_m3 (own_b1 p0) (own_b2 p0) (own_b3 p0)), (own_m4 (own_b1 p0) (own_b2 p0) (own_b3 p0) (own_b4 p0))].getD (own_k p1).toNatClampNeg 0) (own_a p2)))] [(.int (own_k p1)), (.ref b2)])) rfl rfl (hb hby at_343) _ ?_
      show Steps p.tables e below (T174.setTop (mkF m 344 #[.val (.int p0), .val (.int p1), .val (.int p2), .val (.int (own_b1 p0)), .val (.int (own_b2 p0)), .val (.int (own_b3 p0)), .val (.int (own_b4 p0)), .val (.ref b2), .val (.ref b129), .val (.int (own_k p1)), .val (.int (own_a p2)), .val (own_anc [(.ref b5), (.ref b18), (.ref b31), (.ref b44), (.ref b57)] (own_a p2)), .val (.int (own_e ([(1 : Int32), (own_m1 (own_b1 p0)), (own_m2 (own_b1 p0) (own_b2 p0)), (own_m3 (own_b1 p0) (own_b2 p0) (own_b3 p0)), (own_m4 (own_b1 p0) (own_b2 p0) (own_b3 p0) (own_b4 p0))].getD (own_k p1).toNatClampNeg 0) (own_a p2)))] [(.ref b18)])) _
      refine XS.aload X174.here hx rfl (hb hby at_344) rfl isA ?_
      exact kt
    have f212 := ((((((((((f86.wr W87).wr W100).wr W113).wr W126).ext E129).wr W134).wr W144).wr W154).wr W164).wr W174)
    obtain ⟨cq211, kq211, q211a, q211b, q211c⟩ := isOf hZ e174 f212
    obtain ⟨_, _, ⟨T213, L213, kc213, nc213⟩, -, X213, ⟨Lc213, hQ213, l213, y213, z213⟩, st213⟩ := X174.virtualBack hx (y := (⟨"com/example/labbrief/labbrief/cda/SchemaModel$ComplexType", "derivesFrom", "(Lcom/example/labbrief/labbrief/cda/SchemaModel$ComplexType;)Z"⟩ : MethodName)) (z := (⟨"com/example/labbrief/labbrief/cda/SchemaModel$ComplexType", "derivesFrom", "(Lcom/example/labbrief/labbrief/cda/SchemaModel$ComplexType;)Z"⟩ : MethodName)) hown (mvT hZ (hw _ (List.mem_of_getElem? (i := 22) rfl))) (mvT hZ (hw _ (List.mem_of_getElem? (i := 23) rfl))) (notFace_of_selects (args := #[]) (mvT hZ (hw _ (List.mem_of_getElem? (i := 25) rfl)))) (mvT hZ (hw _ (List.mem_of_getElem? (i := 25) rfl))) (mvT hZ (hw _ (List.mem_of_getElem? (i := 24) rfl))) (by decide) (backOf (W := 0) (rm4 l Z a0 hw [] b18 (own_anc [(.ref b5), (.ref b18), (.ref b31), (.ref b44), (.ref b57)] (own_a p2)) (own_x1 (own_t b5 b18 b31 b44 b57) (own_b1 p0)) h174 n0 z209 isA ch1) hZ (hw _ (List.mem_of_getElem? (i := 26) rfl)) (hw _ (List.mem_of_getElem? (i := 3) rfl)) (by decide) (by decide)) q211a q211c (g := (mkF m 346 #[.val (.int p0), .val (.int p1), .val (.int p2), .val (.int (own_b1 p0)), .val (.int (own_b2 p0)), .val (.int (own_b3 p0)), .val (.int (own_b4 p0)), .val (.ref b2), .val (.ref b129), .val (.int (own_k p1)), .val (.int (own_a p2)), .val (own_anc [(.ref b5), (.ref b18), (.ref b31), (.ref b44), (.ref b57)] (own_a p2)), .val (.int (own_e ([(1 : Int32), (own_m1 (own_b1 p0)), (own_m2 (own_b1 p0) (own_b2 p0)), (own_m3 (own_b1 p0) (own_b2 p0) (own_b3 p0)), (own_m4 (own_b1 p0) (own_b2 p0) (own_b3 p0) (own_b4 p0))].getD (own_k p1).toNatClampNeg 0) (own_a p2)))] [(own_anc [(.ref b5), (.ref b18), (.ref b31), (.ref b44), (.ref b57)] (own_a p2)), (.ref b18)])) rfl (by rw [hml]; rfl) (Steps.refl _) (argsL := [(own_anc [(.ref b5), (.ref b18), (.ref b31), (.ref b44), (.ref b57)] (own_a p2))]) (rest := []) (lenOf pd_2 rfl) rfl (by show 2 * 0 + _ ≤ _; exact Nat.le_of_eq rfl) (hb hby at_346) (fun _ _ => ⟨rfl, e174, (by decide : 7 + 0 ≤ _), (by decide : 50 + 0 ≤ _)⟩)
    dsimp only [Pt.U, Pt.locs, Pt.cells, Pt.slots] at X213 l213 y213 z213 st213 hQ213
    subst l213 y213 z213
    obtain ⟨rfl, N213q, he213⟩ := hQ213
    have N213 := Fr.app N174 N213q
    have pre214 : ∀ t, Steps p.tables e below (T213.setTop (mkF m 349 #[.val (.int p0), .val (.int p1), .val (.int p2), .val (.int (own_b1 p0)), .val (.int (own_b2 p0)), .val (.int (own_b3 p0)), .val (.int (own_b4 p0)), .val (.ref b2), .val (.ref b129), .val (.int (own_k p1)), .val (.int (own_a p2)), .val (own_anc [(.ref b5), (.ref b18), (.ref b31), (.ref b44), (.ref b57)] (own_a p2)), .val (.int (own_e ([(1 : Int32), (own_m1 (own_b1 p0)), (own_m2 (own_b1 p0) (own_b2 p0)), (own_m3 (own_b1 p0) (own_b2 p0) (own_b3 p0)), (own_m4 (own_b1 p0) (own_b2 p0) (own_b3 p0) (own_b4 p0))].getD (own_k p1).toNatClampNeg 0) (own_a p2)))] [(.int (own_mem (own_anc [(.ref b5), (.ref b18), (.ref b31), (.ref b44), (.ref b57)] (own_a p2)) (own_x1 (own_t b5 b18 b31 b44 b57) (own_b1 p0))))])) t → Steps p.tables e below (s₁.setTop (entryFrame m #[(.int p0), (.int p1), (.int p2)] maxLocals)) t := fun t kt => pre210 _ (st213.trans kt)
    have pre215 : ∀ t, Steps p.tables e below (T213.setTop (mkF m 351 #[.val (.int p0), .val (.int p1), .val (.int p2), .val (.int (own_b1 p0)), .val (.int (own_b2 p0)), .val (.int (own_b3 p0)), .val (.int (own_b4 p0)), .val (.ref b2), .val (.ref b129), .val (.int (own_k p1)), .val (.int (own_a p2)), .val (own_anc [(.ref b5), (.ref b18), (.ref b31), (.ref b44), (.ref b57)] (own_a p2)), .val (.int (own_e ([(1 : Int32), (own_m1 (own_b1 p0)), (own_m2 (own_b1 p0) (own_b2 p0)), (own_m3 (own_b1 p0) (own_b2 p0) (own_b3 p0)), (own_m4 (own_b1 p0) (own_b2 p0) (own_b3 p0) (own_b4 p0))].getD (own_k p1).toNatClampNeg 0) (own_a p2)))] [(.int (own_e ([(1 : Int32), (own_m1 (own_b1 p0)), (own_m2 (own_b1 p0) (own_b2 p0)), (own_m3 (own_b1 p0) (own_b2 p0) (own_b3 p0)), (own_m4 (own_b1 p0) (own_b2 p0) (own_b3 p0) (own_b4 p0))].getD (own_k p1).toNatClampNeg 0) (own_a p2))), (.int (own_mem (own_anc [(.ref b5), (.ref b18), (.ref b31), (.ref b44), (.ref b57)] (own_a p2)) (own_x1 (own_t b5 b18 b31 b44 b57) (own_b1 p0))))])) t → Steps p.tables e below (s₁.setTop (entryFrame m #[(.int p0), (.int p1), (.int p2)] maxLocals)) t := fun t kt => by
      refine pre214 _ ?_
      show Steps p.tables e below (T213.setTop (mkF m 349 #[.val (.int p0), .val (.int p1), .val (.int p2), .val (.int (own_b1 p0)), .val (.int (own_b2 p0)), .val (.int (own_b3 p0)), .val (.int (own_b4 p0)), .val (.ref b2), .val (.ref b129), .val (.int (own_k p1)), .val (.int (own_a p2)), .val (own_anc [(.ref b5), (.ref b18), (.ref b31), (.ref b44), (.ref b57)] (own_a p2)), .val (.int (own_e ([(1 : Int32), (own_m1 (own_b1 p0)), (own_m2 (own_b1 p0) (own_b2 p0)), (own_m3 (own_b1 p0) (own_b2 p0) (own_b3 p0)), (own_m4 (own_b1 p0) (own_b2 p0) (own_b3 p0) (own_b4 p0))].getD (own_k p1).toNatClampNeg 0) (own_a p2)))] [(.int (own_mem (own_anc [(.ref b5), (.ref b18), (.ref b31), (.ref b44), (.ref b57)] (own_a p2)) (own_x1 (own_t b5 b18 b31 b44 b57) (own_b1 p0))))])) _
      refine XS.iload X213.here hx rfl (hb hby at_349) rfl ?_
      exact kt
    have em : ([(1 : Int32), (own_m1 (own_b1 p0)), (own_m2 (own_b1 p0) (own_b2 p0)), (own_m3 (own_b1 p0) (own_b2 p0) (own_b3 p0)), (own_m4 (own_b1 p0) (own_b2 p0) (own_b3 p0) (own_b4 p0))].getD (own_k p1).toNatClampNeg 0) = (own_m1 (own_b1 p0)) := by rw [hk']; rfl
    have fin : (own_mem (own_anc [(.ref b5), (.ref b18), (.ref b31), (.ref b44), (.ref b57)] (own_a p2)) (own_x1 (own_t b5 b18 b31 b44 b57) (own_b1 p0))) = (own_e ([(1 : Int32), (own_m1 (own_b1 p0)), (own_m2 (own_b1 p0) (own_b2 p0)), (own_m3 (own_b1 p0) (own_b2 p0) (own_b3 p0)), (own_m4 (own_b1 p0) (own_b2 p0) (own_b3 p0) (own_b4 p0))].getD (own_k p1).toNatClampNeg 0) (own_a p2)) := by
      rw [em, ha, hj1]
      rw [own_x1m]
      exact own_law inj _ _ ja (own_all1 j1 ja)
    have pre216 : ∀ t, Steps p.tables e below (T213.setTop (mkF m 359 #[.val (.int p0), .val (.int p1), .val (.int p2), .val (.int (own_b1 p0)), .val (.int (own_b2 p0)), .val (.int (own_b3 p0)), .val (.int (own_b4 p0)), .val (.ref b2), .val (.ref b129), .val (.int (own_k p1)), .val (.int (own_a p2)), .val (own_anc [(.ref b5), (.ref b18), (.ref b31), (.ref b44), (.ref b57)] (own_a p2)), .val (.int (own_e ([(1 : Int32), (own_m1 (own_b1 p0)), (own_m2 (own_b1 p0) (own_b2 p0)), (own_m3 (own_b1 p0) (own_b2 p0) (own_b3 p0)), (own_m4 (own_b1 p0) (own_b2 p0) (own_b3 p0) (own_b4 p0))].getD (own_k p1).toNatClampNeg 0) (own_a p2)))] [(.int (1 : Int32))])) t → Steps p.tables e below (s₁.setTop (entryFrame m #[(.int p0), (.int p1), (.int p2)] maxLocals)) t := fun t kt => by
      refine pre215 _ ?_
      show Steps p.tables e below (T213.setTop (mkF m 351 #[.val (.int p0), .val (.int p1), .val (.int p2), .val (.int (own_b1 p0)), .val (.int (own_b2 p0)), .val (.int (own_b3 p0)), .val (.int (own_b4 p0)), .val (.ref b2), .val (.ref b129), .val (.int (own_k p1)), .val (.int (own_a p2)), .val (own_anc [(.ref b5), (.ref b18), (.ref b31), (.ref b44), (.ref b57)] (own_a p2)), .val (.int (own_e ([(1 : Int32), (own_m1 (own_b1 p0)), (own_m2 (own_b1 p0) (own_b2 p0)), (own_m3 (own_b1 p0) (own_b2 p0) (own_b3 p0)), (own_m4 (own_b1 p0) (own_b2 p0) (own_b3 p0) (own_b4 p0))].getD (own_k p1).toNatClampNeg 0) (own_a p2)))] [(.int (own_e ([(1 : Int32), (own_m1 (own_b1 p0)), (own_m2 (own_b1 p0) (own_b2 p0)), (own_m3 (own_b1 p0) (own_b2 p0) (own_b3 p0)), (own_m4 (own_b1 p0) (own_b2 p0) (own_b3 p0) (own_b4 p0))].getD (own_k p1).toNatClampNeg 0) (own_a p2))), (.int (own_mem (own_anc [(.ref b5), (.ref b18), (.ref b31), (.ref b44), (.ref b57)] (own_a p2)) (own_x1 (own_t b5 b18 b31 b44 b57) (own_b1 p0))))])) _
      refine XS.icmpNo X213.here hx rfl (hb hby at_351) rfl (teq (fin : (own_mem (own_anc [(.ref b5), (.ref b18), (.ref b31), (.ref b44), (.ref b57)] (own_a p2)) (own_x1 (own_t b5 b18 b31 b44 b57) (own_b1 p0))) = (own_e ([(1 : Int32), (own_m1 (own_b1 p0)), (own_m2 (own_b1 p0) (own_b2 p0)), (own_m3 (own_b1 p0) (own_b2 p0) (own_b3 p0)), (own_m4 (own_b1 p0) (own_b2 p0) (own_b3 p0) (own_b4 p0))].getD (own_k p1).toNatClampNeg 0) (own_a p2)))).2 ?_
      show Steps p.tables e below (T213.setTop (mkF m 354 #[.val (.int p0), .val (.int p1), .val (.int p2), .val (.int (own_b1 p0)), .val (.int (own_b2 p0)), .val (.int (own_b3 p0)), .val (.int (own_b4 p0)), .val (.ref b2), .val (.ref b129), .val (.int (own_k p1)), .val (.int (own_a p2)), .val (own_anc [(.ref b5), (.ref b18), (.ref b31), (.ref b44), (.ref b57)] (own_a p2)), .val (.int (own_e ([(1 : Int32), (own_m1 (own_b1 p0)), (own_m2 (own_b1 p0) (own_b2 p0)), (own_m3 (own_b1 p0) (own_b2 p0) (own_b3 p0)), (own_m4 (own_b1 p0) (own_b2 p0) (own_b3 p0) (own_b4 p0))].getD (own_k p1).toNatClampNeg 0) (own_a p2)))] [])) _
      refine XS.iconst X213.here hx rfl (hb hby at_354) ?_
      show Steps p.tables e below (T213.setTop (mkF m 355 #[.val (.int p0), .val (.int p1), .val (.int p2), .val (.int (own_b1 p0)), .val (.int (own_b2 p0)), .val (.int (own_b3 p0)), .val (.int (own_b4 p0)), .val (.ref b2), .val (.ref b129), .val (.int (own_k p1)), .val (.int (own_a p2)), .val (own_anc [(.ref b5), (.ref b18), (.ref b31), (.ref b44), (.ref b57)] (own_a p2)), .val (.int (own_e ([(1 : Int32), (own_m1 (own_b1 p0)), (own_m2 (own_b1 p0) (own_b2 p0)), (own_m3 (own_b1 p0) (own_b2 p0) (own_b3 p0)), (own_m4 (own_b1 p0) (own_b2 p0) (own_b3 p0) (own_b4 p0))].getD (own_k p1).toNatClampNeg 0) (own_a p2)))] [(.int (1 : Int32))])) _
      refine XS.goto X213.here hx rfl (pc0 := 355) (pc' := 359) rfl (hb hby at_355) (by decide) (by decide) ?_
      exact kt
    obtain ⟨fs, hr, hrun, hended, hW, hsame⟩ := X213.leave (v := (some (.int (1 : Int32)))) (fun h => by rw [Bd.returns] at h; cases h)
    refine ⟨_, _, pre216 _ ?_, hrun, hended, _, _, rfl, ?_, ⟨_, rfl⟩, hW, hsame.mono (by decide) (by decide)⟩
    · show Steps p.tables e below (T213.setTop (mkF m 359 #[.val (.int p0), .val (.int p1), .val (.int p2), .val (.int (own_b1 p0)), .val (.int (own_b2 p0)), .val (.int (own_b3 p0)), .val (.int (own_b4 p0)), .val (.ref b2), .val (.ref b129), .val (.int (own_k p1)), .val (.int (own_a p2)), .val (own_anc [(.ref b5), (.ref b18), (.ref b31), (.ref b44), (.ref b57)] (own_a p2)), .val (.int (own_e ([(1 : Int32), (own_m1 (own_b1 p0)), (own_m2 (own_b1 p0) (own_b2 p0)), (own_m3 (own_b1 p0) (own_b2 p0) (own_b3 p0)), (own_m4 (own_b1 p0) (own_b2 p0) (own_b3 p0) (own_b4 p0))].getD (own_k p1).toNatClampNeg 0) (own_a p2)))] [(.int (1 : Int32))])) _
      exact retN X213 hx (t := .boolean) Bd.returns (by simp) (hb hby at_359) hr
    · show Q0 Z p0 p1 p2 aM h0 n0 _ T213.heap _
      rw [he213]
      exact ⟨rfl, N213⟩
  · have hk' : own_k p1 = (2 : Int32) := hk
    have f217 := (((((((f116.other W126 (Nat.ne_of_lt (Nat.lt_of_lt_of_le V54'.lt (Nat.le_of_eq gq57.symm)))).ext E129).other W134 (Nat.ne_of_lt (Nat.lt_of_lt_of_le (f116.other W126 (Nat.ne_of_lt (Nat.lt_of_lt_of_le V54'.lt (Nat.le_of_eq gq57.symm)))).lt (Nat.le_of_eq gq129.symm)))).other W144 (Nat.ne_of_lt (Nat.lt_of_lt_of_le (f116.other W126 (Nat.ne_of_lt (Nat.lt_of_lt_of_le V54'.lt (Nat.le_of_eq gq57.symm)))).lt (Nat.le_of_eq gq129.symm)))).other W154 (Nat.ne_of_lt (Nat.lt_of_lt_of_le (f116.other W126 (Nat.ne_of_lt (Nat.lt_of_lt_of_le V54'.lt (Nat.le_of_eq gq57.symm)))).lt (Nat.le_of_eq gq129.symm)))).other W164 (Nat.ne_of_lt (Nat.lt_of_lt_of_le (f116.other W126 (Nat.ne_of_lt (Nat.lt_of_lt_of_le V54'.lt (Nat.le_of_eq gq57.symm)))).lt (Nat.le_of_eq gq129.symm)))).other W174 (Nat.ne_of_lt (Nat.lt_of_lt_of_le (f116.other W126 (Nat.ne_of_lt (Nat.lt_of_lt_of_le V54'.lt (Nat.le_of_eq gq57.symm)))).lt (Nat.le_of_eq gq129.symm))))
    obtain ⟨cl218, Ar218, qk218, Sz218, Nn218, Hh218, Gg218⟩ := id f217
    have hin218 : ¬ ((own_k p1) < 0 ∨ cl218.slots.size ≤ ((own_k p1)).toNatClampNeg) := inb_of Sz218 hkb
    have hat218 : cl218.slots[((own_k p1)).toNatClampNeg]? = some (.ref b31) := Hh218.at hin218 (by rw [hk']; rfl)
    have z219 : n0 ≤ h174.size := (Nat.le_trans (Nat.le_trans (Nat.le_trans (Nat.le_trans (Nat.le_trans (Nat.le_trans z130 E129.1) (Keep.of_wr W134).1) (Keep.of_wr W144).1) (Keep.of_wr W154).1) (Keep.of_wr W164).1) (Keep.of_wr W174).1)
    have pre220 : ∀ t, Steps p.tables e below (T174.setTop (mkF m 346 #[.val (.int p0), .val (.int p1), .val (.int p2), .val (.int (own_b1 p0)), .val (.int (own_b2 p0)), .val (.int (own_b3 p0)), .val (.int (own_b4 p0)), .val (.ref b2), .val (.ref b129), .val (.int (own_k p1)), .val (.int (own_a p2)), .val (own_anc [(.ref b5), (.ref b18), (.ref b31), (.ref b44), (.ref b57)] (own_a p2)), .val (.int (own_e ([(1 : Int32), (own_m1 (own_b1 p0)), (own_m2 (own_b1 p0) (own_b2 p0)), (own_m3 (own_b1 p0) (own_b2 p0) (own_b3 p0)), (own_m4 (own_b1 p0) (own_b2 p0) (own_b3 p0) (own_b4 p0))].getD (own_k p1).toNatClampNeg 0) (own_a p2)))] [(own_anc [(.ref b5), (.ref b18), (.ref b31), (.ref b44), (.ref b57)] (own_a p2)), (.ref b31)])) t → Steps p.tables e below (s₁.setTop (entryFrame m #[(.int p0), (.int p1), (.int p2)] maxLocals)) t := fun t kt => by
      refine pre196 _ ?_
      show Steps p.tables e below (T174.setTop (mkF m 343 #[.val (.int p0), .val (.int p1), .val (.int p2), .val (.int (own_b1 p0)), .val (.int (own_b2 p0)), .val (.int (own_b3 p0)), .val (.int (own_b4 p0)), .val (.ref b2), .val (.ref b129), .val (.int (own_k p1)), .val (.int (own_a p2)), .val (own_anc [(.ref b5), (.ref b18), (.ref b31), (.ref b44), (.ref b57)] (own_a p2)), .val (.int (own_e ([(1 : Int32), (own_m1 (own_b1 p0)), (own_m2 (own_b1 p0) (own_b2 p0)), (own_m3 (own_b1 p0) (own_b2 p0) (own_b3 p0)), (own_m4 (own_b1 p0) (own_b2 p0) (own_b3 p0) (own_b4 p0))].getD (own_k p1).toNatClampNeg 0) (own_a p2)))] [(.int (own_k p1)), (.ref b2)])) _
      refine X174.aaload hx (j := (own_k p1)) (v := (.ref b31)) (by rw [e174]; exact Ar218.1) (State.isArrayOf_alike hZ.alike Ar218.2.1) rfl Ar218.2.2 hin218 hat218 (g := (mkF m 343 #[.val (.int p0), .val (.int p1), .val (.int p2), .val (.int (own_b1 p0)), .val (.int (own_b2 p0)), .val (.int (own_b3 p0)), .val (.int (own_b4 p0)), .val (.ref b2), .val (.ref b129), .val (.int (own_k p1)), .val (.int (own_a p2)), .val (own_anc [(.ref b5), (.ref b18), (.ref b31), (.ref b44), (.ref b57)] (own_a p2)), .val (.int (own_e ([(1 : Int32), (own_m1 (own_b1 p0)), (own_m2 (own_b1 p0) (own_b2 p0)), (own_m3 (own_b1 p0) (own_b2 p0) (own_b3 p0)), (own_m4 (own_b1 p0) (own_b2 p0) (own_b3 p0) (own_b4 p0))].getD (own_k p1).toNatClampNeg 0) (own_a p2)))] [(.int (own_k p1)), (.ref b2)])) rfl rfl (hb hby at_343) _ ?_
      show Steps p.tables e below (T174.setTop (mkF m 344 #[.val (.int p0), .val (.int p1), .val (.int p2), .val (.int (own_b1 p0)), .val (.int (own_b2 p0)), .val (.int (own_b3 p0)), .val (.int (own_b4 p0)), .val (.ref b2), .val (.ref b129), .val (.int (own_k p1)), .val (.int (own_a p2)), .val (own_anc [(.ref b5), (.ref b18), (.ref b31), (.ref b44), (.ref b57)] (own_a p2)), .val (.int (own_e ([(1 : Int32), (own_m1 (own_b1 p0)), (own_m2 (own_b1 p0) (own_b2 p0)), (own_m3 (own_b1 p0) (own_b2 p0) (own_b3 p0)), (own_m4 (own_b1 p0) (own_b2 p0) (own_b3 p0) (own_b4 p0))].getD (own_k p1).toNatClampNeg 0) (own_a p2)))] [(.ref b31)])) _
      refine XS.aload X174.here hx rfl (hb hby at_344) rfl isA ?_
      exact kt
    have f222 := (((((((((f99.wr W100).wr W113).wr W126).ext E129).wr W134).wr W144).wr W154).wr W164).wr W174)
    obtain ⟨cq221, kq221, q221a, q221b, q221c⟩ := isOf hZ e174 f222
    obtain ⟨_, _, ⟨T223, L223, kc223, nc223⟩, -, X223, ⟨Lc223, hQ223, l223, y223, z223⟩, st223⟩ := X174.virtualBack hx (y := (⟨"com/example/labbrief/labbrief/cda/SchemaModel$ComplexType", "derivesFrom", "(Lcom/example/labbrief/labbrief/cda/SchemaModel$ComplexType;)Z"⟩ : MethodName)) (z := (⟨"com/example/labbrief/labbrief/cda/SchemaModel$ComplexType", "derivesFrom", "(Lcom/example/labbrief/labbrief/cda/SchemaModel$ComplexType;)Z"⟩ : MethodName)) hown (mvT hZ (hw _ (List.mem_of_getElem? (i := 22) rfl))) (mvT hZ (hw _ (List.mem_of_getElem? (i := 23) rfl))) (notFace_of_selects (args := #[]) (mvT hZ (hw _ (List.mem_of_getElem? (i := 25) rfl)))) (mvT hZ (hw _ (List.mem_of_getElem? (i := 25) rfl))) (mvT hZ (hw _ (List.mem_of_getElem? (i := 24) rfl))) (by decide) (backOf (W := 0) (rm4 l Z a0 hw [] b31 (own_anc [(.ref b5), (.ref b18), (.ref b31), (.ref b44), (.ref b57)] (own_a p2)) (own_x2 (own_t b5 b18 b31 b44 b57) (own_b1 p0) (own_b2 p0)) h174 n0 z219 isA ch2) hZ (hw _ (List.mem_of_getElem? (i := 26) rfl)) (hw _ (List.mem_of_getElem? (i := 3) rfl)) (by decide) (by decide)) q221a q221c (g := (mkF m 346 #[.val (.int p0), .val (.int p1), .val (.int p2), .val (.int (own_b1 p0)), .val (.int (own_b2 p0)), .val (.int (own_b3 p0)), .val (.int (own_b4 p0)), .val (.ref b2), .val (.ref b129), .val (.int (own_k p1)), .val (.int (own_a p2)), .val (own_anc [(.ref b5), (.ref b18), (.ref b31), (.ref b44), (.ref b57)] (own_a p2)), .val (.int (own_e ([(1 : Int32), (own_m1 (own_b1 p0)), (own_m2 (own_b1 p0) (own_b2 p0)), (own_m3 (own_b1 p0) (own_b2 p0) (own_b3 p0)), (own_m4 (own_b1 p0) (own_b2 p0) (own_b3 p0) (own_b4 p0))].getD (own_k p1).toNatClampNeg 0) (own_a p2)))] [(own_anc [(.ref b5), (.ref b18), (.ref b31), (.ref b44), (.ref b57)] (own_a p2)), (.ref b31)])) rfl (by rw [hml]; rfl) (Steps.refl _) (argsL := [(own_anc [(.ref b5), (.ref b18), (.ref b31), (.ref b44), (.ref b57)] (own_a p2))]) (rest := []) (lenOf pd_2 rfl) rfl (by show 2 * 0 + _ ≤ _; exact Nat.le_of_eq rfl) (hb hby at_346) (fun _ _ => ⟨rfl, e174, (by decide : 7 + 0 ≤ _), (by decide : 50 + 0 ≤ _)⟩)
    dsimp only [Pt.U, Pt.locs, Pt.cells, Pt.slots] at X223 l223 y223 z223 st223 hQ223
    subst l223 y223 z223
    obtain ⟨rfl, N223q, he223⟩ := hQ223
    have N223 := Fr.app N174 N223q
    have pre224 : ∀ t, Steps p.tables e below (T223.setTop (mkF m 349 #[.val (.int p0), .val (.int p1), .val (.int p2), .val (.int (own_b1 p0)), .val (.int (own_b2 p0)), .val (.int (own_b3 p0)), .val (.int (own_b4 p0)), .val (.ref b2), .val (.ref b129), .val (.int (own_k p1)), .val (.int (own_a p2)), .val (own_anc [(.ref b5), (.ref b18), (.ref b31), (.ref b44), (.ref b57)] (own_a p2)), .val (.int (own_e ([(1 : Int32), (own_m1 (own_b1 p0)), (own_m2 (own_b1 p0) (own_b2 p0)), (own_m3 (own_b1 p0) (own_b2 p0) (own_b3 p0)), (own_m4 (own_b1 p0) (own_b2 p0) (own_b3 p0) (own_b4 p0))].getD (own_k p1).toNatClampNeg 0) (own_a p2)))] [(.int (own_mem (own_anc [(.ref b5), (.ref b18), (.ref b31), (.ref b44), (.ref b57)] (own_a p2)) (own_x2 (own_t b5 b18 b31 b44 b57) (own_b1 p0) (own_b2 p0))))])) t → Steps p.tables e below (s₁.setTop (entryFrame m #[(.int p0), (.int p1), (.int p2)] maxLocals)) t := fun t kt => pre220 _ (st223.trans kt)
    have pre225 : ∀ t, Steps p.tables e below (T223.setTop (mkF m 351 #[.val (.int p0), .val (.int p1), .val (.int p2), .val (.int (own_b1 p0)), .val (.int (own_b2 p0)), .val (.int (own_b3 p0)), .val (.int (own_b4 p0)), .val (.ref b2), .val (.ref b129), .val (.int (own_k p1)), .val (.int (own_a p2)), .val (own_anc [(.ref b5), (.ref b18), (.ref b31), (.ref b44), (.ref b57)] (own_a p2)), .val (.int (own_e ([(1 : Int32), (own_m1 (own_b1 p0)), (own_m2 (own_b1 p0) (own_b2 p0)), (own_m3 (own_b1 p0) (own_b2 p0) (own_b3 p0)), (own_m4 (own_b1 p0) (own_b2 p0) (own_b3 p0) (own_b4 p0))].getD (own_k p1).toNatClampNeg 0) (own_a p2)))] [(.int (own_e ([(1 : Int32), (own_m1 (own_b1 p0)), (own_m2 (own_b1 p0) (own_b2 p0)), (own_m3 (own_b1 p0) (own_b2 p0) (own_b3 p0)), (own_m4 (own_b1 p0) (own_b2 p0) (own_b3 p0) (own_b4 p0))].getD (own_k p1).toNatClampNeg 0) (own_a p2))), (.int (own_mem (own_anc [(.ref b5), (.ref b18), (.ref b31), (.ref b44), (.ref b57)] (own_a p2)) (own_x2 (own_t b5 b18 b31 b44 b57) (own_b1 p0) (own_b2 p0))))])) t → Steps p.tables e below (s₁.setTop (entryFrame m #[(.int p0), (.int p1), (.int p2)] maxLocals)) t := fun t kt => by
      refine pre224 _ ?_
      show Steps p.tables e below (T223.setTop (mkF m 349 #[.val (.int p0), .val (.int p1), .val (.int p2), .val (.int (own_b1 p0)), .val (.int (own_b2 p0)), .val (.int (own_b3 p0)), .val (.int (own_b4 p0)), .val (.ref b2), .val (.ref b129), .val (.int (own_k p1)), .val (.int (own_a p2)), .val (own_anc [(.ref b5), (.ref b18), (.ref b31), (.ref b44), (.ref b57)] (own_a p2)), .val (.int (own_e ([(1 : Int32), (own_m1 (own_b1 p0)), (own_m2 (own_b1 p0) (own_b2 p0)), (own_m3 (own_b1 p0) (own_b2 p0) (own_b3 p0)), (own_m4 (own_b1 p0) (own_b2 p0) (own_b3 p0) (own_b4 p0))].getD (own_k p1).toNatClampNeg 0) (own_a p2)))] [(.int (own_mem (own_anc [(.ref b5), (.ref b18), (.ref b31), (.ref b44), (.ref b57)] (own_a p2)) (own_x2 (own_t b5 b18 b31 b44 b57) (own_b1 p0) (own_b2 p0))))])) _
      refine XS.iload X223.here hx rfl (hb hby at_349) rfl ?_
      exact kt
    have em : ([(1 : Int32), (own_m1 (own_b1 p0)), (own_m2 (own_b1 p0) (own_b2 p0)), (own_m3 (own_b1 p0) (own_b2 p0) (own_b3 p0)), (own_m4 (own_b1 p0) (own_b2 p0) (own_b3 p0) (own_b4 p0))].getD (own_k p1).toNatClampNeg 0) = (own_m2 (own_b1 p0) (own_b2 p0)) := by rw [hk']; rfl
    have fin : (own_mem (own_anc [(.ref b5), (.ref b18), (.ref b31), (.ref b44), (.ref b57)] (own_a p2)) (own_x2 (own_t b5 b18 b31 b44 b57) (own_b1 p0) (own_b2 p0))) = (own_e ([(1 : Int32), (own_m1 (own_b1 p0)), (own_m2 (own_b1 p0) (own_b2 p0)), (own_m3 (own_b1 p0) (own_b2 p0) (own_b3 p0)), (own_m4 (own_b1 p0) (own_b2 p0) (own_b3 p0) (own_b4 p0))].getD (own_k p1).toNatClampNeg 0) (own_a p2)) := by
      rw [em, ha, hj1, hj2]
      rw [own_x2m]
      exact own_law inj _ _ ja (own_all2 j1 j2 ja)
    have pre226 : ∀ t, Steps p.tables e below (T223.setTop (mkF m 359 #[.val (.int p0), .val (.int p1), .val (.int p2), .val (.int (own_b1 p0)), .val (.int (own_b2 p0)), .val (.int (own_b3 p0)), .val (.int (own_b4 p0)), .val (.ref b2), .val (.ref b129), .val (.int (own_k p1)), .val (.int (own_a p2)), .val (own_anc [(.ref b5), (.ref b18), (.ref b31), (.ref b44), (.ref b57)] (own_a p2)), .val (.int (own_e ([(1 : Int32), (own_m1 (own_b1 p0)), (own_m2 (own_b1 p0) (own_b2 p0)), (own_m3 (own_b1 p0) (own_b2 p0) (own_b3 p0)), (own_m4 (own_b1 p0) (own_b2 p0) (own_b3 p0) (own_b4 p0))].getD (own_k p1).toNatClampNeg 0) (own_a p2)))] [(.int (1 : Int32))])) t → Steps p.tables e below (s₁.setTop (entryFrame m #[(.int p0), (.int p1), (.int p2)] maxLocals)) t := fun t kt => by
      refine pre225 _ ?_
      show Steps p.tables e below (T223.setTop (mkF m 351 #[.val (.int p0), .val (.int p1), .val (.int p2), .val (.int (own_b1 p0)), .val (.int (own_b2 p0)), .val (.int (own_b3 p0)), .val (.int (own_b4 p0)), .val (.ref b2), .val (.ref b129), .val (.int (own_k p1)), .val (.int (own_a p2)), .val (own_anc [(.ref b5), (.ref b18), (.ref b31), (.ref b44), (.ref b57)] (own_a p2)), .val (.int (own_e ([(1 : Int32), (own_m1 (own_b1 p0)), (own_m2 (own_b1 p0) (own_b2 p0)), (own_m3 (own_b1 p0) (own_b2 p0) (own_b3 p0)), (own_m4 (own_b1 p0) (own_b2 p0) (own_b3 p0) (own_b4 p0))].getD (own_k p1).toNatClampNeg 0) (own_a p2)))] [(.int (own_e ([(1 : Int32), (own_m1 (own_b1 p0)), (own_m2 (own_b1 p0) (own_b2 p0)), (own_m3 (own_b1 p0) (own_b2 p0) (own_b3 p0)), (own_m4 (own_b1 p0) (own_b2 p0) (own_b3 p0) (own_b4 p0))].getD (own_k p1).toNatClampNeg 0) (own_a p2))), (.int (own_mem (own_anc [(.ref b5), (.ref b18), (.ref b31), (.ref b44), (.ref b57)] (own_a p2)) (own_x2 (own_t b5 b18 b31 b44 b57) (own_b1 p0) (own_b2 p0))))])) _
      refine XS.icmpNo X223.here hx rfl (hb hby at_351) rfl (teq (fin : (own_mem (own_anc [(.ref b5), (.ref b18), (.ref b31), (.ref b44), (.ref b57)] (own_a p2)) (own_x2 (own_t b5 b18 b31 b44 b57) (own_b1 p0) (own_b2 p0))) = (own_e ([(1 : Int32), (own_m1 (own_b1 p0)), (own_m2 (own_b1 p0) (own_b2 p0)), (own_m3 (own_b1 p0) (own_b2 p0) (own_b3 p0)), (own_m4 (own_b1 p0) (own_b2 p0) (own_b3 p0) (own_b4 p0))].getD (own_k p1).toNatClampNeg 0) (own_a p2)))).2 ?_
      show Steps p.tables e below (T223.setTop (mkF m 354 #[.val (.int p0), .val (.int p1), .val (.int p2), .val (.int (own_b1 p0)), .val (.int (own_b2 p0)), .val (.int (own_b3 p0)), .val (.int (own_b4 p0)), .val (.ref b2), .val (.ref b129), .val (.int (own_k p1)), .val (.int (own_a p2)), .val (own_anc [(.ref b5), (.ref b18), (.ref b31), (.ref b44), (.ref b57)] (own_a p2)), .val (.int (own_e ([(1 : Int32), (own_m1 (own_b1 p0)), (own_m2 (own_b1 p0) (own_b2 p0)), (own_m3 (own_b1 p0) (own_b2 p0) (own_b3 p0)), (own_m4 (own_b1 p0) (own_b2 p0) (own_b3 p0) (own_b4 p0))].getD (own_k p1).toNatClampNeg 0) (own_a p2)))] [])) _
      refine XS.iconst X223.here hx rfl (hb hby at_354) ?_
      show Steps p.tables e below (T223.setTop (mkF m 355 #[.val (.int p0), .val (.int p1), .val (.int p2), .val (.int (own_b1 p0)), .val (.int (own_b2 p0)), .val (.int (own_b3 p0)), .val (.int (own_b4 p0)), .val (.ref b2), .val (.ref b129), .val (.int (own_k p1)), .val (.int (own_a p2)), .val (own_anc [(.ref b5), (.ref b18), (.ref b31), (.ref b44), (.ref b57)] (own_a p2)), .val (.int (own_e ([(1 : Int32), (own_m1 (own_b1 p0)), (own_m2 (own_b1 p0) (own_b2 p0)), (own_m3 (own_b1 p0) (own_b2 p0) (own_b3 p0)), (own_m4 (own_b1 p0) (own_b2 p0) (own_b3 p0) (own_b4 p0))].getD (own_k p1).toNatClampNeg 0) (own_a p2)))] [(.int (1 : Int32))])) _
      refine XS.goto X223.here hx rfl (pc0 := 355) (pc' := 359) rfl (hb hby at_355) (by decide) (by decide) ?_
      exact kt
    obtain ⟨fs, hr, hrun, hended, hW, hsame⟩ := X223.leave (v := (some (.int (1 : Int32)))) (fun h => by rw [Bd.returns] at h; cases h)
    refine ⟨_, _, pre226 _ ?_, hrun, hended, _, _, rfl, ?_, ⟨_, rfl⟩, hW, hsame.mono (by decide) (by decide)⟩
    · show Steps p.tables e below (T223.setTop (mkF m 359 #[.val (.int p0), .val (.int p1), .val (.int p2), .val (.int (own_b1 p0)), .val (.int (own_b2 p0)), .val (.int (own_b3 p0)), .val (.int (own_b4 p0)), .val (.ref b2), .val (.ref b129), .val (.int (own_k p1)), .val (.int (own_a p2)), .val (own_anc [(.ref b5), (.ref b18), (.ref b31), (.ref b44), (.ref b57)] (own_a p2)), .val (.int (own_e ([(1 : Int32), (own_m1 (own_b1 p0)), (own_m2 (own_b1 p0) (own_b2 p0)), (own_m3 (own_b1 p0) (own_b2 p0) (own_b3 p0)), (own_m4 (own_b1 p0) (own_b2 p0) (own_b3 p0) (own_b4 p0))].getD (own_k p1).toNatClampNeg 0) (own_a p2)))] [(.int (1 : Int32))])) _
      exact retN X223 hx (t := .boolean) Bd.returns (by simp) (hb hby at_359) hr
    · show Q0 Z p0 p1 p2 aM h0 n0 _ T223.heap _
      rw [he223]
      exact ⟨rfl, N223⟩
  · have hk' : own_k p1 = (3 : Int32) := hk
    have f227 := (((((((f116.other W126 (Nat.ne_of_lt (Nat.lt_of_lt_of_le V54'.lt (Nat.le_of_eq gq57.symm)))).ext E129).other W134 (Nat.ne_of_lt (Nat.lt_of_lt_of_le (f116.other W126 (Nat.ne_of_lt (Nat.lt_of_lt_of_le V54'.lt (Nat.le_of_eq gq57.symm)))).lt (Nat.le_of_eq gq129.symm)))).other W144 (Nat.ne_of_lt (Nat.lt_of_lt_of_le (f116.other W126 (Nat.ne_of_lt (Nat.lt_of_lt_of_le V54'.lt (Nat.le_of_eq gq57.symm)))).lt (Nat.le_of_eq gq129.symm)))).other W154 (Nat.ne_of_lt (Nat.lt_of_lt_of_le (f116.other W126 (Nat.ne_of_lt (Nat.lt_of_lt_of_le V54'.lt (Nat.le_of_eq gq57.symm)))).lt (Nat.le_of_eq gq129.symm)))).other W164 (Nat.ne_of_lt (Nat.lt_of_lt_of_le (f116.other W126 (Nat.ne_of_lt (Nat.lt_of_lt_of_le V54'.lt (Nat.le_of_eq gq57.symm)))).lt (Nat.le_of_eq gq129.symm)))).other W174 (Nat.ne_of_lt (Nat.lt_of_lt_of_le (f116.other W126 (Nat.ne_of_lt (Nat.lt_of_lt_of_le V54'.lt (Nat.le_of_eq gq57.symm)))).lt (Nat.le_of_eq gq129.symm))))
    obtain ⟨cl228, Ar228, qk228, Sz228, Nn228, Hh228, Gg228⟩ := id f227
    have hin228 : ¬ ((own_k p1) < 0 ∨ cl228.slots.size ≤ ((own_k p1)).toNatClampNeg) := inb_of Sz228 hkb
    have hat228 : cl228.slots[((own_k p1)).toNatClampNeg]? = some (.ref b44) := Hh228.at hin228 (by rw [hk']; rfl)
    have z229 : n0 ≤ h174.size := (Nat.le_trans (Nat.le_trans (Nat.le_trans (Nat.le_trans (Nat.le_trans (Nat.le_trans z130 E129.1) (Keep.of_wr W134).1) (Keep.of_wr W144).1) (Keep.of_wr W154).1) (Keep.of_wr W164).1) (Keep.of_wr W174).1)
    have pre230 : ∀ t, Steps p.tables e below (T174.setTop (mkF m 346 #[.val (.int p0), .val (.int p1), .val (.int p2), .val (.int (own_b1 p0)), .val (.int (own_b2 p0)), .val (.int (own_b3 p0)), .val (.int (own_b4 p0)), .val (.ref b2), .val (.ref b129), .val (.int (own_k p1)), .val (.int (own_a p2)), .val (own_anc [(.ref b5), (.ref b18), (.ref b31), (.ref b44), (.ref b57)] (own_a p2)), .val (.int (own_e ([(1 : Int32), (own_m1 (own_b1 p0)), (own_m2 (own_b1 p0) (own_b2 p0)), (own_m3 (own_b1 p0) (own_b2 p0) (own_b3 p0)), (own_m4 (own_b1 p0) (own_b2 p0) (own_b3 p0) (own_b4 p0))].getD (own_k p1).toNatClampNeg 0) (own_a p2)))] [(own_anc [(.ref b5), (.ref b18), (.ref b31), (.ref b44), (.ref b57)] (own_a p2)), (.ref b44)])) t → Steps p.tables e below (s₁.setTop (entryFrame m #[(.int p0), (.int p1), (.int p2)] maxLocals)) t := fun t kt => by
      refine pre196 _ ?_
      show Steps p.tables e below (T174.setTop (mkF m 343 #[.val (.int p0), .val (.int p1), .val (.int p2), .val (.int (own_b1 p0)), .val (.int (own_b2 p0)), .val (.int (own_b3 p0)), .val (.int (own_b4 p0)), .val (.ref b2), .val (.ref b129), .val (.int (own_k p1)), .val (.int (own_a p2)), .val (own_anc [(.ref b5), (.ref b18), (.ref b31), (.ref b44), (.ref b57)] (own_a p2)), .val (.int (own_e ([(1 : Int32), (own_m1 (own_b1 p0)), (own_m2 (own_b1 p0) (own_b2 p0)), (own_m3 (own_b1 p0) (own_b2 p0) (own_b3 p0)), (own_m4 (own_b1 p0) (own_b2 p0) (own_b3 p0) (own_b4 p0))].getD (own_k p1).toNatClampNeg 0) (own_a p2)))] [(.int (own_k p1)), (.ref b2)])) _
      refine X174.aaload hx (j := (own_k p1)) (v := (.ref b44)) (by rw [e174]; exact Ar228.1) (State.isArrayOf_alike hZ.alike Ar228.2.1) rfl Ar228.2.2 hin228 hat228 (g := (mkF m 343 #[.val (.int p0), .val (.int p1), .val (.int p2), .val (.int (own_b1 p0)), .val (.int (own_b2 p0)), .val (.int (own_b3 p0)), .val (.int (own_b4 p0)), .val (.ref b2), .val (.ref b129), .val (.int (own_k p1)), .val (.int (own_a p2)), .val (own_anc [(.ref b5), (.ref b18), (.ref b31), (.ref b44), (.ref b57)] (own_a p2)), .val (.int (own_e ([(1 : Int32), (own_m1 (own_b1 p0)), (own_m2 (own_b1 p0) (own_b2 p0)), (own_m3 (own_b1 p0) (own_b2 p0) (own_b3 p0)), (own_m4 (own_b1 p0) (own_b2 p0) (own_b3 p0) (own_b4 p0))].getD (own_k p1).toNatClampNeg 0) (own_a p2)))] [(.int (own_k p1)), (.ref b2)])) rfl rfl (hb hby at_343) _ ?_
      show Steps p.tables e below (T174.setTop (mkF m 344 #[.val (.int p0), .val (.int p1), .val (.int p2), .val (.int (own_b1 p0)), .val (.int (own_b2 p0)), .val (.int (own_b3 p0)), .val (.int (own_b4 p0)), .val (.ref b2), .val (.ref b129), .val (.int (own_k p1)), .val (.int (own_a p2)), .val (own_anc [(.ref b5), (.ref b18), (.ref b31), (.ref b44), (.ref b57)] (own_a p2)), .val (.int (own_e ([(1 : Int32), (own_m1 (own_b1 p0)), (own_m2 (own_b1 p0) (own_b2 p0)), (own_m3 (own_b1 p0) (own_b2 p0) (own_b3 p0)), (own_m4 (own_b1 p0) (own_b2 p0) (own_b3 p0) (own_b4 p0))].getD (own_k p1).toNatClampNeg 0) (own_a p2)))] [(.ref b44)])) _
      refine XS.aload X174.here hx rfl (hb hby at_344) rfl isA ?_
      exact kt
    have f232 := ((((((((f112.wr W113).wr W126).ext E129).wr W134).wr W144).wr W154).wr W164).wr W174)
    obtain ⟨cq231, kq231, q231a, q231b, q231c⟩ := isOf hZ e174 f232
    obtain ⟨_, _, ⟨T233, L233, kc233, nc233⟩, -, X233, ⟨Lc233, hQ233, l233, y233, z233⟩, st233⟩ := X174.virtualBack hx (y := (⟨"com/example/labbrief/labbrief/cda/SchemaModel$ComplexType", "derivesFrom", "(Lcom/example/labbrief/labbrief/cda/SchemaModel$ComplexType;)Z"⟩ : MethodName)) (z := (⟨"com/example/labbrief/labbrief/cda/SchemaModel$ComplexType", "derivesFrom", "(Lcom/example/labbrief/labbrief/cda/SchemaModel$ComplexType;)Z"⟩ : MethodName)) hown (mvT hZ (hw _ (List.mem_of_getElem? (i := 22) rfl))) (mvT hZ (hw _ (List.mem_of_getElem? (i := 23) rfl))) (notFace_of_selects (args := #[]) (mvT hZ (hw _ (List.mem_of_getElem? (i := 25) rfl)))) (mvT hZ (hw _ (List.mem_of_getElem? (i := 25) rfl))) (mvT hZ (hw _ (List.mem_of_getElem? (i := 24) rfl))) (by decide) (backOf (W := 0) (rm4 l Z a0 hw [] b44 (own_anc [(.ref b5), (.ref b18), (.ref b31), (.ref b44), (.ref b57)] (own_a p2)) (own_x3 (own_t b5 b18 b31 b44 b57) (own_b1 p0) (own_b2 p0) (own_b3 p0)) h174 n0 z229 isA ch3) hZ (hw _ (List.mem_of_getElem? (i := 26) rfl)) (hw _ (List.mem_of_getElem? (i := 3) rfl)) (by decide) (by decide)) q231a q231c (g := (mkF m 346 #[.val (.int p0), .val (.int p1), .val (.int p2), .val (.int (own_b1 p0)), .val (.int (own_b2 p0)), .val (.int (own_b3 p0)), .val (.int (own_b4 p0)), .val (.ref b2), .val (.ref b129), .val (.int (own_k p1)), .val (.int (own_a p2)), .val (own_anc [(.ref b5), (.ref b18), (.ref b31), (.ref b44), (.ref b57)] (own_a p2)), .val (.int (own_e ([(1 : Int32), (own_m1 (own_b1 p0)), (own_m2 (own_b1 p0) (own_b2 p0)), (own_m3 (own_b1 p0) (own_b2 p0) (own_b3 p0)), (own_m4 (own_b1 p0) (own_b2 p0) (own_b3 p0) (own_b4 p0))].getD (own_k p1).toNatClampNeg 0) (own_a p2)))] [(own_anc [(.ref b5), (.ref b18), (.ref b31), (.ref b44), (.ref b57)] (own_a p2)), (.ref b44)])) rfl (by rw [hml]; rfl) (Steps.refl _) (argsL := [(own_anc [(.ref b5), (.ref b18), (.ref b31), (.ref b44), (.ref b57)] (own_a p2))]) (rest := []) (lenOf pd_2 rfl) rfl (by show 2 * 0 + _ ≤ _; exact Nat.le_of_eq rfl) (hb hby at_346) (fun _ _ => ⟨rfl, e174, (by decide : 7 + 0 ≤ _), (by decide : 50 + 0 ≤ _)⟩)
    dsimp only [Pt.U, Pt.locs, Pt.cells, Pt.slots] at X233 l233 y233 z233 st233 hQ233
    subst l233 y233 z233
    obtain ⟨rfl, N233q, he233⟩ := hQ233
    have N233 := Fr.app N174 N233q
    have pre234 : ∀ t, Steps p.tables e below (T233.setTop (mkF m 349 #[.val (.int p0), .val (.int p1), .val (.int p2), .val (.int (own_b1 p0)), .val (.int (own_b2 p0)), .val (.int (own_b3 p0)), .val (.int (own_b4 p0)), .val (.ref b2), .val (.ref b129), .val (.int (own_k p1)), .val (.int (own_a p2)), .val (own_anc [(.ref b5), (.ref b18), (.ref b31), (.ref b44), (.ref b57)] (own_a p2)), .val (.int (own_e ([(1 : Int32), (own_m1 (own_b1 p0)), (own_m2 (own_b1 p0) (own_b2 p0)), (own_m3 (own_b1 p0) (own_b2 p0) (own_b3 p0)), (own_m4 (own_b1 p0) (own_b2 p0) (own_b3 p0) (own_b4 p0))].getD (own_k p1).toNatClampNeg 0) (own_a p2)))] [(.int (own_mem (own_anc [(.ref b5), (.ref b18), (.ref b31), (.ref b44), (.ref b57)] (own_a p2)) (own_x3 (own_t b5 b18 b31 b44 b57) (own_b1 p0) (own_b2 p0) (own_b3 p0))))])) t → Steps p.tables e below (s₁.setTop (entryFrame m #[(.int p0), (.int p1), (.int p2)] maxLocals)) t := fun t kt => pre230 _ (st233.trans kt)
    have pre235 : ∀ t, Steps p.tables e below (T233.setTop (mkF m 351 #[.val (.int p0), .val (.int p1), .val (.int p2), .val (.int (own_b1 p0)), .val (.int (own_b2 p0)), .val (.int (own_b3 p0)), .val (.int (own_b4 p0)), .val (.ref b2), .val (.ref b129), .val (.int (own_k p1)), .val (.int (own_a p2)), .val (own_anc [(.ref b5), (.ref b18), (.ref b31), (.ref b44), (.ref b57)] (own_a p2)), .val (.int (own_e ([(1 : Int32), (own_m1 (own_b1 p0)), (own_m2 (own_b1 p0) (own_b2 p0)), (own_m3 (own_b1 p0) (own_b2 p0) (own_b3 p0)), (own_m4 (own_b1 p0) (own_b2 p0) (own_b3 p0) (own_b4 p0))].getD (own_k p1).toNatClampNeg 0) (own_a p2)))] [(.int (own_e ([(1 : Int32), (own_m1 (own_b1 p0)), (own_m2 (own_b1 p0) (own_b2 p0)), (own_m3 (own_b1 p0) (own_b2 p0) (own_b3 p0)), (own_m4 (own_b1 p0) (own_b2 p0) (own_b3 p0) (own_b4 p0))].getD (own_k p1).toNatClampNeg 0) (own_a p2))), (.int (own_mem (own_anc [(.ref b5), (.ref b18), (.ref b31), (.ref b44), (.ref b57)] (own_a p2)) (own_x3 (own_t b5 b18 b31 b44 b57) (own_b1 p0) (own_b2 p0) (own_b3 p0))))])) t → Steps p.tables e below (s₁.setTop (entryFrame m #[(.int p0), (.int p1), (.int p2)] maxLocals)) t := fun t kt => by
      refine pre234 _ ?_
      show Steps p.tables e below (T233.setTop (mkF m 349 #[.val (.int p0), .val (.int p1), .val (.int p2), .val (.int (own_b1 p0)), .val (.int (own_b2 p0)), .val (.int (own_b3 p0)), .val (.int (own_b4 p0)), .val (.ref b2), .val (.ref b129), .val (.int (own_k p1)), .val (.int (own_a p2)), .val (own_anc [(.ref b5), (.ref b18), (.ref b31), (.ref b44), (.ref b57)] (own_a p2)), .val (.int (own_e ([(1 : Int32), (own_m1 (own_b1 p0)), (own_m2 (own_b1 p0) (own_b2 p0)), (own_m3 (own_b1 p0) (own_b2 p0) (own_b3 p0)), (own_m4 (own_b1 p0) (own_b2 p0) (own_b3 p0) (own_b4 p0))].getD (own_k p1).toNatClampNeg 0) (own_a p2)))] [(.int (own_mem (own_anc [(.ref b5), (.ref b18), (.ref b31), (.ref b44), (.ref b57)] (own_a p2)) (own_x3 (own_t b5 b18 b31 b44 b57) (own_b1 p0) (own_b2 p0) (own_b3 p0))))])) _
      refine XS.iload X233.here hx rfl (hb hby at_349) rfl ?_
      exact kt
    have em : ([(1 : Int32), (own_m1 (own_b1 p0)), (own_m2 (own_b1 p0) (own_b2 p0)), (own_m3 (own_b1 p0) (own_b2 p0) (own_b3 p0)), (own_m4 (own_b1 p0) (own_b2 p0) (own_b3 p0) (own_b4 p0))].getD (own_k p1).toNatClampNeg 0) = (own_m3 (own_b1 p0) (own_b2 p0) (own_b3 p0)) := by rw [hk']; rfl
    have fin : (own_mem (own_anc [(.ref b5), (.ref b18), (.ref b31), (.ref b44), (.ref b57)] (own_a p2)) (own_x3 (own_t b5 b18 b31 b44 b57) (own_b1 p0) (own_b2 p0) (own_b3 p0))) = (own_e ([(1 : Int32), (own_m1 (own_b1 p0)), (own_m2 (own_b1 p0) (own_b2 p0)), (own_m3 (own_b1 p0) (own_b2 p0) (own_b3 p0)), (own_m4 (own_b1 p0) (own_b2 p0) (own_b3 p0) (own_b4 p0))].getD (own_k p1).toNatClampNeg 0) (own_a p2)) := by
      rw [em, ha, hj1, hj2, hj3]
      rw [own_x3m]
      exact own_law inj _ _ ja (own_all3 j1 j2 j3 ja)
    have pre236 : ∀ t, Steps p.tables e below (T233.setTop (mkF m 359 #[.val (.int p0), .val (.int p1), .val (.int p2), .val (.int (own_b1 p0)), .val (.int (own_b2 p0)), .val (.int (own_b3 p0)), .val (.int (own_b4 p0)), .val (.ref b2), .val (.ref b129), .val (.int (own_k p1)), .val (.int (own_a p2)), .val (own_anc [(.ref b5), (.ref b18), (.ref b31), (.ref b44), (.ref b57)] (own_a p2)), .val (.int (own_e ([(1 : Int32), (own_m1 (own_b1 p0)), (own_m2 (own_b1 p0) (own_b2 p0)), (own_m3 (own_b1 p0) (own_b2 p0) (own_b3 p0)), (own_m4 (own_b1 p0) (own_b2 p0) (own_b3 p0) (own_b4 p0))].getD (own_k p1).toNatClampNeg 0) (own_a p2)))] [(.int (1 : Int32))])) t → Steps p.tables e below (s₁.setTop (entryFrame m #[(.int p0), (.int p1), (.int p2)] maxLocals)) t := fun t kt => by
      refine pre235 _ ?_
      show Steps p.tables e below (T233.setTop (mkF m 351 #[.val (.int p0), .val (.int p1), .val (.int p2), .val (.int (own_b1 p0)), .val (.int (own_b2 p0)), .val (.int (own_b3 p0)), .val (.int (own_b4 p0)), .val (.ref b2), .val (.ref b129), .val (.int (own_k p1)), .val (.int (own_a p2)), .val (own_anc [(.ref b5), (.ref b18), (.ref b31), (.ref b44), (.ref b57)] (own_a p2)), .val (.int (own_e ([(1 : Int32), (own_m1 (own_b1 p0)), (own_m2 (own_b1 p0) (own_b2 p0)), (own_m3 (own_b1 p0) (own_b2 p0) (own_b3 p0)), (own_m4 (own_b1 p0) (own_b2 p0) (own_b3 p0) (own_b4 p0))].getD (own_k p1).toNatClampNeg 0) (own_a p2)))] [(.int (own_e ([(1 : Int32), (own_m1 (own_b1 p0)), (own_m2 (own_b1 p0) (own_b2 p0)), (own_m3 (own_b1 p0) (own_b2 p0) (own_b3 p0)), (own_m4 (own_b1 p0) (own_b2 p0) (own_b3 p0) (own_b4 p0))].getD (own_k p1).toNatClampNeg 0) (own_a p2))), (.int (own_mem (own_anc [(.ref b5), (.ref b18), (.ref b31), (.ref b44), (.ref b57)] (own_a p2)) (own_x3 (own_t b5 b18 b31 b44 b57) (own_b1 p0) (own_b2 p0) (own_b3 p0))))])) _
      refine XS.icmpNo X233.here hx rfl (hb hby at_351) rfl (teq (fin : (own_mem (own_anc [(.ref b5), (.ref b18), (.ref b31), (.ref b44), (.ref b57)] (own_a p2)) (own_x3 (own_t b5 b18 b31 b44 b57) (own_b1 p0) (own_b2 p0) (own_b3 p0))) = (own_e ([(1 : Int32), (own_m1 (own_b1 p0)), (own_m2 (own_b1 p0) (own_b2 p0)), (own_m3 (own_b1 p0) (own_b2 p0) (own_b3 p0)), (own_m4 (own_b1 p0) (own_b2 p0) (own_b3 p0) (own_b4 p0))].getD (own_k p1).toNatClampNeg 0) (own_a p2)))).2 ?_
      show Steps p.tables e below (T233.setTop (mkF m 354 #[.val (.int p0), .val (.int p1), .val (.int p2), .val (.int (own_b1 p0)), .val (.int (own_b2 p0)), .val (.int (own_b3 p0)), .val (.int (own_b4 p0)), .val (.ref b2), .val (.ref b129), .val (.int (own_k p1)), .val (.int (own_a p2)), .val (own_anc [(.ref b5), (.ref b18), (.ref b31), (.ref b44), (.ref b57)] (own_a p2)), .val (.int (own_e ([(1 : Int32), (own_m1 (own_b1 p0)), (own_m2 (own_b1 p0) (own_b2 p0)), (own_m3 (own_b1 p0) (own_b2 p0) (own_b3 p0)), (own_m4 (own_b1 p0) (own_b2 p0) (own_b3 p0) (own_b4 p0))].getD (own_k p1).toNatClampNeg 0) (own_a p2)))] [])) _
      refine XS.iconst X233.here hx rfl (hb hby at_354) ?_
      show Steps p.tables e below (T233.setTop (mkF m 355 #[.val (.int p0), .val (.int p1), .val (.int p2), .val (.int (own_b1 p0)), .val (.int (own_b2 p0)), .val (.int (own_b3 p0)), .val (.int (own_b4 p0)), .val (.ref b2), .val (.ref b129), .val (.int (own_k p1)), .val (.int (own_a p2)), .val (own_anc [(.ref b5), (.ref b18), (.ref b31), (.ref b44), (.ref b57)] (own_a p2)), .val (.int (own_e ([(1 : Int32), (own_m1 (own_b1 p0)), (own_m2 (own_b1 p0) (own_b2 p0)), (own_m3 (own_b1 p0) (own_b2 p0) (own_b3 p0)), (own_m4 (own_b1 p0) (own_b2 p0) (own_b3 p0) (own_b4 p0))].getD (own_k p1).toNatClampNeg 0) (own_a p2)))] [(.int (1 : Int32))])) _
      refine XS.goto X233.here hx rfl (pc0 := 355) (pc' := 359) rfl (hb hby at_355) (by decide) (by decide) ?_
      exact kt
    obtain ⟨fs, hr, hrun, hended, hW, hsame⟩ := X233.leave (v := (some (.int (1 : Int32)))) (fun h => by rw [Bd.returns] at h; cases h)
    refine ⟨_, _, pre236 _ ?_, hrun, hended, _, _, rfl, ?_, ⟨_, rfl⟩, hW, hsame.mono (by decide) (by decide)⟩
    · show Steps p.tables e below (T233.setTop (mkF m 359 #[.val (.int p0), .val (.int p1), .val (.int p2), .val (.int (own_b1 p0)), .val (.int (own_b2 p0)), .val (.int (own_b3 p0)), .val (.int (own_b4 p0)), .val (.ref b2), .val (.ref b129), .val (.int (own_k p1)), .val (.int (own_a p2)), .val (own_anc [(.ref b5), (.ref b18), (.ref b31), (.ref b44), (.ref b57)] (own_a p2)), .val (.int (own_e ([(1 : Int32), (own_m1 (own_b1 p0)), (own_m2 (own_b1 p0) (own_b2 p0)), (own_m3 (own_b1 p0) (own_b2 p0) (own_b3 p0)), (own_m4 (own_b1 p0) (own_b2 p0) (own_b3 p0) (own_b4 p0))].getD (own_k p1).toNatClampNeg 0) (own_a p2)))] [(.int (1 : Int32))])) _
      exact retN X233 hx (t := .boolean) Bd.returns (by simp) (hb hby at_359) hr
    · show Q0 Z p0 p1 p2 aM h0 n0 _ T233.heap _
      rw [he233]
      exact ⟨rfl, N233⟩
  · have hk' : own_k p1 = (4 : Int32) := hk
    have f237 := (((((((f116.other W126 (Nat.ne_of_lt (Nat.lt_of_lt_of_le V54'.lt (Nat.le_of_eq gq57.symm)))).ext E129).other W134 (Nat.ne_of_lt (Nat.lt_of_lt_of_le (f116.other W126 (Nat.ne_of_lt (Nat.lt_of_lt_of_le V54'.lt (Nat.le_of_eq gq57.symm)))).lt (Nat.le_of_eq gq129.symm)))).other W144 (Nat.ne_of_lt (Nat.lt_of_lt_of_le (f116.other W126 (Nat.ne_of_lt (Nat.lt_of_lt_of_le V54'.lt (Nat.le_of_eq gq57.symm)))).lt (Nat.le_of_eq gq129.symm)))).other W154 (Nat.ne_of_lt (Nat.lt_of_lt_of_le (f116.other W126 (Nat.ne_of_lt (Nat.lt_of_lt_of_le V54'.lt (Nat.le_of_eq gq57.symm)))).lt (Nat.le_of_eq gq129.symm)))).other W164 (Nat.ne_of_lt (Nat.lt_of_lt_of_le (f116.other W126 (Nat.ne_of_lt (Nat.lt_of_lt_of_le V54'.lt (Nat.le_of_eq gq57.symm)))).lt (Nat.le_of_eq gq129.symm)))).other W174 (Nat.ne_of_lt (Nat.lt_of_lt_of_le (f116.other W126 (Nat.ne_of_lt (Nat.lt_of_lt_of_le V54'.lt (Nat.le_of_eq gq57.symm)))).lt (Nat.le_of_eq gq129.symm))))
    obtain ⟨cl238, Ar238, qk238, Sz238, Nn238, Hh238, Gg238⟩ := id f237
    have hin238 : ¬ ((own_k p1) < 0 ∨ cl238.slots.size ≤ ((own_k p1)).toNatClampNeg) := inb_of Sz238 hkb
    have hat238 : cl238.slots[((own_k p1)).toNatClampNeg]? = some (.ref b57) := Hh238.at hin238 (by rw [hk']; rfl)
    have z239 : n0 ≤ h174.size := (Nat.le_trans (Nat.le_trans (Nat.le_trans (Nat.le_trans (Nat.le_trans (Nat.le_trans z130 E129.1) (Keep.of_wr W134).1) (Keep.of_wr W144).1) (Keep.of_wr W154).1) (Keep.of_wr W164).1) (Keep.of_wr W174).1)
    have pre240 : ∀ t, Steps p.tables e below (T174.setTop (mkF m 346 #[.val (.int p0), .val (.int p1), .val (.int p2), .val (.int (own_b1 p0)), .val (.int (own_b2 p0)), .val (.int (own_b3 p0)), .val (.int (own_b4 p0)), .val (.ref b2), .val (.ref b129), .val (.int (own_k p1)), .val (.int (own_a p2)), .val (own_anc [(.ref b5), (.ref b18), (.ref b31), (.ref b44), (.ref b57)] (own_a p2)), .val (.int (own_e ([(1 : Int32), (own_m1 (own_b1 p0)), (own_m2 (own_b1 p0) (own_b2 p0)), (own_m3 (own_b1 p0) (own_b2 p0) (own_b3 p0)), (own_m4 (own_b1 p0) (own_b2 p0) (own_b3 p0) (own_b4 p0))].getD (own_k p1).toNatClampNeg 0) (own_a p2)))] [(own_anc [(.ref b5), (.ref b18), (.ref b31), (.ref b44), (.ref b57)] (own_a p2)), (.ref b57)])) t → Steps p.tables e below (s₁.setTop (entryFrame m #[(.int p0), (.int p1), (.int p2)] maxLocals)) t := fun t kt => by
      refine pre196 _ ?_
      show Steps p.tables e below (T174.setTop (mkF m 343 #[.val (.int p0), .val (.int p1), .val (.int p2), .val (.int (own_b1 p0)), .val (.int (own_b2 p0)), .val (.int (own_b3 p0)), .val (.int (own_b4 p0)), .val (.ref b2), .val (.ref b129), .val (.int (own_k p1)), .val (.int (own_a p2)), .val (own_anc [(.ref b5), (.ref b18), (.ref b31), (.ref b44), (.ref b57)] (own_a p2)), .val (.int (own_e ([(1 : Int32), (own_m1 (own_b1 p0)), (own_m2 (own_b1 p0) (own_b2 p0)), (own_m3 (own_b1 p0) (own_b2 p0) (own_b3 p0)), (own_m4 (own_b1 p0) (own_b2 p0) (own_b3 p0) (own_b4 p0))].getD (own_k p1).toNatClampNeg 0) (own_a p2)))] [(.int (own_k p1)), (.ref b2)])) _
      refine X174.aaload hx (j := (own_k p1)) (v := (.ref b57)) (by rw [e174]; exact Ar238.1) (State.isArrayOf_alike hZ.alike Ar238.2.1) rfl Ar238.2.2 hin238 hat238 (g := (mkF m 343 #[.val (.int p0), .val (.int p1), .val (.int p2), .val (.int (own_b1 p0)), .val (.int (own_b2 p0)), .val (.int (own_b3 p0)), .val (.int (own_b4 p0)), .val (.ref b2), .val (.ref b129), .val (.int (own_k p1)), .val (.int (own_a p2)), .val (own_anc [(.ref b5), (.ref b18), (.ref b31), (.ref b44), (.ref b57)] (own_a p2)), .val (.int (own_e ([(1 : Int32), (own_m1 (own_b1 p0)), (own_m2 (own_b1 p0) (own_b2 p0)), (own_m3 (own_b1 p0) (own_b2 p0) (own_b3 p0)), (own_m4 (own_b1 p0) (own_b2 p0) (own_b3 p0) (own_b4 p0))].getD (own_k p1).toNatClampNeg 0) (own_a p2)))] [(.int (own_k p1)), (.ref b2)])) rfl rfl (hb hby at_343) _ ?_
      show Steps p.tables e below (T174.setTop (mkF m 344 #[.val (.int p0), .val (.int p1), .val (.int p2), .val (.int (own_b1 p0)), .val (.int (own_b2 p0)), .val (.int (own_b3 p0)), .val (.int (own_b4 p0)), .val (.ref b2), .val (.ref b129), .val (.int (own_k p1)), .val (.int (own_a p2)), .val (own_anc [(.ref b5), (.ref b18), (.ref b31), (.ref b44), (.ref b57)] (own_a p2)), .val (.int (own_e ([(1 : Int32), (own_m1 (own_b1 p0)), (own_m2 (own_b1 p0) (own_b2 p0)), (own_m3 (own_b1 p0) (own_b2 p0) (own_b3 p0)), (own_m4 (own_b1 p0) (own_b2 p0) (own_b3 p0) (own_b4 p0))].getD (own_k p1).toNatClampNeg 0) (own_a p2)))] [(.ref b57)])) _
      refine XS.aload X174.here hx rfl (hb hby at_344) rfl isA ?_
      exact kt
    have f242 := (((((((f125.wr W126).ext E129).wr W134).wr W144).wr W154).wr W164).wr W174)
    obtain ⟨cq241, kq241, q241a, q241b, q241c⟩ := isOf hZ e174 f242
    obtain ⟨_, _, ⟨T243, L243, kc243, nc243⟩, -, X243, ⟨Lc243, hQ243, l243, y243, z243⟩, st243⟩ := X174.virtualBack hx (y := (⟨"com/example/labbrief/labbrief/cda/SchemaModel$ComplexType", "derivesFrom", "(Lcom/example/labbrief/labbrief/cda/SchemaModel$ComplexType;)Z"⟩ : MethodName)) (z := (⟨"com/example/labbrief/labbrief/cda/SchemaModel$ComplexType", "derivesFrom", "(Lcom/example/labbrief/labbrief/cda/SchemaModel$ComplexType;)Z"⟩ : MethodName)) hown (mvT hZ (hw _ (List.mem_of_getElem? (i := 22) rfl))) (mvT hZ (hw _ (List.mem_of_getElem? (i := 23) rfl))) (notFace_of_selects (args := #[]) (mvT hZ (hw _ (List.mem_of_getElem? (i := 25) rfl)))) (mvT hZ (hw _ (List.mem_of_getElem? (i := 25) rfl))) (mvT hZ (hw _ (List.mem_of_getElem? (i := 24) rfl))) (by decide) (backOf (W := 0) (rm4 l Z a0 hw [] b57 (own_anc [(.ref b5), (.ref b18), (.ref b31), (.ref b44), (.ref b57)] (own_a p2)) (own_x4 (own_t b5 b18 b31 b44 b57) (own_b1 p0) (own_b2 p0) (own_b3 p0) (own_b4 p0)) h174 n0 z239 isA ch4) hZ (hw _ (List.mem_of_getElem? (i := 26) rfl)) (hw _ (List.mem_of_getElem? (i := 3) rfl)) (by decide) (by decide)) q241a q241c (g := (mkF m 346 #[.val (.int p0), .val (.int p1), .val (.int p2), .val (.int (own_b1 p0)), .val (.int (own_b2 p0)), .val (.int (own_b3 p0)), .val (.int (own_b4 p0)), .val (.ref b2), .val (.ref b129), .val (.int (own_k p1)), .val (.int (own_a p2)), .val (own_anc [(.ref b5), (.ref b18), (.ref b31), (.ref b44), (.ref b57)] (own_a p2)), .val (.int (own_e ([(1 : Int32), (own_m1 (own_b1 p0)), (own_m2 (own_b1 p0) (own_b2 p0)), (own_m3 (own_b1 p0) (own_b2 p0) (own_b3 p0)), (own_m4 (own_b1 p0) (own_b2 p0) (own_b3 p0) (own_b4 p0))].getD (own_k p1).toNatClampNeg 0) (own_a p2)))] [(own_anc [(.ref b5), (.ref b18), (.ref b31), (.ref b44), (.ref b57)] (own_a p2)), (.ref b57)])) rfl (by rw [hml]; rfl) (Steps.refl _) (argsL := [(own_anc [(.ref b5), (.ref b18), (.ref b31), (.ref b44), (.ref b57)] (own_a p2))]) (rest := []) (lenOf pd_2 rfl) rfl (by show 2 * 0 + _ ≤ _; exact Nat.le_of_eq rfl) (hb hby at_346) (fun _ _ => ⟨rfl, e174, (by decide : 7 + 0 ≤ _), (by decide : 50 + 0 ≤ _)⟩)
    dsimp only [Pt.U, Pt.locs, Pt.cells, Pt.slots] at X243 l243 y243 z243 st243 hQ243
    subst l243 y243 z243
    obtain ⟨rfl, N243q, he243⟩ := hQ243
    have N243 := Fr.app N174 N243q
    have pre244 : ∀ t, Steps p.tables e below (T243.setTop (mkF m 349 #[.val (.int p0), .val (.int p1), .val (.int p2), .val (.int (own_b1 p0)), .val (.int (own_b2 p0)), .val (.int (own_b3 p0)), .val (.int (own_b4 p0)), .val (.ref b2), .val (.ref b129), .val (.int (own_k p1)), .val (.int (own_a p2)), .val (own_anc [(.ref b5), (.ref b18), (.ref b31), (.ref b44), (.ref b57)] (own_a p2)), .val (.int (own_e ([(1 : Int32), (own_m1 (own_b1 p0)), (own_m2 (own_b1 p0) (own_b2 p0)), (own_m3 (own_b1 p0) (own_b2 p0) (own_b3 p0)), (own_m4 (own_b1 p0) (own_b2 p0) (own_b3 p0) (own_b4 p0))].getD (own_k p1).toNatClampNeg 0) (own_a p2)))] [(.int (own_mem (own_anc [(.ref b5), (.ref b18), (.ref b31), (.ref b44), (.ref b57)] (own_a p2)) (own_x4 (own_t b5 b18 b31 b44 b57) (own_b1 p0) (own_b2 p0) (own_b3 p0) (own_b4 p0))))])) t → Steps p.tables e below (s₁.setTop (entryFrame m #[(.int p0), (.int p1), (.int p2)] maxLocals)) t := fun t kt => pre240 _ (st243.trans kt)
    have pre245 : ∀ t, Steps p.tables e below (T243.setTop (mkF m 351 #[.val (.int p0), .val (.int p1), .val (.int p2), .val (.int (own_b1 p0)), .val (.int (own_b2 p0)), .val (.int (own_b3 p0)), .val (.int (own_b4 p0)), .val (.ref b2), .val (.ref b129), .val (.int (own_k p1)), .val (.int (own_a p2)), .val (own_anc [(.ref b5), (.ref b18), (.ref b31), (.ref b44), (.ref b57)] (own_a p2)), .val (.int (own_e ([(1 : Int32), (own_m1 (own_b1 p0)), (own_m2 (own_b1 p0) (own_b2 p0)), (own_m3 (own_b1 p0) (own_b2 p0) (own_b3 p0)), (own_m4 (own_b1 p0) (own_b2 p0) (own_b3 p0) (own_b4 p0))].getD (own_k p1).toNatClampNeg 0) (own_a p2)))] [(.int (own_e ([(1 : Int32), (own_m1 (own_b1 p0)), (own_m2 (own_b1 p0) (own_b2 p0)), (own_m3 (own_b1 p0) (own_b2 p0) (own_b3 p0)), (own_m4 (own_b1 p0) (own_b2 p0) (own_b3 p0) (own_b4 p0))].getD (own_k p1).toNatClampNeg 0) (own_a p2))), (.int (own_mem (own_anc [(.ref b5), (.ref b18), (.ref b31), (.ref b44), (.ref b57)] (own_a p2)) (own_x4 (own_t b5 b18 b31 b44 b57) (own_b1 p0) (own_b2 p0) (own_b3 p0) (own_b4 p0))))])) t → Steps p.tables e below (s₁.setTop (entryFrame m #[(.int p0), (.int p1), (.int p2)] maxLocals)) t := fun t kt => by
      refine pre244 _ ?_
      show Steps p.tables e below (T243.setTop (mkF m 349 #[.val (.int p0), .val (.int p1), .val (.int p2), .val (.int (own_b1 p0)), .val (.int (own_b2 p0)), .val (.int (own_b3 p0)), .val (.int (own_b4 p0)), .val (.ref b2), .val (.ref b129), .val (.int (own_k p1)), .val (.int (own_a p2)), .val (own_anc [(.ref b5), (.ref b18), (.ref b31), (.ref b44), (.ref b57)] (own_a p2)), .val (.int (own_e ([(1 : Int32), (own_m1 (own_b1 p0)), (own_m2 (own_b1 p0) (own_b2 p0)), (own_m3 (own_b1 p0) (own_b2 p0) (own_b3 p0)), (own_m4 (own_b1 p0) (own_b2 p0) (own_b3 p0) (own_b4 p0))].getD (own_k p1).toNatClampNeg 0) (own_a p2)))] [(.int (own_mem (own_anc [(.ref b5), (.ref b18), (.ref b31), (.ref b44), (.ref b57)] (own_a p2)) (own_x4 (own_t b5 b18 b31 b44 b57) (own_b1 p0) (own_b2 p0) (own_b3 p0) (own_b4 p0))))])) _
      refine XS.iload X243.here hx rfl (hb hby at_349) rfl ?_
      exact kt
    have em : ([(1 : Int32), (own_m1 (own_b1 p0)), (own_m2 (own_b1 p0) (own_b2 p0)), (own_m3 (own_b1 p0) (own_b2 p0) (own_b3 p0)), (own_m4 (own_b1 p0) (own_b2 p0) (own_b3 p0) (own_b4 p0))].getD (own_k p1).toNatClampNeg 0) = (own_m4 (own_b1 p0) (own_b2 p0) (own_b3 p0) (own_b4 p0)) := by rw [hk']; rfl
    have fin : (own_mem (own_anc [(.ref b5), (.ref b18), (.ref b31), (.ref b44), (.ref b57)] (own_a p2)) (own_x4 (own_t b5 b18 b31 b44 b57) (own_b1 p0) (own_b2 p0) (own_b3 p0) (own_b4 p0))) = (own_e ([(1 : Int32), (own_m1 (own_b1 p0)), (own_m2 (own_b1 p0) (own_b2 p0)), (own_m3 (own_b1 p0) (own_b2 p0) (own_b3 p0)), (own_m4 (own_b1 p0) (own_b2 p0) (own_b3 p0) (own_b4 p0))].getD (own_k p1).toNatClampNeg 0) (own_a p2)) := by
      rw [em, ha, hj1, hj2, hj3, hj4]
      rw [own_x4m]
      exact own_law inj _ _ ja (own_all4 j1 j2 j3 j4 ja)
    have pre246 : ∀ t, Steps p.tables e below (T243.setTop (mkF m 359 #[.val (.int p0), .val (.int p1), .val (.int p2), .val (.int (own_b1 p0)), .val (.int (own_b2 p0)), .val (.int (own_b3 p0)), .val (.int (own_b4 p0)), .val (.ref b2), .val (.ref b129), .val (.int (own_k p1)), .val (.int (own_a p2)), .val (own_anc [(.ref b5), (.ref b18), (.ref b31), (.ref b44), (.ref b57)] (own_a p2)), .val (.int (own_e ([(1 : Int32), (own_m1 (own_b1 p0)), (own_m2 (own_b1 p0) (own_b2 p0)), (own_m3 (own_b1 p0) (own_b2 p0) (own_b3 p0)), (own_m4 (own_b1 p0) (own_b2 p0) (own_b3 p0) (own_b4 p0))].getD (own_k p1).toNatClampNeg 0) (own_a p2)))] [(.int (1 : Int32))])) t → Steps p.tables e below (s₁.setTop (entryFrame m #[(.int p0), (.int p1), (.int p2)] maxLocals)) t := fun t kt => by
      refine pre245 _ ?_
      show Steps p.tables e below (T243.setTop (mkF m 351 #[.val (.int p0), .val (.int p1), .val (.int p2), .val (.int (own_b1 p0)), .val (.int (own_b2 p0)), .val (.int (own_b3 p0)), .val (.int (own_b4 p0)), .val (.ref b2), .val (.ref b129), .val (.int (own_k p1)), .val (.int (own_a p2)), .val (own_anc [(.ref b5), (.ref b18), (.ref b31), (.ref b44), (.ref b57)] (own_a p2)), .val (.int (own_e ([(1 : Int32), (own_m1 (own_b1 p0)), (own_m2 (own_b1 p0) (own_b2 p0)), (own_m3 (own_b1 p0) (own_b2 p0) (own_b3 p0)), (own_m4 (own_b1 p0) (own_b2 p0) (own_b3 p0) (own_b4 p0))].getD (own_k p1).toNatClampNeg 0) (own_a p2)))] [(.int (own_e ([(1 : Int32), (own_m1 (own_b1 p0)), (own_m2 (own_b1 p0) (own_b2 p0)), (own_m3 (own_b1 p0) (own_b2 p0) (own_b3 p0)), (own_m4 (own_b1 p0) (own_b2 p0) (own_b3 p0) (own_b4 p0))].getD (own_k p1).toNatClampNeg 0) (own_a p2))), (.int (own_mem (own_anc [(.ref b5), (.ref b18), (.ref b31), (.ref b44), (.ref b57)] (own_a p2)) (own_x4 (own_t b5 b18 b31 b44 b57) (own_b1 p0) (own_b2 p0) (own_b3 p0) (own_b4 p0))))])) _
      refine XS.icmpNo X243.here hx rfl (hb hby at_351) rfl (teq (fin : (own_mem (own_anc [(.ref b5), (.ref b18), (.ref b31), (.ref b44), (.ref b57)] (own_a p2)) (own_x4 (own_t b5 b18 b31 b44 b57) (own_b1 p0) (own_b2 p0) (own_b3 p0) (own_b4 p0))) = (own_e ([(1 : Int32), (own_m1 (own_b1 p0)), (own_m2 (own_b1 p0) (own_b2 p0)), (own_m3 (own_b1 p0) (own_b2 p0) (own_b3 p0)), (own_m4 (own_b1 p0) (own_b2 p0) (own_b3 p0) (own_b4 p0))].getD (own_k p1).toNatClampNeg 0) (own_a p2)))).2 ?_
      show Steps p.tables e below (T243.setTop (mkF m 354 #[.val (.int p0), .val (.int p1), .val (.int p2), .val (.int (own_b1 p0)), .val (.int (own_b2 p0)), .val (.int (own_b3 p0)), .val (.int (own_b4 p0)), .val (.ref b2), .val (.ref b129), .val (.int (own_k p1)), .val (.int (own_a p2)), .val (own_anc [(.ref b5), (.ref b18), (.ref b31), (.ref b44), (.ref b57)] (own_a p2)), .val (.int (own_e ([(1 : Int32), (own_m1 (own_b1 p0)), (own_m2 (own_b1 p0) (own_b2 p0)), (own_m3 (own_b1 p0) (own_b2 p0) (own_b3 p0)), (own_m4 (own_b1 p0) (own_b2 p0) (own_b3 p0) (own_b4 p0))].getD (own_k p1).toNatClampNeg 0) (own_a p2)))] [])) _
      refine XS.iconst X243.here hx rfl (hb hby at_354) ?_
      show Steps p.tables e below (T243.setTop (mkF m 355 #[.val (.int p0), .val (.int p1), .val (.int p2), .val (.int (own_b1 p0)), .val (.int (own_b2 p0)), .val (.int (own_b3 p0)), .val (.int (own_b4 p0)), .val (.ref b2), .val (.ref b129), .val (.int (own_k p1)), .val (.int (own_a p2)), .val (own_anc [(.ref b5), (.ref b18), (.ref b31), (.ref b44), (.ref b57)] (own_a p2)), .val (.int (own_e ([(1 : Int32), (own_m1 (own_b1 p0)), (own_m2 (own_b1 p0) (own_b2 p0)), (own_m3 (own_b1 p0) (own_b2 p0) (own_b3 p0)), (own_m4 (own_b1 p0) (own_b2 p0) (own_b3 p0) (own_b4 p0))].getD (own_k p1).toNatClampNeg 0) (own_a p2)))] [(.int (1 : Int32))])) _
      refine XS.goto X243.here hx rfl (pc0 := 355) (pc' := 359) rfl (hb hby at_355) (by decide) (by decide) ?_
      exact kt
    obtain ⟨fs, hr, hrun, hended, hW, hsame⟩ := X243.leave (v := (some (.int (1 : Int32)))) (fun h => by rw [Bd.returns] at h; cases h)
    refine ⟨_, _, pre246 _ ?_, hrun, hended, _, _, rfl, ?_, ⟨_, rfl⟩, hW, hsame.mono (by decide) (by decide)⟩
    · show Steps p.tables e below (T243.setTop (mkF m 359 #[.val (.int p0), .val (.int p1), .val (.int p2), .val (.int (own_b1 p0)), .val (.int (own_b2 p0)), .val (.int (own_b3 p0)), .val (.int (own_b4 p0)), .val (.ref b2), .val (.ref b129), .val (.int (own_k p1)), .val (.int (own_a p2)), .val (own_anc [(.ref b5), (.ref b18), (.ref b31), (.ref b44), (.ref b57)] (own_a p2)), .val (.int (own_e ([(1 : Int32), (own_m1 (own_b1 p0)), (own_m2 (own_b1 p0) (own_b2 p0)), (own_m3 (own_b1 p0) (own_b2 p0) (own_b3 p0)), (own_m4 (own_b1 p0) (own_b2 p0) (own_b3 p0) (own_b4 p0))].getD (own_k p1).toNatClampNeg 0) (own_a p2)))] [(.int (1 : Int32))])) _
      exact retN X243 hx (t := .boolean) Bd.returns (by simp) (hb hby at_359) hr
    · show Q0 Z p0 p1 p2 aM h0 n0 _ T243.heap _
      rw [he243]
      exact ⟨rfl, N243⟩
set_option maxRecDepth 65536 in
set_option maxHeartbeats 40000000 in
theorem comes_1 {Post : Tables → Env → Array Value → State → Outcome → State → Prop} (hpost : ∀ tb e args s v u, (limb_1_1.after args s (.returned v) u = true ∧ limb_1_2.after args s (.returned v) u = true ∧ True) → FrameEnd s (.returned v) u (Jvm.fieldLocs frame_1_writes args s ++ Jvm.arrayLocs frame_1_arrays args s ++ Jvm.staticLocs frame_1_statics s) 24 192 → Post tb e args s (.returned v) u) :
    ArmFor flags0 classFile x code maxLocals ret World_1 tables_1 room_1 Calls_1 rest_1 Pre_1 Post := by
  intro l hfl _ _ p e ha hc hk s m args below hf hA hF happ hP
  obtain ⟨hcalls, hrest, hpre⟩ := hP
  obtain ⟨-, -, -, hnamed, -, -, -, hat⟩ := (Spec.applies_iff hf).mp happ
  obtain ⟨hg, hn⟩ := and_e (Cond.before_iff.mp (show (Jvm.Cond.and given_1 narrow_1).before args s = true from hpre))
  obtain ⟨gc, g0⟩ := and_e hg
  obtain ⟨gg0, g1⟩ := and_e g0
  obtain ⟨gg1, g2⟩ := and_e g1
  obtain ⟨w0, w1, w2, rfl⟩ : ∃ w0 w1 w2 : Value, args = #[w0, w1, w2] := by
    have hs : args.size = 3 := by simpa [Cond.value, given_1] using gc
    obtain ⟨L⟩ := args
    match L, hs with
    | [w0, w1, w2], _ => exact ⟨w0, w1, w2, rfl⟩
  have hw := fun d (hd : d ∈ tables_1) => atoms_spec (ws := Jvm.Cond.code x code maxLocals ret :: tables_1) hat d (List.mem_cons_of_mem _ hd)
  have hfit : Fit s := fun {y c} hc i hi => by
    obtain ⟨ha, rfl⟩ := Array.getElem?_eq_some_iff.mp hc
    have q := List.all_eq_true.mp ((Array.all_eq_true_iff_forall_mem.mp hF) _ (Array.getElem_mem ha)) i (List.mem_range.mpr hi)
    simpa [Array.getElem?_eq_getElem hi] using q
  obtain ⟨i0, ei0⟩ := is_v gg0
  obtain rfl : w0 = (.int i0) := Option.some.inj ei0
  obtain ⟨i1, ei1⟩ := is_v gg1
  obtain rfl : w1 = (.int i1) := Option.some.inj ei1
  obtain ⟨i2, ei2⟩ := is_v g2
  obtain rfl : w2 = (.int i2) := Option.some.inj ei2
  obtain ⟨hsets, hown0⟩ := atoms_of _ (rest_1_c_eq ▸ (show rest_1_c.before _ s = true from hrest))
  obtain ⟨aM, cM, cellM, kM, em1, -⟩ := Cond.exactly_spec (hsets _ (List.mem_of_getElem? (i := 2) rfl))
  have SM : Sta s s.heap "java/util/ImmutableCollections" "EMPTY_MAP" "Ljava/util/ImmutableCollections$MapN;" (.ref aM) := Sta.start em1 (Or.inl (hsets _ (List.mem_of_getElem? (i := 1) rfl)))
  obtain ⟨n, o, h1, h2, h3, _, L, rfl, ⟨rfl, N⟩, hq⟩ := rm0 l s _ hw tables_1 i0 i1 i2 aM s.heap s.heap.size (Old.start s) SM p e ha hc hk s m _ below hf ((Spec.applies_iff_loose hf).mp happ).1 ⟨rfl, State.Warmed39.refl s, rfl⟩ trivial
  refine ⟨n, _, h1, h2, h3, hpost _ _ _ _ _ _ ⟨Cond.after_iff.mpr rfl, Cond.after_iff.mpr (eq_i res_at (Term.int_eval (1)) rfl), trivial⟩ ⟨hq.1, hq.2.1, (hq.2.2.sift fun y hy => Or.inr (N y hy)).mono (by decide) (by decide)⟩⟩
theorem main_1_1 : Claimed_1_1 := comes_1 fun _ _ _ _ _ _ h hF => ⟨h.1, hF⟩
theorem main_1_2 : Claimed_1_2 := comes_1 fun _ _ _ _ _ _ h hF => ⟨h.2.1, hF⟩
end Jvm.Pilot.@@N@@
namespace Jvm.Pilot.@@N@@
open Jvm Jvm.ClassFile Sem Op Lib Jvm.Free Jvm.Stand Jvm.Pilot.@@N@@.Jvm.D
/-! MADE BY PROGRAM (witnessworld.py) out of the Statement's table words and the real class files: 16 classes; the members and pool entries that the words name. The judged class is class 1, her method 1. -/
namespace start1
open Jvm.ClassFile
def u (s : String) : CpInfo := .utf8 (stringToUtf16 s)
/-- a pool by its gaps: so many unusable entries, then the entry; so many at the end -/
def gap : Nat → List CpInfo → List CpInfo
  | 0, r => r
  | n + 1, r => .unusable :: gap n r
def poolList (es : List (Nat × CpInfo)) (last : Nat) : List CpInfo := es.foldr (fun e r => gap e.1 (e.2 :: r)) (gap last [])
def pool (es : List (Nat × CpInfo)) (last : Nat) : Array CpInfo := ⟨poolList es last⟩
def fileOf (pool : Array CpInfo) (this : Nat) (attrs : Array Attribute := #[]) (ms : Array MethodInfo := #[]) (fl : Nat := 33) (sup : Nat := 0) (ifs : Array Nat := #[]) (fds : Array FieldInfo := #[]) : ClassFile where
  minorVersion := 0
  majorVersion := 65
  constantPool := pool
  accessFlags := fl
  thisClass := this
  superClass := sup
  interfaces := ifs
  fields := fds
  methods := ms
  attributes := attrs
def plain (name : String) (sup : Option ClassId) : Class where
  name := name
  kind := .ordinary
  loader := none
  accessFlags := 33
  super := sup
  interfaces := #[]
  cf := none
  fields := #[]
  methods := #[]
  instanceTypes := #[]
  staticTypes := #[]
  resolved := #[]
  callSites := []
  init := .initialized
  statics := none
  mirror := none

def pool0 : Array CpInfo := pool [(5, u "<init>"), (0, u "()V"), (1, .class_ 10), (1, u "java/lang/Object")] 113

def k0c0 : Code := { maxStack := 0, maxLocals := 1, code := object_method_1_code, exceptionTable := #[], attributes := #[] }
def k0m0 : Method := { name := "<init>", desc := "()V", sig := { parameters := [], returnType := none }, accessFlags := 1, code := some k0c0 }
/-- java/lang/Object -/
def k0 : Class := { plain "java/lang/Object" none with
  accessFlags := 33
  interfaces := #[]
  cf := some (fileOf pool0 8 #[] #[{ accessFlags := 1, nameIndex := 5, descriptorIndex := 6, attributes := #[] }] 33 0 #[] #[])
  fields := #[]
  methods := #[k0m0]
  instanceTypes := #[]
  staticTypes := #[]
  resolved := Array.replicate 124 none
  statics := none }

def pool1 : Array CpInfo := pool [(2, .class_ 4), (0, .nameAndType 5 6), (0, u "java/lang/Object"), (0, u "<init>"), (0, u "()V"), (0, .class_ 8), (0, u "com/example/labbrief/labbrief/cda/SchemaModel$ComplexType"), (0, .methodref 7 3), (0, .fieldref 7 11), (0, .nameAndType 12 13), (0, u "base"), (0, u "Lcom/example/labbrief/labbrief/cda/SchemaModel$ComplexType;"), (0, .methodref 7 15), (0, .nameAndType 16 17), (0, u "derivesFrom"), (0, u "(Lcom/example/labbrief/labbrief/cda/SchemaModel$ComplexType;)Z"), (0, .class_ 19), (0, u "com/example/labbrief/labbrief/cda/ComplexTypeDerivesFromPinLaw"), (2, u "law"), (0, u "(III)Z")] 11

def k1m0 : Method := { name := "<init>", desc := "()V", sig := { parameters := [], returnType := none }, accessFlags := 1, code := none }
def k1c1 : Code := { maxStack := 5, maxLocals := 13, code := code, exceptionTable := #[], attributes := #[] }
def k1m1 : Method := { name := "law", desc := "(III)Z", sig := { parameters := [.int, .int, .int], returnType := some .boolean }, accessFlags := 9, code := some k1c1 }
/-- com/example/labbrief/labbrief/cda/ComplexTypeDerivesFromPinLaw -/
def k1 : Class := { plain "com/example/labbrief/labbrief/cda/ComplexTypeDerivesFromPinLaw" (some 0) with
  accessFlags := 49
  interfaces := #[]
  cf := some (fileOf pool1 18 #[] #[{ accessFlags := 1, nameIndex := 5, descriptorIndex := 6, attributes := #[] }, { accessFlags := 9, nameIndex := 22, descriptorIndex := 23, attributes := #[] }] 49 2 #[] #[])
  fields := #[]
  methods := #[k1m0, k1m1]
  instanceTypes := #[]
  staticTypes := #[]
  resolved := Array.replicate 35 none
  statics := none }

def pool2 : Array CpInfo := pool [(1, .methodref 2 3), (0, .class_ 4), (0, .nameAndType 5 6), (0, u "java/lang/Object"), (0, u "<init>"), (0, u "()V"), (0, .interfaceMethodref 8 9), (0, .class_ 10), (0, .nameAndType 11 12), (0, u "java/util/Map"), (0, u "of"), (0, u "()Ljava/util/Map;"), (0, .fieldref 14 15), (0, .class_ 16), (0, .nameAndType 17 18), (0, u "com/example/labbrief/labbrief/cda/SchemaModel$ComplexType"), (0, u "attributes"), (0, u "Ljava/util/Map;"), (0, .fieldref 14 20), (0, .nameAndType 21 22), (0, u "base"), (0, u "Lcom/example/labbrief/labbrief/cda/SchemaModel$ComplexType;"), (0, u "isAbstract"), (0, u "Z"), (0, u "content"), (0, u "Lcom/example/labbrief/labbrief/cda/SchemaModel$Content;"), (0, u "model"), (0, u "Lcom/example/labbrief/labbrief/cda/ContentModel;"), (0, u "text"), (0, u "Lcom/example/labbrief/labbrief/cda/ValueType;"), (2, u "required"), (0, u "I"), (0, u "term"), (0, u "Lcom/example/labbrief/labbrief/cda/ContentModel$Term;"), (2, u "derivesFrom"), (0, u "(Lcom/example/labbrief/labbrief/cda/SchemaModel$ComplexType;)Z"), (4, .class_ 46), (0, u "com/example/labbrief/labbrief/cda/SchemaModel")] 13

def k2c0 : Code := { maxStack := 2, maxLocals := 1, code := prog_141_method_1_code, exceptionTable := #[], attributes := #[] }
def k2m0 : Method := { name := "<init>", desc := "()V", sig := { parameters := [], returnType := none }, accessFlags := 0, code := some k2c0 }
def k2c1 : Code := { maxStack := 2, maxLocals := 3, code := prog_141_method_2_code, exceptionTable := #[], attributes := #[] }
def k2m1 : Method := { name := "derivesFrom", desc := "(Lcom/example/labbrief/labbrief/cda/SchemaModel$ComplexType;)Z", sig := { parameters := [(.object "com/example/labbrief/labbrief/cda/SchemaModel$ComplexType")], returnType := some .boolean }, accessFlags := 0, code := some k2c1 }
/-- com/example/labbrief/labbrief/cda/SchemaModel$ComplexType -/
def k2 : Class := { plain "com/example/labbrief/labbrief/cda/SchemaModel$ComplexType" (some 0) with
  accessFlags := 48
  interfaces := #[]
  cf := some (fileOf pool2 14 #[.nestHost 45] #[{ accessFlags := 0, nameIndex := 5, descriptorIndex := 6, attributes := #[] }, { accessFlags := 0, nameIndex := 39, descriptorIndex := 40, attributes := #[] }] 48 2 #[] #[{ accessFlags := 0, nameIndex := 21, descriptorIndex := 22, attributes := #[] }, { accessFlags := 0, nameIndex := 23, descriptorIndex := 24, attributes := #[] }, { accessFlags := 0, nameIndex := 25, descriptorIndex := 26, attributes := #[] }, { accessFlags := 0, nameIndex := 27, descriptorIndex := 28, attributes := #[] }, { accessFlags := 0, nameIndex := 29, descriptorIndex := 30, attributes := #[] }, { accessFlags := 0, nameIndex := 17, descriptorIndex := 18, attributes := #[] }, { accessFlags := 0, nameIndex := 33, descriptorIndex := 34, attributes := #[] }, { accessFlags := 2, nameIndex := 35, descriptorIndex := 36, attributes := #[] }])
  fields := #[{ name := "base", type := (.object "com/example/labbrief/labbrief/cda/SchemaModel$ComplexType"), accessFlags := 0, slot := 0, constantValue := 0 }, { name := "isAbstract", type := .boolean, accessFlags := 0, slot := 1, constantValue := 0 }, { name := "content", type := (.object "com/example/labbrief/labbrief/cda/SchemaModel$Content"), accessFlags := 0, slot := 2, constantValue := 0 }, { name := "model", type := (.object "com/example/labbrief/labbrief/cda/ContentModel"), accessFlags := 0, slot := 3, constantValue := 0 }, { name := "text", type := (.object "com/example/labbrief/labbrief/cda/ValueType"), accessFlags := 0, slot := 4, constantValue := 0 }, { name := "attributes", type := (.object "java/util/Map"), accessFlags := 0, slot := 5, constantValue := 0 }, { name := "required", type := .int, accessFlags := 0, slot := 6, constantValue := 0 }, { name := "term", type := (.object "com/example/labbrief/labbrief/cda/ContentModel$Term"), accessFlags := 2, slot := 7, constantValue := 0 }]
  methods := #[k2m0, k2m1]
  instanceTypes := #[(.object "com/example/labbrief/labbrief/cda/SchemaModel$ComplexType"), .boolean, (.object "com/example/labbrief/labbrief/cda/SchemaModel$Content"), (.object "com/example/labbrief/labbrief/cda/ContentModel"), (.object "com/example/labbrief/labbrief/cda/ValueType"), (.object "java/util/Map"), .int, (.object "com/example/labbrief/labbrief/cda/ContentModel$Term")]
  staticTypes := #[]
  resolved := Array.replicate 60 none
  statics := none }

def pool3 : Array CpInfo := pool [(2, .class_ 4), (1, u "java/util/Map"), (31, .class_ 37), (0, u "java/util/Map$Entry"), (43, .fieldref 82 83), (0, .class_ 84), (0, .nameAndType 85 86), (0, u "java/util/ImmutableCollections"), (0, u "EMPTY_MAP"), (0, u "Ljava/util/ImmutableCollections$MapN;"), (6, .class_ 94), (0, u "java/lang/Object"), (13, u "of"), (0, u "()Ljava/util/Map;")] 153

def k3c0 : Code := { maxStack := 1, maxLocals := 0, code := jdk_72_method_26_code, exceptionTable := #[], attributes := #[] }
def k3m0 : Method := { name := "of", desc := "()Ljava/util/Map;", sig := { parameters := [], returnType := some (.object "java/util/Map") }, accessFlags := 9, code := some k3c0 }
/-- java/util/Map -/
def k3 : Class := { plain "java/util/Map" (some 0) with
  accessFlags := 1537
  interfaces := #[]
  cf := some (fileOf pool3 2 #[.nestMembers #[36]] #[{ accessFlags := 9, nameIndex := 108, descriptorIndex := 109, attributes := #[] }] 1537 93 #[] #[])
  fields := #[]
  methods := #[k3m0]
  instanceTypes := #[]
  staticTypes := #[]
  resolved := Array.replicate 263 none
  statics := none }

def pool4 : Array CpInfo := pool [(2, .class_ 4), (1, u "java/lang/Object"), (0, u "<init>"), (0, u "()V"), (3, .class_ 11), (0, u "java/util/ImmutableCollections$List12"), (0, .class_ 13), (0, u "java/util/ImmutableCollections$ListN"), (3, u "Z"), (29, .class_ 49), (1, u "java/util/ImmutableCollections"), (0, u "$assertionsDisabled"), (5, u "[Ljava/lang/Object;"), (5, u "EMPTY_LIST"), (0, u "Ljava/util/ImmutableCollections$ListN;"), (8, u "EMPTY_LIST_NULLS"), (22, u "SALT32L"), (0, u "J"), (2, u "REVERSE"), (6, u "archivedObjects"), (2, u "EMPTY"), (0, u "Ljava/lang/Object;"), (0, .class_ 112), (0, u "java/util/ImmutableCollections$SetN"), (5, u "EMPTY_SET"), (0, u "Ljava/util/ImmutableCollections$SetN;"), (0, .class_ 121), (0, u "java/util/ImmutableCollections$MapN"), (3, u "EMPTY_MAP"), (0, u "Ljava/util/ImmutableCollections$MapN;"), (4, u "EXPAND_FACTOR"), (0, u "I"), (36, .class_ 170), (0, u "java/util/ImmutableCollections$MapN$MapNIterator"), (0, .class_ 172), (0, u "java/util/ImmutableCollections$MapN$1"), (0, .class_ 174), (0, u "java/util/ImmutableCollections$Map1"), (0, .class_ 176), (0, u "java/util/ImmutableCollections$AbstractImmutableMap"), (0, .class_ 178), (0, u "java/util/ImmutableCollections$SetN$SetNIterator"), (0, .class_ 180), (0, u "java/util/ImmutableCollections$Set12"), (0, .class_ 182), (0, u "java/util/ImmutableCollections$Set12$1"), (0, .class_ 184), (0, u "java/util/ImmutableCollections$AbstractImmutableSet"), (0, .class_ 186), (0, u "java/util/ImmutableCollections$SubList"), (0, .class_ 188), (0, u "java/util/ImmutableCollections$ListItr"), (0, .class_ 190), (0, u "java/util/ImmutableCollections$AbstractImmutableList"), (0, .class_ 192), (0, u "java/util/ImmutableCollections$AbstractImmutableCollection"), (0, .class_ 194), (0, u "java/util/ImmutableCollections$Access"), (0, .class_ 196), (0, u "java/util/ImmutableCollections$Access$1")] 16

def k4m0 : Method := { name := "<init>", desc := "()V", sig := { parameters := [], returnType := none }, accessFlags := 2, code := none }
/-- java/util/ImmutableCollections -/
def k4 : Class := { plain "java/util/ImmutableCollections" (some 0) with
  accessFlags := 32
  interfaces := #[]
  cf := some (fileOf pool4 47 #[.nestMembers #[120, 169, 171, 173, 175, 111, 177, 179, 181, 183, 12, 10, 185, 187, 189, 191, 193, 195]] #[{ accessFlags := 2, nameIndex := 5, descriptorIndex := 6, attributes := #[] }] 32 2 #[] #[{ accessFlags := 26, nameIndex := 95, descriptorIndex := 96, attributes := #[] }, { accessFlags := 26, nameIndex := 99, descriptorIndex := 17, attributes := #[] }, { accessFlags := 10, nameIndex := 106, descriptorIndex := 56, attributes := #[] }, { accessFlags := 26, nameIndex := 109, descriptorIndex := 110, attributes := #[] }, { accessFlags := 24, nameIndex := 62, descriptorIndex := 63, attributes := #[] }, { accessFlags := 24, nameIndex := 72, descriptorIndex := 63, attributes := #[] }, { accessFlags := 24, nameIndex := 118, descriptorIndex := 119, attributes := #[] }, { accessFlags := 24, nameIndex := 125, descriptorIndex := 126, attributes := #[] }, { accessFlags := 24, nameIndex := 131, descriptorIndex := 132, attributes := #[] }, { accessFlags := 4120, nameIndex := 50, descriptorIndex := 17, attributes := #[] }])
  fields := #[{ name := "SALT32L", type := .long, accessFlags := 26, slot := 0, constantValue := 0 }, { name := "REVERSE", type := .boolean, accessFlags := 26, slot := 1, constantValue := 0 }, { name := "archivedObjects", type := (.array (.object "java/lang/Object")), accessFlags := 10, slot := 2, constantValue := 0 }, { name := "EMPTY", type := (.object "java/lang/Object"), accessFlags := 26, slot := 3, constantValue := 0 }, { name := "EMPTY_LIST", type := (.object "java/util/ImmutableCollections$ListN"), accessFlags := 24, slot := 4, constantValue := 0 }, { name := "EMPTY_LIST_NULLS", type := (.object "java/util/ImmutableCollections$ListN"), accessFlags := 24, slot := 5, constantValue := 0 }, { name := "EMPTY_SET", type := (.object "java/util/ImmutableCollections$SetN"), accessFlags := 24, slot := 6, constantValue := 0 }, { name := "EMPTY_MAP", type := (.object "java/util/ImmutableCollections$MapN"), accessFlags := 24, slot := 7, constantValue := 0 }, { name := "EXPAND_FACTOR", type := .int, accessFlags := 24, slot := 8, constantValue := 0 }, { name := "$assertionsDisabled", type := .boolean, accessFlags := 4120, slot := 9, constantValue := 0 }]
  methods := #[k4m0]
  instanceTypes := #[]
  staticTypes := #[.long, .boolean, (.array (.object "java/lang/Object")), (.object "java/lang/Object"), (.object "java/util/ImmutableCollections$ListN"), (.object "java/util/ImmutableCollections$ListN"), (.object "java/util/ImmutableCollections$SetN"), (.object "java/util/ImmutableCollections$MapN"), .int, .boolean]
  resolved := Array.replicate 213 none
  statics := some 0 }

def pool5 : Array CpInfo := pool [(2, .class_ 4), (1, u "java/lang/Object"), (0, u "<init>"), (0, u "()V"), (1, .class_ 10), (1, u "java/util/AbstractMap"), (42, .class_ 54), (0, u "java/util/Map"), (9, u "keySet"), (0, u "Ljava/util/Set;"), (0, .class_ 67), (0, u "java/util/AbstractMap$1"), (5, u "values"), (0, u "Ljava/util/Collection;"), (0, .class_ 76), (0, u "java/util/AbstractMap$2"), (104, .class_ 182), (0, u "java/util/AbstractMap$ViewCollection"), (0, .class_ 184), (0, u "java/util/AbstractMap$SimpleImmutableEntry"), (0, .class_ 186), (0, u "java/util/AbstractMap$SimpleEntry"), (0, .class_ 188), (0, u "java/util/AbstractMap$2$1"), (0, .class_ 190), (0, u "java/util/AbstractMap$1$1")] 5

def k5m0 : Method := { name := "<init>", desc := "()V", sig := { parameters := [], returnType := none }, accessFlags := 4, code := none }
/-- java/util/AbstractMap -/
def k5 : Class := { plain "java/util/AbstractMap" (some 0) with
  accessFlags := 1057
  interfaces := #[3]
  cf := some (fileOf pool5 8 #[.nestMembers #[181, 183, 185, 75, 187, 66, 189]] #[{ accessFlags := 4, nameIndex := 5, descriptorIndex := 6, attributes := #[] }] 1057 2 #[53] #[{ accessFlags := 128, nameIndex := 64, descriptorIndex := 65, attributes := #[] }, { accessFlags := 128, nameIndex := 73, descriptorIndex := 74, attributes := #[] }])
  fields := #[{ name := "keySet", type := (.object "java/util/Set"), accessFlags := 128, slot := 0, constantValue := 0 }, { name := "values", type := (.object "java/util/Collection"), accessFlags := 128, slot := 1, constantValue := 0 }]
  methods := #[k5m0]
  instanceTypes := #[(.object "java/util/Set"), (.object "java/util/Collection")]
  staticTypes := #[]
  resolved := Array.replicate 196 none
  statics := none }

def pool6 : Array CpInfo := pool [(1, .class_ 2), (0, u "java/io/Serializable"), (0, .class_ 4), (0, u "java/lang/Object")] 2

/-- java/io/Serializable -/
def k6 : Class := { plain "java/io/Serializable" (some 0) with
  accessFlags := 1537
  interfaces := #[]
  cf := some (fileOf pool6 1 #[] #[] 1537 3 #[] #[])
  fields := #[]
  methods := #[]
  instanceTypes := #[]
  staticTypes := #[]
  resolved := Array.replicate 7 none
  statics := none }

def pool7 : Array CpInfo := pool [(2, .class_ 4), (1, u "java/util/AbstractMap"), (0, u "<init>"), (0, u "()V"), (1, .class_ 10), (1, u "java/util/ImmutableCollections"), (3, .class_ 16), (1, u "java/util/ImmutableCollections$AbstractImmutableMap"), (2, .class_ 20), (0, u "java/io/Serializable")] 66

def k7m0 : Method := { name := "<init>", desc := "()V", sig := { parameters := [], returnType := none }, accessFlags := 0, code := none }
/-- java/util/ImmutableCollections$AbstractImmutableMap -/
def k7 : Class := { plain "java/util/ImmutableCollections$AbstractImmutableMap" (some 5) with
  accessFlags := 1056
  interfaces := #[6]
  cf := some (fileOf pool7 14 #[.nestHost 8] #[{ accessFlags := 0, nameIndex := 5, descriptorIndex := 6, attributes := #[] }] 1056 2 #[19] #[])
  fields := #[]
  methods := #[k7m0]
  instanceTypes := #[(.object "java/util/Set"), (.object "java/util/Collection")]
  staticTypes := #[]
  resolved := Array.replicate 87 none
  statics := none }

def pool8 : Array CpInfo := pool [(1, .class_ 2), (0, u "java/util/ImmutableCollections"), (1, .class_ 6), (1, u "java/util/ImmutableCollections$AbstractImmutableMap"), (10, .class_ 19), (1, u "java/util/ImmutableCollections$MapN"), (0, u "size"), (0, u "I"), (4, u "table"), (0, u "[Ljava/lang/Object;")] 121

/-- java/util/ImmutableCollections$MapN -/
def k8 : Class := { plain "java/util/ImmutableCollections$MapN" (some 7) with
  accessFlags := 48
  interfaces := #[]
  cf := some (fileOf pool8 17 #[.nestHost 1] #[] 48 4 #[] #[{ accessFlags := 16, nameIndex := 26, descriptorIndex := 27, attributes := #[] }, { accessFlags := 16, nameIndex := 20, descriptorIndex := 21, attributes := #[] }])
  fields := #[{ name := "table", type := (.array (.object "java/lang/Object")), accessFlags := 16, slot := 2, constantValue := 0 }, { name := "size", type := .int, accessFlags := 16, slot := 3, constantValue := 0 }]
  methods := #[]
  instanceTypes := #[(.object "java/util/Set"), (.object "java/util/Collection"), (.array (.object "java/lang/Object")), .int]
  staticTypes := #[]
  resolved := Array.replicate 149 none
  statics := none }

def pool9 : Array CpInfo := pool [(1, u "java/lang/Cloneable"), (0, .class_ 1), (0, u "java/lang/Object"), (0, .class_ 3)] 3

/-- java/lang/Cloneable -/
def k9 : Class := { plain "java/lang/Cloneable" (some 0) with
  accessFlags := 1537
  interfaces := #[]
  cf := some (fileOf pool9 2 #[] #[] 1537 4 #[] #[])
  fields := #[]
  methods := #[]
  instanceTypes := #[]
  staticTypes := #[]
  resolved := Array.replicate 8 none
  statics := none }

/-- the primitive byte -/
def k10 : Class := { plain "byte" none with kind := .primitive 'B', accessFlags := 0x411 }
/-- [B -/
def k11 : Class := { plain "[B" (some 0) with kind := .array 10 .byte, interfaces := #[9, 6], accessFlags := 1041 }

/-- the primitive int -/
def k12 : Class := { plain "int" none with kind := .primitive 'I', accessFlags := 0x411 }
/-- [I -/
def k13 : Class := { plain "[I" (some 0) with kind := .array 12 .int, interfaces := #[9, 6], accessFlags := 1041 }

/-- [Lcom/example/labbrief/labbrief/cda/SchemaModel$ComplexType; -/
def k14 : Class := { plain "[Lcom/example/labbrief/labbrief/cda/SchemaModel$ComplexType;" (some 0) with kind := .array 2 (.object "com/example/labbrief/labbrief/cda/SchemaModel$ComplexType"), interfaces := #[9, 6], accessFlags := 1041 }

/-- [Ljava/lang/Object; -/
def k15 : Class := { plain "[Ljava/lang/Object;" (some 0) with kind := .array 0 (.object "java/lang/Object"), interfaces := #[9, 6], accessFlags := 1041 }

def heap : Heap := #[{ cls := 4, slots := #[.long 0, .int 0, .null, .null, .null, .null, .null, .ref 2, .int 0, .int 0], vm := .statics 4 },
  { cls := 15, slots := #[], vm := .none },
  { cls := 8, slots := #[.null, .null, .ref 1, .int 0], vm := .none }]
def classes : Array Class := #[k0, k1, k2, k3, k4, k5, k6, k7, k8, k9, k10, k11, k12, k13, k14, k15]
def interned : List (Array UInt16 × Addr) := []
def slotsUsed : Nat := 14
def theMethod : MethodId := ⟨1, 1⟩
def args0 : Array Value := #[.int 5, .int 5, .int 5]
def aboutOver (below : List Frame) : State where
  vm := { classes := classes, interned := interned.toArray }
  heap := heap
  slotsUsed := slotsUsed
  threads := #[{ frames := .invoking theMethod args0 :: below }]
def below0 : List Frame := [.native { method := ⟨0, 0⟩, args := #[] }]
def about1 : State := aboutOver below0
def p0 : Program := .bare "" "" ""
def e0 : Env := launch0.env 0 0 0
theorem w_frames : about1.frames = Frame.invoking theMethod args0 :: below0 := rfl
set_option maxRecDepth 65536 in
theorem w_args : argsFit about1.vm theMethod args0 = true := by decide +kernel
set_option maxRecDepth 65536 in
theorem w_heap : heapFits about1 = true := by decide +kernel
set_option maxRecDepth 65536 in
theorem w_runnable : about1.curStatus? = some .runnable := by decide +kernel
set_option maxRecDepth 65536 in
theorem w_alone : about1.alone = true := by decide +kernel
set_option maxRecDepth 65536 in
theorem w_named : about1.methodNamed? x = some theMethod := by decide +kernel
set_option maxRecDepth 65536 in
theorem w_hears : about1.hears theMethod below0 = true := by decide +kernel
set_option maxRecDepth 65536 in
theorem w_ripe : about1.ripe theMethod args0 below0 = true := by decide +kernel
theorem w_running : about1.status = .running := rfl
set_option maxRecDepth 65536 in
theorem w_room : about1.hasRoom e0.platform room_1 = true :=
  launch0.hasRoom_least _ room_1 (by decide +kernel) (by decide +kernel) (by decide +kernel) (by decide +kernel) (by decide +kernel) (by decide +kernel)
theorem allAtoms_all (ts : List Jvm.Cond) (a : Array Jvm.Value) (st : Jvm.State) : (allAtoms ts).before a st = ts.all (fun c => c.before a st) := by
  induction ts with
  | nil => rfl
  | cons c t ih =>
    show (Jvm.Cond.and c (allAtoms t)).before a st = _
    rw [Jvm.Cond.before_and, ih, List.all_cons]
def words1 : List Jvm.Cond := Jvm.Cond.code x code maxLocals ret :: tables_1
/-- a 'code' word, met by the world's own term for the bytes: nothing is compared byte by byte -/
theorem code_word {y : MethodName} {bytes : ByteArray} {mx : Nat} {rt : Option FieldType} {a : Array Value} {s : State} {m : MethodId} {meth : Method} {c : Code} (h1 : s.methodNamed? y = some m) (h2 : s.vm.method? m = some meth) (h3 : meth.code = some c) (h4 : c.code = bytes)
    (h5 : (c.maxLocals == mx && c.exceptionTable.isEmpty && decide (c.maxStack ≤ mostOperands) && decide (meth.sig.returnType = rt) && !meth.locks && decide (parseMethodDescriptor y.desc = some meth.sig)) = true) : (Jvm.Cond.code y bytes mx rt).before a s = true := by
  simp only [Bool.and_eq_true, beq_iff_eq, Bool.not_eq_true', decide_eq_true_eq] at h5
  obtain ⟨⟨⟨⟨⟨g1, g2⟩, g3⟩, g4⟩, g5⟩, g6⟩ := h5
  simp [Cond.before, Cond.holds, Cond.value, h1, h2, h3, h4, g1, g2, g3, g4, g5, g6]
def isCode : Jvm.Cond → Bool
  | .code _ _ _ _ => true
  | _ => false
theorem all_split {L : List Jvm.Cond} {P : Jvm.Cond → Bool} (h1 : L.all (fun c => isCode c || P c) = true) (h2 : ∀ c ∈ L.filter isCode, P c = true) : L.all P = true := by
  refine List.all_eq_true.mpr fun c hc => ?_
  have h := List.all_eq_true.mp h1 c hc
  rcases Bool.eq_false_or_eq_true (isCode c) with hi | hi
  · exact h2 c (List.mem_filter.mpr ⟨hc, hi⟩)
  · simpa [hi] using h
set_option maxRecDepth 65536 in
theorem w_c0 : (Jvm.Cond.code x code maxLocals ret).before args0 about1 = true := code_word (m := ⟨1, 1⟩) (meth := k1m1) (c := k1c1) (by decide +kernel) rfl rfl rfl (by decide +kernel)
set_option maxRecDepth 65536 in
theorem w_c1 : (Jvm.Cond.code ({ cls := "com/example/labbrief/labbrief/cda/SchemaModel$ComplexType", name := "<init>", desc := "()V" } : Jvm.MethodName) prog_141_method_1_code (1 : Nat) (Option.none : Option Jvm.ClassFile.FieldType)).before args0 about1 = true := code_word (m := ⟨2, 0⟩) (meth := k2m0) (c := k2c0) (by decide +kernel) rfl rfl rfl (by decide +kernel)
set_option maxRecDepth 65536 in
theorem w_c2 : (Jvm.Cond.code ({ cls := "java/lang/Object", name := "<init>", desc := "()V" } : Jvm.MethodName) object_method_1_code (1 : Nat) (Option.none : Option Jvm.ClassFile.FieldType)).before args0 about1 = true := code_word (m := ⟨0, 0⟩) (meth := k0m0) (c := k0c0) (by decide +kernel) rfl rfl rfl (by decide +kernel)
set_option maxRecDepth 65536 in
theorem w_c3 : (Jvm.Cond.code ({ cls := "java/util/Map", name := "of", desc := "()Ljava/util/Map;" } : Jvm.MethodName) jdk_72_method_26_code (0 : Nat) (Option.some (Jvm.ClassFile.FieldType.object "java/util/Map"))).before args0 about1 = true := code_word (m := ⟨3, 0⟩) (meth := k3m0) (c := k3c0) (by decide +kernel) rfl rfl rfl (by decide +kernel)
set_option maxRecDepth 65536 in
theorem w_c4 : (Jvm.Cond.code ({ cls := "com/example/labbrief/labbrief/cda/SchemaModel$ComplexType", name := "derivesFrom", desc := "(Lcom/example/labbrief/labbrief/cda/SchemaModel$ComplexType;)Z" } : Jvm.MethodName) prog_141_method_2_code (3 : Nat) (Option.some Jvm.ClassFile.FieldType.boolean)).before args0 about1 = true := code_word (m := ⟨2, 1⟩) (meth := k2m1) (c := k2c1) (by decide +kernel) rfl rfl rfl (by decide +kernel)
def codes1 : List Jvm.Cond := [Jvm.Cond.code x code maxLocals ret, Jvm.Cond.code ({ cls := "com/example/labbrief/labbrief/cda/SchemaModel$ComplexType", name := "<init>", desc := "()V" } : Jvm.MethodName) prog_141_method_1_code (1 : Nat) (Option.none : Option Jvm.ClassFile.FieldType), Jvm.Cond.code ({ cls := "java/lang/Object", name := "<init>", desc := "()V" } : Jvm.MethodName) object_method_1_code (1 : Nat) (Option.none : Option Jvm.ClassFile.FieldType), Jvm.Cond.code ({ cls := "java/util/Map", name := "of", desc := "()Ljava/util/Map;" } : Jvm.MethodName) jdk_72_method_26_code (0 : Nat) (Option.some (Jvm.ClassFile.FieldType.object "java/util/Map")), Jvm.Cond.code ({ cls := "com/example/labbrief/labbrief/cda/SchemaModel$ComplexType", name := "derivesFrom", desc := "(Lcom/example/labbrief/labbrief/cda/SchemaModel$ComplexType;)Z" } : Jvm.MethodName) prog_141_method_2_code (3 : Nat) (Option.some Jvm.ClassFile.FieldType.boolean)]
set_option maxRecDepth 65536 in
theorem codes_eq : words1.filter isCode = codes1 := rfl
theorem w_codes : ∀ c ∈ words1.filter isCode, c.before args0 about1 = true := by
  rw [codes_eq]
  intro c hc
  simp only [codes1, List.mem_cons, List.not_mem_nil, or_false] at hc
  rcases hc with rfl | rfl | rfl | rfl | rfl
  · exact w_c0
  · exact w_c1
  · exact w_c2
  · exact w_c3
  · exact w_c4
set_option maxRecDepth 65536 in
theorem w_t1 : (words1.take 24).all (fun c => isCode c || c.before args0 about1) = true := by decide +kernel
set_option maxRecDepth 65536 in
theorem w_t2 : (words1.drop 24).all (fun c => isCode c || c.before args0 about1) = true := by decide +kernel
theorem w_tables : (allAtoms (Jvm.Cond.code x code maxLocals ret :: tables_1)).before args0 about1 = true := by
  rw [allAtoms_all]
  show words1.all (fun c => c.before args0 about1) = true
  refine all_split ?_ w_codes
  rw [← List.take_append_drop 24 words1, List.all_append, w_t1, w_t2]
  rfl
set_option maxRecDepth 65536 in
theorem w_rest : rest_1_c.before args0 about1 = true := by decide +kernel
set_option maxRecDepth 65536 in
theorem w_case : (Jvm.Cond.and given_1 narrow_1).before args0 about1 = true := by decide +kernel
theorem w_applies : (headSpec (Jvm.Cond.code x code maxLocals ret :: tables_1) room_1).applies x e0.platform about1 = true :=
  (Spec.applies_iff w_frames).mpr ⟨w_running, w_runnable, w_alone, w_named, w_hears, w_ripe, w_room, w_tables⟩
theorem atStart : AtStart classFile x code maxLocals ret World_1 tables_1 room_1 Calls_1 rest_1 Pre_1 launch0 p0 e0 about1 theMethod args0 below0 :=
  ⟨lists_1, trivial, launch0.admits_env _ _ _, launch0.least_env, fairChoices_fair.cas, fairChoices_fair.clock, w_frames, w_args, w_heap, w_applies, trivial, w_rest, w_case⟩
end start1
theorem witness_1 : WitnessClaimed_1 := ⟨start1.p0, start1.e0, start1.about1, start1.theMethod, start1.args0, start1.below0, start1.atStart⟩
end Jvm.Pilot.@@N@@
