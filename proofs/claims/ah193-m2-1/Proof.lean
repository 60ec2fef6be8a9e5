import JvmDerived
import JvmDerived.Pilot.@@N@@Statement
import JvmDerived.Pilot.@@N@@Code
set_option linter.unusedVariables false
set_option linter.unusedSimpArgs false
namespace Jvm.RoadKit
open Sem ClassFile Op Lib Jvm.Stand Jvm.Free Jvm.LawKit
section New
variable {p : Program} {l : Launch} {e : Env} {R : Room} {s : State} {m : MethodId} {args : Array Value} {below : List Frame} {meth : Method} {c : Code} {T : State} {locs : List Loc} {cells slots : Nat}
theorem retI (X : Stand p l e R s m args below meth c T locs cells slots) (hx : p.tables.exec = Jvm.exec) {pc : Nat} {Ls : Array Slot} {z : Int32} {rest : List Value} (hret : meth.sig.returnType = some .int) (hd : decode c.code pc = .ok (.ireturn, 1)) {fs : List Frame}
    (hl : ∀ (f : JFrame) (acts : List Action), f.method = m → f.locked = none → f.entered = [] → (doReturn e (T.setTop f) acts (some (.int z))).1 = T.setFrames fs) : Steps p.tables e below (T.setTop (mkF m pc Ls (.int z :: rest))) (T.setFrames fs) := by
  have hm' : T.vm.method? m = some meth := X.method'
  have hn : narrow .int (.int z) = .int z := rfl
  show Steps p.tables e below (T.setTop { method := m, pc := pc, locals := Ls, stack := _ :: rest, locked := none }) _
  jvm_step X.here [X.here.top, hx, hd, hm', hret, hn]
  first | (intro acts; rw [hl _ acts rfl rfl rfl]) | rw [hl _ _ rfl rfl rfl]
  exact Steps.refl _
end New
end Jvm.RoadKit
namespace Jvm.Pilot.@@N@@
open Jvm Jvm.ClassFile Sem Op Lib Jvm.Free Jvm.Stand Jvm.LawKit Jvm.RoadKit Bundle Jvm.Pilot.@@N@@.Jvm.D

theorem own_cat {v : Value} (h : v.isRef = true) : v.category = 1 := by rcases ref_cases h with rfl | ⟨_, rfl⟩ <;> rfl
theorem own_nar {v : Value} {C : String} (h : v.isRef = true) : narrow (.object C) v = v := by rcases ref_cases h with rfl | ⟨_, rfl⟩ <;> rfl
theorem own_fit {v : Value} {C : String} (h : v.isRef = true) : fits (.object C) v = true := by rcases ref_cases h with rfl | ⟨_, rfl⟩ <;> rfl
def own_fl (u : Value) : Int32 := if u = .null then 0 else 1
theorem own_fln (u : Value) : nar .boolean (own_fl u) = own_fl u := by unfold own_fl; split <;> decide
/-- a constructor called by a reference that is resolved already -/
theorem own_special {p : Program} {l : Launch} {e : Env} {R : Room} {s : State} {m : MethodId} {args : Array Value} {below : List Frame} {meth : Method} {c : Code} {T : State} {locs : List Loc} {cells slots : Nat}
    (X : Stand p l e R s m args below meth c T locs cells slots) (hexec : p.tables.exec = Jvm.exec) {own : String} {index : Nat} {y : MethodName} (hy1 : y.name = "<init>")
    (hown : s.vm.findClass own = some m.cls) (href : ∀ vm', s.Warmed39 vm' → (Cond.methodRef own index y).before args (s.setVm vm') = true) (hinst : (Cond.instanceMethod y).before args s = true)
    {bytes : ByteArray} {maxL : Nat} (hcode : (Cond.code y bytes maxL none).before args s = true)
    (hy : y.cls ≠ "java/lang/invoke/MethodHandle" ∧ y.cls ≠ "java/lang/invoke/VarHandle")
    {W : Nat} {Pre : Pt → Array Value → Prop} {Post : Pt → Array Value → Option Value → Pt → Prop} (hK : Back l R p e below s args y 3 W Pre Post)
    {g : JFrame} (hg : g.method = m) (hsize : g.locals.size = c.maxLocals) {s₀ : State} (hcome : Steps p.tables e below s₀ (T.setTop g)) {a : Addr} {argsL rest : List Value}
    (hlen : ∀ sig, parseMethodDescriptor y.desc = some sig → argsL.length = sig.parameters.length) (hstack : g.stack = argsL.reverse ++ .ref a :: rest) (hW : 2 * g.monitorRoom + (rest.map fun v => v.category).sum ≤ W)
    (hdg : decode c.code g.pc = .ok (.invokespecial index, 3)) (hpre : ∀ vm₁, s.WarmedH vm₁ → Pre ⟨T.setVm vm₁, locs, cells, slots⟩ (.ref a :: argsL).toArray) :
    ∃ (v : Option Value) (vm₁ : Vm) (B : Pt), s.WarmedH vm₁ ∧ Stand p l e R s m args below meth c B.U B.locs B.cells B.slots ∧ Post ⟨T.setVm vm₁, locs, cells, slots⟩ (.ref a :: argsL).toArray v B ∧
      Steps p.tables e below s₀ (B.U.setTop { g with pc := g.pc + 3, stack := v.toList ++ rest }) := by
  subst hg
  obtain ⟨obj, methO, hnO, hmO, hstO, habO⟩ := Cond.instanceMethod_spec hinst
  obtain ⟨methO', cO, hmO', hcO, hbO, hlO, -, hlockO, -, hsigO⟩ := Cond.code_spec hnO hcode
  cases hmO.symm.trans hmO'
  obtain ⟨kO, hkO, hnameO⟩ := className_of_methodNamed hnO
  obtain ⟨hnameMO, hdescO⟩ := name_of_methodNamed hnO hmO
  have hal := X.warmed.alike
  have hownT : T.vm.findClass own = some g.method.cls := by rw [hal.findClass]; exact hown
  have hr : (Cond.methodRef own index y).holds args (s.setVm T.vm) none (s.setVm T.vm) [] = true := href T.vm X.warmed.wide
  obtain ⟨mf, cf, hmf, hready, hfind, hres⟩ := Cond.methodRef_named e (s := s.setVm T.vm) hownT hr
  have hmf' : mf = obj := by
    have h1 := State.methodFound?_of_named hnO hy
    have h2 : (s.setVm T.vm).methodFound? y.cls y.name y.desc = some obj := by rw [State.methodFound?_setVm_of_named hal hnO hy]; exact h1
    exact Option.some.inj (hmf.symm.trans h2)
  subst hmf'
  obtain ⟨kO₂, hkO₂, heO₂⟩ := hal.2.2 _ _ hkO
  have hmO₂ : T.vm.method? mf = some methO := by rw [hal.method?]; exact hmO
  have hfound : lookupSpecial T.vm mf.cls "<init>" methO.desc = .method mf := by
    rw [hal.lookupSpecial, hdescO, ← hy1]; exact lookupSpecial_of_named hnO hmO hstO
  have hcls : cf = mf.cls := by
    have h1 : s.vm.findClass y.cls = some cf := by rw [← hal.findClass]; exact hfind
    have h2 := findClass_of_methodNamed hnO
    exact Option.some.inj (h1.symm.trans h2)
  subst hcls
  obtain ⟨v, B, X', hpost, hsteps⟩ := hK g.method meth c ⟨T.setVm T.vm, locs, cells, slots⟩ { g with stack := rest } (.invokespecial index) mf (.ref a :: argsL).toArray X rfl hsize hdg hW (X.named hnO) (hpre T.vm X.warmed)
  refine ⟨v, T.vm, B, X.warmed, X', hpost, (hcome.trans ?_).trans hsteps⟩
  jvm_step X.here [hexec, hdg, invokespecial.wp_init (e := e) (s := T) (k := kO₂) (meth := methO) (m := mf) (a := a) (args := argsL) (rest := rest) (f := g) X.here.top hres hready hkO₂ hmO₂ (by rw [hnameMO]; exact hy1) hstO habO hfound (hlen _ hsigO) hstack]
  first | (intro acts; rw [doInvoke_state]; exact Steps.refl _) | (rw [doInvoke_state]; exact Steps.refl _)
/-- the list of calls: its class, its counters, its array (the shared empty one, or one of ten places) -/
def own_AL (Z : State) (h : Heap) (n0 : Nat) (b aE : Addr) (c : Nat) : Prop := Exa Z h b "java/util/ArrayList" ∧ (∃ mc : Int32, Fld Z h b "java/util/AbstractList" "modCount" "I" (.int mc)) ∧ Fld Z h b "java/util/ArrayList" "size" "I" (.int (Int32.ofNat c)) ∧ n0 ≤ b ∧ ((c = 0 ∧ Fld Z h b "java/util/ArrayList" "elementData" "[Ljava/lang/Object;" (.ref aE)) ∨ (1 ≤ c ∧ ∃ (d : Addr) (k : ClassId) (vs : List Value), Fld Z h b "java/util/ArrayList" "elementData" "[Ljava/lang/Object;" (.ref d) ∧ Arv Z h d k (.object "java/lang/Object") (10 : Int32) vs .null ∧ Ovr Z k "java/lang/Object" ∧ n0 ≤ d ∧ b ≠ d))

theorem own_ref {Z s : State} {a0 args : Array Value} {own : String} {index : Nat} {y : MethodName} {by0 : ByteArray} {ml : Nat} {rt : Option FieldType} (hZ : Z.Warmed39 s.vm) (w : (Cond.methodRef own index y).before a0 Z = true) (wc : (Cond.code y by0 ml rt).before a0 Z = true) (hy : y.cls ≠ "java/lang/invoke/MethodHandle" ∧ y.cls ≠ "java/lang/invoke/VarHandle") : ∀ vm', s.Warmed39 vm' → (Cond.methodRef own index y).before args (s.setVm vm') = true := fun vm' h => by
  obtain ⟨m0, hn⟩ := Cond.named_of_code wc
  have h1 : (Cond.methodRef own index y).before a0 (Z.setVm vm') = true := Cond.methodRef_warmed39 (State.Warmed39.trans hZ h) hn hy w
  have e : (Cond.methodRef own index y).before args (s.setVm vm') = (Cond.methodRef own index y).before a0 (Z.setVm vm') := by
    simp only [Cond.before, Cond.holds, Cond.value]
    rfl
  rw [e]; exact h1
def own_max (p q : Int32) : Int32 := if p < q then q else p
theorem own_oi {i : Nat} (h : i < 2147483648) : (Int32.ofNat i).toInt = i := Int32.toInt_ofNat_of_lt h
theorem own_clamp {i : Nat} (h : i < 2147483648) : (Int32.ofNat i).toNatClampNeg = i := by
  have e := own_oi h
  show (Int32.ofNat i).toInt.toNat = i
  omega
theorem own_nneg {i : Nat} (h : i < 2147483648) : ¬ (Int32.ofNat i) < 0 := by
  rw [Int32.lt_iff_toInt_lt, own_oi h]
  have : (0 : Int32).toInt = 0 := by decide
  omega
theorem own_next {i : Nat} (h : i < 1000) : Int32.ofNat i + (1 : Int32) = Int32.ofNat (i + 1) := by
  apply Int32.toInt_inj.mp
  have : (1 : Int32).toInt = 1 := by decide
  rw [Int32.toInt_add, own_oi (by omega), own_oi (by omega), this, Int.bmod_eq_of_le] <;> omega
theorem own_lt10 {i : Nat} (h : i < 10) : Int32.ofNat i < (10 : Int32) := by
  rw [Int32.lt_iff_toInt_lt, own_oi (by omega)]
  have : (10 : Int32).toInt = 10 := by decide
  omega
theorem own_ne10 {i : Nat} (h : i < 10) : ¬ (Int32.ofNat i = (10 : Int32)) := fun q => by
  have := own_lt10 h
  rw [q] at this
  exact absurd this (by decide)
def own_ST (Z : State) (h : Heap) (n0 : Nat) (r b aE aI : Addr) (c : Nat) (u : Value) : Prop := Exa Z h r "beanforge/core/Recipe" ∧ Fld Z h r "beanforge/core/Recipe" "calls" "Ljava/util/List;" (.ref b) ∧ Fld Z h r "beanforge/core/Recipe" "construction" "Lbeanforge/core/Overloads$Chosen;" u ∧ (∃ v1 v2 v3 v4 : Value, Fld Z h r "beanforge/core/Recipe" "constructionPlace" "Lbeanforge/core/Preparation$Place;" v1 ∧ Fld Z h r "beanforge/core/Recipe" "factory" "Ljava/lang/Object;" v2 ∧ Fld Z h r "beanforge/core/Recipe" "maker" "Lbeanforge/core/Preparation$Maker;" v3 ∧ Fld Z h r "beanforge/core/Recipe" "type" "Ljava/lang/Class;" v4) ∧ own_AL Z h n0 b aE c ∧ Exa Z h aI "java/lang/Integer" ∧ n0 ≤ r ∧ Old Z n0 h
theorem pn_0 : plainName "java/util/AbstractCollection" = true := by first | (simp [plainName, overriddenIn]; done) | decide +kernel
theorem ef_5 (m : MethodId) (a1 : Addr) : entryFrame m #[(.ref a1)] 1 = (mkF m 0 #[.val (.ref a1)] []) := by first | (simp [entryFrame, mkF, argsToLocals, Value.category]; done) | rfl
theorem d5_0 : decode jdk_22_method_1_code 0 = .ok (.aload_n 0, 1) := by decide +kernel
theorem d5_1 : decode jdk_22_method_1_code 1 = .ok (.invokespecial 1, 3) := by decide +kernel
theorem d5_4 : decode jdk_22_method_1_code 4 = .ok (.return_, 1) := by decide +kernel
def Q5 (Z : State) (a1 : Addr) (h0 : Heap) (n0 : Nat) (v : Option Value) (h : Heap) (L : List Loc) : Prop := v = none ∧ Fr n0 L ∧ h = h0
set_option maxRecDepth 65536 in
set_option maxHeartbeats 40000000 in
theorem rm5 (l : Launch) (Z : State) (a0 : Array Value) (hw : ∀ d ∈ tables_1, d.before a0 Z = true) (ws : List Jvm.Cond) (a1 : Addr) (h0 : Heap) (n0 : Nat) (Z0 : n0 ≤ h0.size) :
    MetFree l (⟨"java/util/AbstractCollection", "<init>", "()V"⟩ : MethodName) (head1 (Jvm.Cond.code (⟨"java/util/AbstractCollection", "<init>", "()V"⟩ : MethodName) jdk_22_method_1_code 1 none :: ws) ({ frames := 1, cells := 0, slots := 0, locals := 12 } : Room)) (fun a U => a = #[(.ref a1)] ∧ Z.Warmed39 U.vm ∧ U.heap = h0) (fun _ _ _ _ _ => True) (fun _ U o U' => ∃ v L, o = .returned v ∧ Q5 Z a1 h0 n0 v U'.heap L ∧ FrameEnd U o U' L ({ frames := 1, cells := 0, slots := 0, locals := 12 } : Room).cells ({ frames := 1, cells := 0, slots := 0, locals := 12 } : Room).slots) := by
  refine MetFree.of_bodySF (plainFor_of_name pn_0) hisR ?_
  intro p e s m args below meth c s₁ Bd hml0 hP hK
  obtain ⟨rfl, hZ, hh⟩ := hP
  have hx := Bd.exec
  have hby := Bd.bytes
  have hml : c.maxLocals = 1 := hml0
  have hown : s.vm.findClass "java/util/AbstractCollection" = some m.cls := findClass_of_methodNamed Bd.named
  have hnm := (name_of_methodNamed Bd.named Bd.method).1
  have X0 : Stand p l e ({ frames := 1, cells := 0, slots := 0, locals := 12 } : Room) s m #[(.ref a1)] below meth c s₁ [] 0 0 := Stand.of_body Bd
  have e0 : s₁.heap = h0 := by rw [← hh, Bd.state]; rfl
  have N0 := Fr.nil n0
  have pre0 : ∀ t, Steps p.tables e below (s₁.setTop (mkF m 0 #[.val (.ref a1)] [])) t → Steps p.tables e below (s₁.setTop (entryFrame m #[(.ref a1)] 1)) t := fun t k => castTop (ef_5 m a1) k
  have pre1 : ∀ t, Steps p.tables e below (s₁.setTop (mkF m 1 #[.val (.ref a1)] [(.ref a1)])) t → Steps p.tables e below (s₁.setTop (entryFrame m #[(.ref a1)] 1)) t := fun t kt => by
    refine pre0 _ ?_
    show Steps p.tables e below (s₁.setTop (mkF m 0 #[.val (.ref a1)] [])) _
    refine XS.aloadN X0.here hx rfl (hb hby d5_0) rfl rfl ?_
    exact kt
  obtain ⟨T2, X2, e2, st2⟩ := initO X0 hx hZ hown (hw _ (List.mem_of_getElem? (i := 27) rfl)) (hw _ (List.mem_of_getElem? (i := 7) rfl)) (hw _ (List.mem_of_getElem? (i := 8) rfl)) e0 (g := (mkF m 1 #[.val (.ref a1)] [(.ref a1)])) rfl (by rw [hml]; rfl) rfl (hb hby d5_1) (by decide) (W := 0) (by show 2 * 0 + _ ≤ _; exact Nat.le_of_eq rfl) (by decide)
  have pre3 : ∀ t, Steps p.tables e below (T2.setTop (mkF m 4 #[.val (.ref a1)] [])) t → Steps p.tables e below (s₁.setTop (entryFrame m #[(.ref a1)] 1)) t := fun t kt => pre1 _ (st2 _ kt)
  obtain ⟨fs, hr, hrun, hended, hW, hsame⟩ := X2.leave (v := none) (fun _ => rfl)
  refine ⟨_, _, pre3 _ ?_, hrun, hended, _, _, rfl, ?_, ⟨_, rfl⟩, hW, hsame.mono (by decide) (by decide)⟩
  · show Steps p.tables e below (T2.setTop (mkF m 4 #[.val (.ref a1)] [])) _
    exact X2.returnOut hx Bd.returns (hb hby d5_4) hr
  · show Q5 Z a1 h0 n0 _ T2.heap _
    rw [e2]
    exact ⟨rfl, N0, rfl⟩
theorem pn_1 : plainName "java/util/AbstractList" = true := by first | (simp [plainName, overriddenIn]; done) | decide +kernel
theorem ef_4 (m : MethodId) (a1 : Addr) : entryFrame m #[(.ref a1)] 1 = (mkF m 0 #[.val (.ref a1)] []) := by first | (simp [entryFrame, mkF, argsToLocals, Value.category]; done) | rfl
theorem d4_0 : decode jdk_39_method_1_code 0 = .ok (.aload_n 0, 1) := by decide +kernel
theorem pd_0 : parseMethodDescriptor "()V" = some ⟨[], none⟩ := by decide +kernel
theorem d4_1 : decode jdk_39_method_1_code 1 = .ok (.invokespecial 1, 3) := by decide +kernel
theorem d4_4 : decode jdk_39_method_1_code 4 = .ok (.aload_n 0, 1) := by decide +kernel
theorem d4_5 : decode jdk_39_method_1_code 5 = .ok (.iconst 0, 1) := by decide +kernel
theorem d4_6 : decode jdk_39_method_1_code 6 = .ok (.putfield 7, 3) := by decide +kernel
theorem d4_9 : decode jdk_39_method_1_code 9 = .ok (.return_, 1) := by decide +kernel
def Q4 (Z : State) (a1 : Addr) (u1 : Value) (u2 : Value) (h0 : Heap) (n0 : Nat) (v : Option Value) (h : Heap) (L : List Loc) : Prop := v = none ∧ Fr n0 L ∧ Keep h0 h [a1] ∧ Fld Z h a1 "java/util/AbstractList" "modCount" "I" (.int (0 : Int32)) ∧ Fld Z h a1 "java/util/ArrayList" "elementData" "[Ljava/lang/Object;" u1 ∧ Fld Z h a1 "java/util/ArrayList" "size" "I" u2
set_option maxRecDepth 65536 in
set_option maxHeartbeats 40000000 in
theorem rm4 (l : Launch) (Z : State) (a0 : Array Value) (hw : ∀ d ∈ tables_1, d.before a0 Z = true) (ws : List Jvm.Cond) (a1 : Addr) (u1 : Value) (u2 : Value) (h0 : Heap) (n0 : Nat) (Z0 : n0 ≤ h0.size) (E1 : Exa Z h0 a1 "java/util/ArrayList") (Fm : Fld Z h0 a1 "java/util/AbstractList" "modCount" "I" (.int (0 : Int32))) (Fe : Fld Z h0 a1 "java/util/ArrayList" "elementData" "[Ljava/lang/Object;" u1) (Fs : Fld Z h0 a1 "java/util/ArrayList" "size" "I" u2) (g1 : n0 ≤ a1) :
    MetFree l (⟨"java/util/AbstractList", "<init>", "()V"⟩ : MethodName) (head1 (Jvm.Cond.code (⟨"java/util/AbstractList", "<init>", "()V"⟩ : MethodName) jdk_39_method_1_code 1 none :: ws) ({ frames := 2, cells := 0, slots := 0, locals := 24 } : Room)) (fun a U => a = #[(.ref a1)] ∧ Z.Warmed39 U.vm ∧ U.heap = h0) (fun _ _ _ _ _ => True) (fun _ U o U' => ∃ v L, o = .returned v ∧ Q4 Z a1 u1 u2 h0 n0 v U'.heap L ∧ FrameEnd U o U' L ({ frames := 2, cells := 0, slots := 0, locals := 24 } : Room).cells ({ frames := 2, cells := 0, slots := 0, locals := 24 } : Room).slots) := by
  refine MetFree.of_bodySF (plainFor_of_name pn_1) hisR ?_
  intro p e s m args below meth c s₁ Bd hml0 hP hK
  obtain ⟨rfl, hZ, hh⟩ := hP
  have hx := Bd.exec
  have hby := Bd.bytes
  have hml : c.maxLocals = 1 := hml0
  have hown : s.vm.findClass "java/util/AbstractList" = some m.cls := findClass_of_methodNamed Bd.named
  have hnm := (name_of_methodNamed Bd.named Bd.method).1
  have X0 : Stand p l e ({ frames := 2, cells := 0, slots := 0, locals := 24 } : Room) s m #[(.ref a1)] below meth c s₁ [] 0 0 := Stand.of_body Bd
  have e0 : s₁.heap = h0 := by rw [← hh, Bd.state]; rfl
  have N0 := Fr.nil n0
  have K0 : Keep h0 h0 [a1] := Keep.refl _ _
  have pre0 : ∀ t, Steps p.tables e below (s₁.setTop (mkF m 0 #[.val (.ref a1)] [])) t → Steps p.tables e below (s₁.setTop (entryFrame m #[(.ref a1)] 1)) t := fun t k => castTop (ef_4 m a1) k
  have pre1 : ∀ t, Steps p.tables e below (s₁.setTop (mkF m 1 #[.val (.ref a1)] [(.ref a1)])) t → Steps p.tables e below (s₁.setTop (entryFrame m #[(.ref a1)] 1)) t := fun t kt => by
    refine pre0 _ ?_
    show Steps p.tables e below (s₁.setTop (mkF m 0 #[.val (.ref a1)] [])) _
    refine XS.aloadN X0.here hx rfl (hb hby d4_0) rfl rfl ?_
    exact kt
  obtain ⟨_, _, ⟨T2, L2, kc2, nc2⟩, -, X2, ⟨Lc2, hQ2, l2, y2, z2⟩, st2⟩ := X0.specialBack hx (y := (⟨"java/util/AbstractCollection", "<init>", "()V"⟩ : MethodName)) rfl hown (mvT hZ (hw _ (List.mem_of_getElem? (i := 21) rfl))) (mvT hZ (hw _ (List.mem_of_getElem? (i := 22) rfl))) (mvT hZ (hw _ (List.mem_of_getElem? (i := 26) rfl))) (by decide) (backOf (W := 0) (rm5 l Z a0 hw [] a1 h0 n0 Z0) hZ (hw _ (List.mem_of_getElem? (i := 26) rfl)) (hw _ (List.mem_of_getElem? (i := 25) rfl)) (by decide) (by decide)) (g := (mkF m 1 #[.val (.ref a1)] [(.ref a1)])) rfl (by rw [hml]; rfl) (Steps.refl _) (a := a1) (argsL := []) (rest := []) (lenOf pd_0 rfl) rfl (by show 2 * 0 + _ ≤ _; exact Nat.le_of_eq rfl) (hb hby d4_1) (fun _ _ => ⟨rfl, e0, (by decide : 0 + 0 ≤ _), (by decide : 0 + 0 ≤ _)⟩)
  dsimp only [Pt.U, Pt.locs, Pt.cells, Pt.slots] at X2 l2 y2 z2 st2 hQ2
  subst l2 y2 z2
  obtain ⟨rfl, N2q, he2⟩ := hQ2
  have N2 := Fr.app N0 N2q
  have pre3 : ∀ t, Steps p.tables e below (T2.setTop (mkF m 4 #[.val (.ref a1)] [])) t → Steps p.tables e below (s₁.setTop (entryFrame m #[(.ref a1)] 1)) t := fun t kt => pre1 _ (st2.trans kt)
  have pre4 : ∀ t, Steps p.tables e below (T2.setTop (mkF m 6 #[.val (.ref a1)] [(.int (0 : Int32)), (.ref a1)])) t → Steps p.tables e below (s₁.setTop (entryFrame m #[(.ref a1)] 1)) t := fun t kt => by
    refine pre3 _ ?_
    show Steps p.tables e below (T2.setTop (mkF m 4 #[.val (.ref a1)] [])) _
    refine XS.aloadN X2.here hx rfl (hb hby d4_4) rfl rfl ?_
    show Steps p.tables e below (T2.setTop (mkF m 5 #[.val (.ref a1)] [(.ref a1)])) _
    refine XS.iconst X2.here hx rfl (hb hby d4_5) ?_
    exact kt
  obtain ⟨T5, h5, X5, e5, W5, st5⟩ := putF X2 hx hZ hown (host := "") (Or.inl (hw _ (List.mem_of_getElem? (i := 28) rfl))) Via.refl he2 Fm E1 (Or.inl (hw _ (List.mem_of_getElem? (i := 29) rfl))) (hw _ (List.mem_of_getElem? (i := 10) rfl)) (ty := .int) (by decide) rfl rfl (g := (mkF m 6 #[.val (.ref a1)] [(.int (0 : Int32)), (.ref a1)])) rfl rfl (hb hby d4_6)
  have Fw5 := Fm.same W5
  have N5 := Fr.snoc X5 N2 g1
  have pre6 : ∀ t, Steps p.tables e below (T5.setTop (mkF m 9 #[.val (.ref a1)] [])) t → Steps p.tables e below (s₁.setTop (entryFrame m #[(.ref a1)] 1)) t := fun t kt => pre4 _ (st5 _ kt)
  have k7 : Keep h0 h5 [a1] := (K0.wr W5 (Or.inl (List.mem_of_getElem? (i := 0) rfl)))
  have f8 := (Fe.other W5 (Or.inr (slot_ne (Or.inl (hw _ (List.mem_of_getElem? (i := 32) rfl))) (Or.inl (hw _ (List.mem_of_getElem? (i := 29) rfl))) (by decide) (t := (.array (.object "java/lang/Object"))) (t' := .int) (by decide) (by decide))))
  have f9 := (Fs.other W5 (Or.inr (slot_ne (Or.inl (hw _ (List.mem_of_getElem? (i := 99) rfl))) (Or.inl (hw _ (List.mem_of_getElem? (i := 29) rfl))) (by decide) (t := .int) (t' := .int) (by decide) (by decide))))
  obtain ⟨fs, hr, hrun, hended, hW, hsame⟩ := X5.leave (v := none) (fun _ => rfl)
  refine ⟨_, _, pre6 _ ?_, hrun, hended, _, _, rfl, ?_, ⟨_, rfl⟩, hW, hsame.mono (by decide) (by decide)⟩
  · show Steps p.tables e below (T5.setTop (mkF m 9 #[.val (.ref a1)] [])) _
    exact X5.returnOut hx Bd.returns (hb hby d4_9) hr
  · show Q4 Z a1 u1 u2 h0 n0 _ T5.heap _
    rw [e5]
    exact ⟨rfl, N5, k7, Fw5, f8, f9⟩
theorem pn_2 : plainName "java/util/ArrayList" = true := by first | (simp [plainName, overriddenIn]; done) | decide +kernel
theorem ef_3 (m : MethodId) (a1 : Addr) : entryFrame m #[(.ref a1)] 1 = (mkF m 0 #[.val (.ref a1)] []) := by first | (simp [entryFrame, mkF, argsToLocals, Value.category]; done) | rfl
theorem d3_0 : decode jdk_38_method_2_code 0 = .ok (.aload_n 0, 1) := by decide +kernel
theorem d3_1 : decode jdk_38_method_2_code 1 = .ok (.invokespecial 1, 3) := by decide +kernel
theorem d3_4 : decode jdk_38_method_2_code 4 = .ok (.aload_n 0, 1) := by decide +kernel
theorem d3_5 : decode jdk_38_method_2_code 5 = .ok (.getstatic 39, 3) := by decide +kernel
theorem d3_8 : decode jdk_38_method_2_code 8 = .ok (.putfield 9, 3) := by decide +kernel
theorem d3_11 : decode jdk_38_method_2_code 11 = .ok (.return_, 1) := by decide +kernel
def Q3 (Z : State) (a1 : Addr) (aE : Addr) (h0 : Heap) (n0 : Nat) (v : Option Value) (h : Heap) (L : List Loc) : Prop := v = none ∧ Fr n0 L ∧ Keep h0 h [a1] ∧ Fld Z h a1 "java/util/AbstractList" "modCount" "I" (.int (0 : Int32)) ∧ Fld Z h a1 "java/util/ArrayList" "elementData" "[Ljava/lang/Object;" (.ref aE) ∧ Fld Z h a1 "java/util/ArrayList" "size" "I" (.int (0 : Int32))
set_option maxRecDepth 65536 in
set_option maxHeartbeats 40000000 in
theorem rm3 (l : Launch) (Z : State) (a0 : Array Value) (hw : ∀ d ∈ tables_1, d.before a0 Z = true) (ws : List Jvm.Cond) (a1 : Addr) (aE : Addr) (h0 : Heap) (n0 : Nat) (O0 : Old Z n0 h0) (SE : Sta Z Z.heap "java/util/ArrayList" "DEFAULTCAPACITY_EMPTY_ELEMENTDATA" "[Ljava/lang/Object;" (.ref aE)) (E1 : Exa Z h0 a1 "java/util/ArrayList") (Fm : Fld Z h0 a1 "java/util/AbstractList" "modCount" "I" (.int (0 : Int32))) (Fe : Fld Z h0 a1 "java/util/ArrayList" "elementData" "[Ljava/lang/Object;" .null) (Fs : Fld Z h0 a1 "java/util/ArrayList" "size" "I" (.int (0 : Int32))) (g1 : n0 ≤ a1) :
    MetFree l (⟨"java/util/ArrayList", "<init>", "()V"⟩ : MethodName) (head1 (Jvm.Cond.code (⟨"java/util/ArrayList", "<init>", "()V"⟩ : MethodName) jdk_38_method_2_code 1 none :: ws) ({ frames := 3, cells := 0, slots := 0, locals := 36 } : Room)) (fun a U => a = #[(.ref a1)] ∧ Z.Warmed39 U.vm ∧ U.heap = h0) (fun _ _ _ _ _ => True) (fun _ U o U' => ∃ v L, o = .returned v ∧ Q3 Z a1 aE h0 n0 v U'.heap L ∧ FrameEnd U o U' L ({ frames := 3, cells := 0, slots := 0, locals := 36 } : Room).cells ({ frames := 3, cells := 0, slots := 0, locals := 36 } : Room).slots) := by
  refine MetFree.of_bodySF (plainFor_of_name pn_2) hisR ?_
  intro p e s m args below meth c s₁ Bd hml0 hP hK
  obtain ⟨rfl, hZ, hh⟩ := hP
  have hx := Bd.exec
  have hby := Bd.bytes
  have hml : c.maxLocals = 1 := hml0
  have hown : s.vm.findClass "java/util/ArrayList" = some m.cls := findClass_of_methodNamed Bd.named
  have hnm := (name_of_methodNamed Bd.named Bd.method).1
  have X0 : Stand p l e ({ frames := 3, cells := 0, slots := 0, locals := 36 } : Room) s m #[(.ref a1)] below meth c s₁ [] 0 0 := Stand.of_body Bd
  have e0 : s₁.heap = h0 := by rw [← hh, Bd.state]; rfl
  have N0 := Fr.nil n0
  have Z0 : n0 ≤ h0.size := O0.1 ▸ O0.2.1
  have K0 : Keep h0 h0 [a1] := Keep.refl _ _
  have pre0 : ∀ t, Steps p.tables e below (s₁.setTop (mkF m 0 #[.val (.ref a1)] [])) t → Steps p.tables e below (s₁.setTop (entryFrame m #[(.ref a1)] 1)) t := fun t k => castTop (ef_3 m a1) k
  have pre1 : ∀ t, Steps p.tables e below (s₁.setTop (mkF m 1 #[.val (.ref a1)] [(.ref a1)])) t → Steps p.tables e below (s₁.setTop (entryFrame m #[(.ref a1)] 1)) t := fun t kt => by
    refine pre0 _ ?_
    show Steps p.tables e below (s₁.setTop (mkF m 0 #[.val (.ref a1)] [])) _
    refine XS.aloadN X0.here hx rfl (hb hby d3_0) rfl rfl ?_
    exact kt
  obtain ⟨_, _, ⟨T2, L2, kc2, nc2⟩, -, X2, ⟨Lc2, hQ2, l2, y2, z2⟩, st2⟩ := X0.specialBack hx (y := (⟨"java/util/AbstractList", "<init>", "()V"⟩ : MethodName)) rfl hown (mvT hZ (hw _ (List.mem_of_getElem? (i := 15) rfl))) (mvT hZ (hw _ (List.mem_of_getElem? (i := 16) rfl))) (mvT hZ (hw _ (List.mem_of_getElem? (i := 20) rfl))) (by decide) (backOf (W := 0) (rm4 l Z a0 hw [] a1 .null (.int (0 : Int32)) h0 n0 Z0 E1 Fm Fe Fs g1) hZ (hw _ (List.mem_of_getElem? (i := 20) rfl)) (hw _ (List.mem_of_getElem? (i := 19) rfl)) (by decide) (by decide)) (g := (mkF m 1 #[.val (.ref a1)] [(.ref a1)])) rfl (by rw [hml]; rfl) (Steps.refl _) (a := a1) (argsL := []) (rest := []) (lenOf pd_0 rfl) rfl (by show 2 * 0 + _ ≤ _; exact Nat.le_of_eq rfl) (hb hby d3_1) (fun _ _ => ⟨rfl, e0, (by decide : 0 + 0 ≤ _), (by decide : 0 + 0 ≤ _)⟩)
  dsimp only [Pt.U, Pt.locs, Pt.cells, Pt.slots] at X2 l2 y2 z2 st2 hQ2
  subst l2 y2 z2
  obtain ⟨rfl, N2q, K2, Fm2, Fe2, Fs2⟩ := hQ2
  have N2 := Fr.app N0 N2q
  have pre3 : ∀ t, Steps p.tables e below (T2.setTop (mkF m 4 #[.val (.ref a1)] [])) t → Steps p.tables e below (s₁.setTop (entryFrame m #[(.ref a1)] 1)) t := fun t kt => pre1 _ (st2.trans kt)
  have o4 : Old Z n0 T2.heap := (O0.keep K2 (allS g1 all0))
  have pre5 : ∀ t, Steps p.tables e below (T2.setTop (mkF m 5 #[.val (.ref a1)] [(.ref a1)])) t → Steps p.tables e below (s₁.setTop (entryFrame m #[(.ref a1)] 1)) t := fun t kt => by
    refine pre3 _ ?_
    show Steps p.tables e below (T2.setTop (mkF m 4 #[.val (.ref a1)] [])) _
    refine XS.aloadN X2.here hx rfl (hb hby d3_4) rfl rfl ?_
    exact kt
  obtain ⟨T6, X6, e6, st6⟩ := getS2 X2 hx hZ hown (host := "") (Or.inl (hw _ (List.mem_of_getElem? (i := 30) rfl))) Via.refl rfl (SE.ext o4.2) (g := (mkF m 5 #[.val (.ref a1)] [(.ref a1)])) rfl (hb hby d3_5)
  have pre7 : ∀ t, Steps p.tables e below (T6.setTop (mkF m 8 #[.val (.ref a1)] [(.ref aE), (.ref a1)])) t → Steps p.tables e below (s₁.setTop (entryFrame m #[(.ref a1)] 1)) t := fun t kt => pre5 _ (st6 _ kt)
  have f8 := (E1.keep K2)
  obtain ⟨T9, h9, X9, e9, W9, st9⟩ := putF X6 hx hZ hown (host := "") (Or.inl (hw _ (List.mem_of_getElem? (i := 31) rfl))) Via.refl e6 Fe2 f8 (Or.inl (hw _ (List.mem_of_getElem? (i := 32) rfl))) (hw _ (List.mem_of_getElem? (i := 10) rfl)) (ty := (.array (.object "java/lang/Object"))) (by decide) rfl rfl (g := (mkF m 8 #[.val (.ref a1)] [(.ref aE), (.ref a1)])) rfl rfl (hb hby d3_8)
  have Fw9 := Fe2.same W9
  have N9 := Fr.snoc X9 N2 g1
  have pre10 : ∀ t, Steps p.tables e below (T9.setTop (mkF m 11 #[.val (.ref a1)] [])) t → Steps p.tables e below (s₁.setTop (entryFrame m #[(.ref a1)] 1)) t := fun t kt => pre7 _ (st9 _ kt)
  have k11 : Keep h0 h9 [a1] := ((K0.trans K2 (allS (Or.inl (List.mem_of_getElem? (i := 0) rfl)) all0)).wr W9 (Or.inl (List.mem_of_getElem? (i := 0) rfl)))
  have f12 := (Fm2.other W9 (Or.inr (slot_ne (Or.inl (hw _ (List.mem_of_getElem? (i := 29) rfl))) (Or.inl (hw _ (List.mem_of_getElem? (i := 32) rfl))) (by decide) (t := .int) (t' := (.array (.object "java/lang/Object"))) (by decide) (by decide))))
  have f13 := (Fs2.other W9 (Or.inr (slot_ne (Or.inl (hw _ (List.mem_of_getElem? (i := 99) rfl))) (Or.inl (hw _ (List.mem_of_getElem? (i := 32) rfl))) (by decide) (t := .int) (t' := (.array (.object "java/lang/Object"))) (by decide) (by decide))))
  obtain ⟨fs, hr, hrun, hended, hW, hsame⟩ := X9.leave (v := none) (fun _ => rfl)
  refine ⟨_, _, pre10 _ ?_, hrun, hended, _, _, rfl, ?_, ⟨_, rfl⟩, hW, hsame.mono (by decide) (by decide)⟩
  · show Steps p.tables e below (T9.setTop (mkF m 11 #[.val (.ref a1)] [])) _
    exact X9.returnOut hx Bd.returns (hb hby d3_11) hr
  · show Q3 Z a1 aE h0 n0 _ T9.heap _
    rw [e9]
    exact ⟨rfl, N9, k11, f12, Fw9, f13⟩
theorem pn_3 : plainName "beanforge/core/Recipe" = true := by first | (simp [plainName, overriddenIn]; done) | decide +kernel
theorem ef_1 (m : MethodId) (a1 : Addr) : entryFrame m #[(.ref a1)] 1 = (mkF m 0 #[.val (.ref a1)] []) := by first | (simp [entryFrame, mkF, argsToLocals, Value.category]; done) | rfl
theorem d1_0 : decode prog_89_method_1_code 0 = .ok (.aload_n 0, 1) := by decide +kernel
theorem d1_1 : decode prog_89_method_1_code 1 = .ok (.invokespecial 1, 3) := by decide +kernel
theorem d1_4 : decode prog_89_method_1_code 4 = .ok (.aload_n 0, 1) := by decide +kernel
theorem d1_5 : decode prog_89_method_1_code 5 = .ok (.new 7, 3) := by decide +kernel
theorem d1_8 : decode prog_89_method_1_code 8 = .ok (.dup, 1) := by decide +kernel
theorem d1_9 : decode prog_89_method_1_code 9 = .ok (.invokespecial 9, 3) := by decide +kernel
theorem d1_12 : decode prog_89_method_1_code 12 = .ok (.putfield 10, 3) := by decide +kernel
theorem d1_15 : decode prog_89_method_1_code 15 = .ok (.return_, 1) := by decide +kernel
def Q1 (Z : State) (a1 : Addr) (aE : Addr) (h0 : Heap) (n0 : Nat) (v : Option Value) (h : Heap) (L : List Loc) : Prop := v = none ∧ Fr n0 L ∧ Keep h0 h [a1] ∧ Fld Z h a1 "beanforge/core/Recipe" "calls" "Ljava/util/List;" (.ref h0.size) ∧ Fld Z h a1 "beanforge/core/Recipe" "construction" "Lbeanforge/core/Overloads$Chosen;" .null ∧ Fld Z h a1 "beanforge/core/Recipe" "constructionPlace" "Lbeanforge/core/Preparation$Place;" .null ∧ Fld Z h a1 "beanforge/core/Recipe" "factory" "Ljava/lang/Object;" .null ∧ Fld Z h a1 "beanforge/core/Recipe" "maker" "Lbeanforge/core/Preparation$Maker;" .null ∧ Fld Z h a1 "beanforge/core/Recipe" "type" "Ljava/lang/Class;" .null ∧ own_AL Z h n0 h0.size aE 0
set_option maxRecDepth 65536 in
set_option maxHeartbeats 40000000 in
theorem rm1 (l : Launch) (Z : State) (a0 : Array Value) (hw : ∀ d ∈ tables_1, d.before a0 Z = true) (ws : List Jvm.Cond) (a1 : Addr) (aE : Addr) (h0 : Heap) (n0 : Nat) (O0 : Old Z n0 h0) (SE : Sta Z Z.heap "java/util/ArrayList" "DEFAULTCAPACITY_EMPTY_ELEMENTDATA" "[Ljava/lang/Object;" (.ref aE)) (E1 : Exa Z h0 a1 "beanforge/core/Recipe") (F0 : Fld Z h0 a1 "beanforge/core/Recipe" "calls" "Ljava/util/List;" .null) (F1 : Fld Z h0 a1 "beanforge/core/Recipe" "construction" "Lbeanforge/core/Overloads$Chosen;" .null) (F2 : Fld Z h0 a1 "beanforge/core/Recipe" "constructionPlace" "Lbeanforge/core/Preparation$Place;" .null) (F3 : Fld Z h0 a1 "beanforge/core/Recipe" "factory" "Ljava/lang/Object;" .null) (F4 : Fld Z h0 a1 "beanforge/core/Recipe" "maker" "Lbeanforge/core/Preparation$Maker;" .null) (F5 : Fld Z h0 a1 "beanforge/core/Recipe" "type" "Ljava/lang/Class;" .null) (g1 : n0 ≤ a1) :
    MetFree l (⟨"beanforge/core/Recipe", "<init>", "()V"⟩ : MethodName) (head1 (Jvm.Cond.code (⟨"beanforge/core/Recipe", "<init>", "()V"⟩ : MethodName) prog_89_method_1_code 1 none :: ws) ({ frames := 4, cells := 1, slots := 3, locals := 50 } : Room)) (fun a U => a = #[(.ref a1)] ∧ Z.Warmed39 U.vm ∧ U.heap = h0) (fun _ _ _ _ _ => True) (fun _ U o U' => ∃ v L, o = .returned v ∧ Q1 Z a1 aE h0 n0 v U'.heap L ∧ FrameEnd U o U' L ({ frames := 4, cells := 1, slots := 3, locals := 50 } : Room).cells ({ frames := 4, cells := 1, slots := 3, locals := 50 } : Room).slots) := by
  refine MetFree.of_bodySF (plainFor_of_name pn_3) hisR ?_
  intro p e s m args below meth c s₁ Bd hml0 hP hK
  obtain ⟨rfl, hZ, hh⟩ := hP
  have hx := Bd.exec
  have hby := Bd.bytes
  have hml : c.maxLocals = 1 := hml0
  have hown : s.vm.findClass "beanforge/core/Recipe" = some m.cls := findClass_of_methodNamed Bd.named
  have hnm := (name_of_methodNamed Bd.named Bd.method).1
  have X0 : Stand p l e ({ frames := 4, cells := 1, slots := 3, locals := 50 } : Room) s m #[(.ref a1)] below meth c s₁ [] 0 0 := Stand.of_body Bd
  have e0 : s₁.heap = h0 := by rw [← hh, Bd.state]; rfl
  have N0 := Fr.nil n0
  have Z0 : n0 ≤ h0.size := O0.1 ▸ O0.2.1
  have K0 : Keep h0 h0 [a1] := Keep.refl _ _
  have pre0 : ∀ t, Steps p.tables e below (s₁.setTop (mkF m 0 #[.val (.ref a1)] [])) t → Steps p.tables e below (s₁.setTop (entryFrame m #[(.ref a1)] 1)) t := fun t k => castTop (ef_1 m a1) k
  have pre1 : ∀ t, Steps p.tables e below (s₁.setTop (mkF m 1 #[.val (.ref a1)] [(.ref a1)])) t → Steps p.tables e below (s₁.setTop (entryFrame m #[(.ref a1)] 1)) t := fun t kt => by
    refine pre0 _ ?_
    show Steps p.tables e below (s₁.setTop (mkF m 0 #[.val (.ref a1)] [])) _
    refine XS.aloadN X0.here hx rfl (hb hby d1_0) rfl rfl ?_
    exact kt
  obtain ⟨T2, X2, e2, st2⟩ := initO X0 hx hZ hown (hw _ (List.mem_of_getElem? (i := 6) rfl)) (hw _ (List.mem_of_getElem? (i := 7) rfl)) (hw _ (List.mem_of_getElem? (i := 8) rfl)) e0 (g := (mkF m 1 #[.val (.ref a1)] [(.ref a1)])) rfl (by rw [hml]; rfl) rfl (hb hby d1_1) (by decide) (W := 0) (by show 2 * 0 + _ ≤ _; exact Nat.le_of_eq rfl) (by decide)
  have pre3 : ∀ t, Steps p.tables e below (T2.setTop (mkF m 4 #[.val (.ref a1)] [])) t → Steps p.tables e below (s₁.setTop (entryFrame m #[(.ref a1)] 1)) t := fun t kt => pre1 _ (st2 _ kt)
  have pre4 : ∀ t, Steps p.tables e below (T2.setTop (mkF m 5 #[.val (.ref a1)] [(.ref a1)])) t → Steps p.tables e below (s₁.setTop (entryFrame m #[(.ref a1)] 1)) t := fun t kt => by
    refine pre3 _ ?_
    show Steps p.tables e below (T2.setTop (mkF m 4 #[.val (.ref a1)] [])) _
    refine XS.aloadN X2.here hx rfl (hb hby d1_4) rfl rfl ?_
    exact kt
  obtain ⟨T5, h5, X5, e5, E5, A5, D5, -, st5⟩ := newO X2 hx hZ hown (hw _ (List.mem_of_getElem? (i := 9) rfl)) (hw _ (List.mem_of_getElem? (i := 10) rfl)) (hw _ (List.mem_of_getElem? (i := 11) rfl)) e2 (g := (mkF m 5 #[.val (.ref a1)] [(.ref a1)])) rfl (hb hby d1_5) (by decide) (by decide)
  obtain ⟨b5, gq5⟩ : ∃ z, z = h0.size := ⟨_, rfl⟩
  rw [← gq5] at A5 D5 st5
  have gg_b5 : n0 ≤ b5 := Nat.le_trans Z0 (Nat.le_of_eq gq5.symm)
  have sz_b5 : h0.size ≤ b5 := Nat.le_trans K0.1 (Nat.le_of_eq gq5.symm)
  have F5_modCount : Fld Z h5 b5 "java/util/AbstractList" "modCount" "I" (.int (0 : Int32)) := D5 (Or.inl (hw _ (List.mem_of_getElem? (i := 29) rfl))) (ty := .int) (by decide)
  have F5_elementData : Fld Z h5 b5 "java/util/ArrayList" "elementData" "[Ljava/lang/Object;" .null := D5 (Or.inl (hw _ (List.mem_of_getElem? (i := 32) rfl))) (ty := (.array (.object "java/lang/Object"))) (by decide)
  have F5_size : Fld Z h5 b5 "java/util/ArrayList" "size" "I" (.int (0 : Int32)) := D5 (Or.inl (hw _ (List.mem_of_getElem? (i := 99) rfl))) (ty := .int) (by decide)
  have pre6 : ∀ t, Steps p.tables e below (T5.setTop (mkF m 8 #[.val (.ref a1)] [(.ref b5), (.ref a1)])) t → Steps p.tables e below (s₁.setTop (entryFrame m #[(.ref a1)] 1)) t := fun t kt => pre4 _ (st5 _ kt)
  have o7 : Old Z n0 h5 := (O0.ext E5)
  have pre8 : ∀ t, Steps p.tables e below (T5.setTop (mkF m 9 #[.val (.ref a1)] [(.ref b5), (.ref b5), (.ref a1)])) t → Steps p.tables e below (s₁.setTop (entryFrame m #[(.ref a1)] 1)) t := fun t kt => by
    refine pre6 _ ?_
    show Steps p.tables e below (T5.setTop (mkF m 8 #[.val (.ref a1)] [(.ref b5), (.ref a1)])) _
    refine XS.dup X5.here hx rfl (hb hby d1_8) rfl rfl ?_
    exact kt
  obtain ⟨_, _, ⟨T9, L9, kc9, nc9⟩, -, X9, ⟨Lc9, hQ9, l9, y9, z9⟩, st9⟩ := X5.specialBack hx (y := (⟨"java/util/ArrayList", "<init>", "()V"⟩ : MethodName)) rfl hown (mvT hZ (hw _ (List.mem_of_getElem? (i := 12) rfl))) (mvT hZ (hw _ (List.mem_of_getElem? (i := 13) rfl))) (mvT hZ (hw _ (List.mem_of_getElem? (i := 14) rfl))) (by decide) (backOf (W := 2) (rm3 l Z a0 hw [] b5 aE h5 n0 o7 SE A5 F5_modCount F5_elementData F5_size gg_b5) hZ (hw _ (List.mem_of_getElem? (i := 14) rfl)) (hw _ (List.mem_of_getElem? (i := 11) rfl)) (by decide) (by decide)) (g := (mkF m 9 #[.val (.ref a1)] [(.ref b5), (.ref b5), (.ref a1)])) rfl (by rw [hml]; rfl) (Steps.refl _) (a := b5) (argsL := []) (rest := [(.ref b5), (.ref a1)]) (lenOf pd_0 rfl) rfl (by show 2 * 0 + _ ≤ _; exact Nat.le_of_eq rfl) (hb hby d1_9) (fun _ _ => ⟨rfl, e5, (by decide : 1 + 0 ≤ _), (by decide : 3 + 0 ≤ _)⟩)
  dsimp only [Pt.U, Pt.locs, Pt.cells, Pt.slots] at X9 l9 y9 z9 st9 hQ9
  subst l9 y9 z9
  obtain ⟨rfl, N9q, K9, Fm9, Fe9, Fs9⟩ := hQ9
  have N9 := Fr.app N0 N9q
  have pre10 : ∀ t, Steps p.tables e below (T9.setTop (mkF m 12 #[.val (.ref a1)] [(.ref b5), (.ref a1)])) t → Steps p.tables e below (s₁.setTop (entryFrame m #[(.ref a1)] 1)) t := fun t kt => pre8 _ (st9.trans kt)
  have f11 := ((F0.ext E5).keep K9 (ninS (Nat.ne_of_lt (Nat.lt_of_lt_of_le E1.lt (Nat.le_of_eq gq5.symm))) nin0))
  have f12 := ((E1.ext E5).keep K9)
  obtain ⟨T13, h13, X13, e13, W13, st13⟩ := putF X9 hx hZ hown (host := "") (Or.inl (hw _ (List.mem_of_getElem? (i := 33) rfl))) Via.refl rfl f11 f12 (Or.inr ⟨(hw _ (List.mem_of_getElem? (i := 34) rfl)), rfl, hnm⟩) (hw _ (List.mem_of_getElem? (i := 1) rfl)) (ty := (.object "java/util/List")) (by decide) rfl rfl (g := (mkF m 12 #[.val (.ref a1)] [(.ref b5), (.ref a1)])) rfl rfl (hb hby d1_12)
  have Fw13 := f11.same W13
  have N13 := Fr.snoc X13 N9 g1
  have pre14 : ∀ t, Steps p.tables e below (T13.setTop (mkF m 15 #[.val (.ref a1)] [])) t → Steps p.tables e below (s₁.setTop (entryFrame m #[(.ref a1)] 1)) t := fun t kt => pre10 _ (st13 _ kt)
  have k15 : Keep h0 h13 [a1] := (((K0.ext E5).trans K9 (allS (Or.inr sz_b5) all0)).wr W13 (Or.inl (List.mem_of_getElem? (i := 0) rfl)))
  have f16 := (((F1.ext E5).keep K9 (ninS (Nat.ne_of_lt (Nat.lt_of_lt_of_le E1.lt (Nat.le_of_eq gq5.symm))) nin0)).other W13 (Or.inr (slot_ne (Or.inl (hw _ (List.mem_of_getElem? (i := 66) rfl))) (Or.inr (hw _ (List.mem_of_getElem? (i := 34) rfl))) (by decide) (t := (.object "beanforge/core/Overloads$Chosen")) (t' := (.object "java/util/List")) (by decide) (by decide))))
  have f17 := (((F2.ext E5).keep K9 (ninS (Nat.ne_of_lt (Nat.lt_of_lt_of_le E1.lt (Nat.le_of_eq gq5.symm))) nin0)).other W13 (Or.inr (slot_ne (Or.inl (hw _ (List.mem_of_getElem? (i := 127) rfl))) (Or.inr (hw _ (List.mem_of_getElem? (i := 34) rfl))) (by decide) (t := (.object "beanforge/core/Preparation$Place")) (t' := (.object "java/util/List")) (by decide) (by decide))))
  have f18 := (((F3.ext E5).keep K9 (ninS (Nat.ne_of_lt (Nat.lt_of_lt_of_le E1.lt (Nat.le_of_eq gq5.symm))) nin0)).other W13 (Or.inr (slot_ne (Or.inl (hw _ (List.mem_of_getElem? (i := 129) rfl))) (Or.inr (hw _ (List.mem_of_getElem? (i := 34) rfl))) (by decide) (t := (.object "java/lang/Object")) (t' := (.object "java/util/List")) (by decide) (by decide))))
  have f19 := (((F4.ext E5).keep K9 (ninS (Nat.ne_of_lt (Nat.lt_of_lt_of_le E1.lt (Nat.le_of_eq gq5.symm))) nin0)).other W13 (Or.inr (slot_ne (Or.inl (hw _ (List.mem_of_getElem? (i := 131) rfl))) (Or.inr (hw _ (List.mem_of_getElem? (i := 34) rfl))) (by decide) (t := (.object "beanforge/core/Preparation$Maker")) (t' := (.object "java/util/List")) (by decide) (by decide))))
  have f20 := (((F5.ext E5).keep K9 (ninS (Nat.ne_of_lt (Nat.lt_of_lt_of_le E1.lt (Nat.le_of_eq gq5.symm))) nin0)).other W13 (Or.inr (slot_ne (Or.inl (hw _ (List.mem_of_getElem? (i := 139) rfl))) (Or.inr (hw _ (List.mem_of_getElem? (i := 34) rfl))) (by decide) (t := (.object "java/lang/Class")) (t' := (.object "java/util/List")) (by decide) (by decide))))
  have f21 := ((A5.keep K9).wr W13)
  have f22 := (Fm9.other W13 (Or.inl (Ne.symm (Nat.ne_of_lt (Nat.lt_of_lt_of_le E1.lt (Nat.le_of_eq gq5.symm))))))
  have f23 := (Fs9.other W13 (Or.inl (Ne.symm (Nat.ne_of_lt (Nat.lt_of_lt_of_le E1.lt (Nat.le_of_eq gq5.symm))))))
  have f24 := (Fe9.other W13 (Or.inl (Ne.symm (Nat.ne_of_lt (Nat.lt_of_lt_of_le E1.lt (Nat.le_of_eq gq5.symm))))))
  obtain ⟨fs, hr, hrun, hended, hW, hsame⟩ := X13.leave (v := none) (fun _ => rfl)
  refine ⟨_, _, pre14 _ ?_, hrun, hended, _, _, rfl, ?_, ⟨_, rfl⟩, hW, hsame.mono (by decide) (by decide)⟩
  · show Steps p.tables e below (T13.setTop (mkF m 15 #[.val (.ref a1)] [])) _
    exact X13.returnOut hx Bd.returns (hb hby d1_15) hr
  · show Q1 Z a1 aE h0 n0 _ T13.heap _
    rw [e13]
    exact ⟨rfl, N13, k15, by rw [← gq5]; exact Fw13, f16, f17, f18, f19, f20, by rw [← gq5]; exact ⟨f21, ⟨_, f22⟩, f23, gg_b5, Or.inl ⟨rfl, f24⟩⟩⟩
theorem pn_4 : plainName "java/lang/Record" = true := by first | (simp [plainName, overriddenIn]; done) | decide +kernel
theorem ef_7 (m : MethodId) (a1 : Addr) : entryFrame m #[(.ref a1)] 1 = (mkF m 0 #[.val (.ref a1)] []) := by first | (simp [entryFrame, mkF, argsToLocals, Value.category]; done) | rfl
theorem d7_0 : decode jdk_30_method_1_code 0 = .ok (.aload_n 0, 1) := by decide +kernel
theorem d7_1 : decode jdk_30_method_1_code 1 = .ok (.invokespecial 1, 3) := by decide +kernel
theorem d7_4 : decode jdk_30_method_1_code 4 = .ok (.return_, 1) := by decide +kernel
def Q7 (Z : State) (a1 : Addr) (h0 : Heap) (n0 : Nat) (v : Option Value) (h : Heap) (L : List Loc) : Prop := v = none ∧ Fr n0 L ∧ h = h0
set_option maxRecDepth 65536 in
set_option maxHeartbeats 40000000 in
theorem rm7 (l : Launch) (Z : State) (a0 : Array Value) (hw : ∀ d ∈ tables_1, d.before a0 Z = true) (ws : List Jvm.Cond) (a1 : Addr) (h0 : Heap) (n0 : Nat) (Z0 : n0 ≤ h0.size) :
    MetFree l (⟨"java/lang/Record", "<init>", "()V"⟩ : MethodName) (head1 (Jvm.Cond.code (⟨"java/lang/Record", "<init>", "()V"⟩ : MethodName) jdk_30_method_1_code 1 none :: ws) ({ frames := 1, cells := 0, slots := 0, locals := 12 } : Room)) (fun a U => a = #[(.ref a1)] ∧ Z.Warmed39 U.vm ∧ U.heap = h0) (fun _ _ _ _ _ => True) (fun _ U o U' => ∃ v L, o = .returned v ∧ Q7 Z a1 h0 n0 v U'.heap L ∧ FrameEnd U o U' L ({ frames := 1, cells := 0, slots := 0, locals := 12 } : Room).cells ({ frames := 1, cells := 0, slots := 0, locals := 12 } : Room).slots) := by
  refine MetFree.of_bodySF (plainFor_of_name pn_4) hisR ?_
  intro p e s m args below meth c s₁ Bd hml0 hP hK
  obtain ⟨rfl, hZ, hh⟩ := hP
  have hx := Bd.exec
  have hby := Bd.bytes
  have hml : c.maxLocals = 1 := hml0
  have hown : s.vm.findClass "java/lang/Record" = some m.cls := findClass_of_methodNamed Bd.named
  have hnm := (name_of_methodNamed Bd.named Bd.method).1
  have X0 : Stand p l e ({ frames := 1, cells := 0, slots := 0, locals := 12 } : Room) s m #[(.ref a1)] below meth c s₁ [] 0 0 := Stand.of_body Bd
  have e0 : s₁.heap = h0 := by rw [← hh, Bd.state]; rfl
  have N0 := Fr.nil n0
  have pre0 : ∀ t, Steps p.tables e below (s₁.setTop (mkF m 0 #[.val (.ref a1)] [])) t → Steps p.tables e below (s₁.setTop (entryFrame m #[(.ref a1)] 1)) t := fun t k => castTop (ef_7 m a1) k
  have pre1 : ∀ t, Steps p.tables e below (s₁.setTop (mkF m 1 #[.val (.ref a1)] [(.ref a1)])) t → Steps p.tables e below (s₁.setTop (entryFrame m #[(.ref a1)] 1)) t := fun t kt => by
    refine pre0 _ ?_
    show Steps p.tables e below (s₁.setTop (mkF m 0 #[.val (.ref a1)] [])) _
    refine XS.aloadN X0.here hx rfl (hb hby d7_0) rfl rfl ?_
    exact kt
  obtain ⟨T2, X2, e2, st2⟩ := initO X0 hx hZ hown (hw _ (List.mem_of_getElem? (i := 48) rfl)) (hw _ (List.mem_of_getElem? (i := 7) rfl)) (hw _ (List.mem_of_getElem? (i := 8) rfl)) e0 (g := (mkF m 1 #[.val (.ref a1)] [(.ref a1)])) rfl (by rw [hml]; rfl) rfl (hb hby d7_1) (by decide) (W := 0) (by show 2 * 0 + _ ≤ _; exact Nat.le_of_eq rfl) (by decide)
  have pre3 : ∀ t, Steps p.tables e below (T2.setTop (mkF m 4 #[.val (.ref a1)] [])) t → Steps p.tables e below (s₁.setTop (entryFrame m #[(.ref a1)] 1)) t := fun t kt => pre1 _ (st2 _ kt)
  obtain ⟨fs, hr, hrun, hended, hW, hsame⟩ := X2.leave (v := none) (fun _ => rfl)
  refine ⟨_, _, pre3 _ ?_, hrun, hended, _, _, rfl, ?_, ⟨_, rfl⟩, hW, hsame.mono (by decide) (by decide)⟩
  · show Steps p.tables e below (T2.setTop (mkF m 4 #[.val (.ref a1)] [])) _
    exact X2.returnOut hx Bd.returns (hb hby d7_4) hr
  · show Q7 Z a1 h0 n0 _ T2.heap _
    rw [e2]
    exact ⟨rfl, N0, rfl⟩
theorem pn_5 : plainName "beanforge/core/Overloads$Chosen" = true := by first | (simp [plainName, overriddenIn]; done) | decide +kernel
theorem ef_6 (m : MethodId) (a1 : Addr) (a3 : Addr) : entryFrame m #[(.ref a1), .null, (.ref a3)] 3 = (mkF m 0 #[.val (.ref a1), .val .null, .val (.ref a3)] []) := by first | (simp [entryFrame, mkF, argsToLocals, Value.category]; done) | rfl
theorem d6_0 : decode prog_75_method_1_code 0 = .ok (.aload_n 0, 1) := by decide +kernel
theorem d6_1 : decode prog_75_method_1_code 1 = .ok (.invokespecial 1, 3) := by decide +kernel
theorem d6_4 : decode prog_75_method_1_code 4 = .ok (.aload_n 0, 1) := by decide +kernel
theorem d6_5 : decode prog_75_method_1_code 5 = .ok (.aload_n 1, 1) := by decide +kernel
theorem d6_6 : decode prog_75_method_1_code 6 = .ok (.putfield 7, 3) := by decide +kernel
theorem d6_9 : decode prog_75_method_1_code 9 = .ok (.aload_n 0, 1) := by decide +kernel
theorem d6_10 : decode prog_75_method_1_code 10 = .ok (.aload_n 2, 1) := by decide +kernel
theorem d6_11 : decode prog_75_method_1_code 11 = .ok (.putfield 13, 3) := by decide +kernel
theorem d6_14 : decode prog_75_method_1_code 14 = .ok (.return_, 1) := by decide +kernel
def Q6 (Z : State) (a1 : Addr) (a3 : Addr) (h0 : Heap) (n0 : Nat) (v : Option Value) (h : Heap) (L : List Loc) : Prop := v = none ∧ Fr n0 L ∧ Keep h0 h [a1]
set_option maxRecDepth 65536 in
set_option maxHeartbeats 40000000 in
theorem rm6 (l : Launch) (Z : State) (a0 : Array Value) (hw : ∀ d ∈ tables_1, d.before a0 Z = true) (ws : List Jvm.Cond) (a1 : Addr) (a3 : Addr) (h0 : Heap) (n0 : Nat) (Z0 : n0 ≤ h0.size) (E1 : Exa Z h0 a1 "beanforge/core/Overloads$Chosen") (F1 : Fld Z h0 a1 "beanforge/core/Overloads$Chosen" "executable" "Ljava/lang/reflect/Executable;" .null) (F2 : Fld Z h0 a1 "beanforge/core/Overloads$Chosen" "arguments" "[Ljava/lang/Object;" .null) (g1 : n0 ≤ a1) :
    MetFree l (⟨"beanforge/core/Overloads$Chosen", "<init>", "(Ljava/lang/reflect/Executable;[Ljava/lang/Object;)V"⟩ : MethodName) (head1 (Jvm.Cond.code (⟨"beanforge/core/Overloads$Chosen", "<init>", "(Ljava/lang/reflect/Executable;[Ljava/lang/Object;)V"⟩ : MethodName) prog_75_method_1_code 3 none :: ws) ({ frames := 2, cells := 0, slots := 0, locals := 24 } : Room)) (fun a U => a = #[(.ref a1), .null, (.ref a3)] ∧ Z.Warmed39 U.vm ∧ U.heap = h0) (fun _ _ _ _ _ => True) (fun _ U o U' => ∃ v L, o = .returned v ∧ Q6 Z a1 a3 h0 n0 v U'.heap L ∧ FrameEnd U o U' L ({ frames := 2, cells := 0, slots := 0, locals := 24 } : Room).cells ({ frames := 2, cells := 0, slots := 0, locals := 24 } : Room).slots) := by
  refine MetFree.of_bodySF (plainFor_of_name pn_5) hisR ?_
  intro p e s m args below meth c s₁ Bd hml0 hP hK
  obtain ⟨rfl, hZ, hh⟩ := hP
  have hx := Bd.exec
  have hby := Bd.bytes
  have hml : c.maxLocals = 3 := hml0
  have hown : s.vm.findClass "beanforge/core/Overloads$Chosen" = some m.cls := findClass_of_methodNamed Bd.named
  have hnm := (name_of_methodNamed Bd.named Bd.method).1
  have X0 : Stand p l e ({ frames := 2, cells := 0, slots := 0, locals := 24 } : Room) s m #[(.ref a1), .null, (.ref a3)] below meth c s₁ [] 0 0 := Stand.of_body Bd
  have e0 : s₁.heap = h0 := by rw [← hh, Bd.state]; rfl
  have N0 := Fr.nil n0
  have K0 : Keep h0 h0 [a1] := Keep.refl _ _
  have pre0 : ∀ t, Steps p.tables e below (s₁.setTop (mkF m 0 #[.val (.ref a1), .val .null, .val (.ref a3)] [])) t → Steps p.tables e below (s₁.setTop (entryFrame m #[(.ref a1), .null, (.ref a3)] 3)) t := fun t k => castTop (ef_6 m a1 a3) k
  have pre1 : ∀ t, Steps p.tables e below (s₁.setTop (mkF m 1 #[.val (.ref a1), .val .null, .val (.ref a3)] [(.ref a1)])) t → Steps p.tables e below (s₁.setTop (entryFrame m #[(.ref a1), .null, (.ref a3)] 3)) t := fun t kt => by
    refine pre0 _ ?_
    show Steps p.tables e below (s₁.setTop (mkF m 0 #[.val (.ref a1), .val .null, .val (.ref a3)] [])) _
    refine XS.aloadN X0.here hx rfl (hb hby d6_0) rfl rfl ?_
    exact kt
  obtain ⟨_, _, ⟨T2, L2, kc2, nc2⟩, -, X2, ⟨Lc2, hQ2, l2, y2, z2⟩, st2⟩ := X0.specialBack hx (y := (⟨"java/lang/Record", "<init>", "()V"⟩ : MethodName)) rfl hown (mvT hZ (hw _ (List.mem_of_getElem? (i := 43) rfl))) (mvT hZ (hw _ (List.mem_of_getElem? (i := 44) rfl))) (mvT hZ (hw _ (List.mem_of_getElem? (i := 47) rfl))) (by decide) (backOf (W := 0) (rm7 l Z a0 hw [] a1 h0 n0 Z0) hZ (hw _ (List.mem_of_getElem? (i := 47) rfl)) (hw _ (List.mem_of_getElem? (i := 46) rfl)) (by decide) (by decide)) (g := (mkF m 1 #[.val (.ref a1), .val .null, .val (.ref a3)] [(.ref a1)])) rfl (by rw [hml]; rfl) (Steps.refl _) (a := a1) (argsL := []) (rest := []) (lenOf pd_0 rfl) rfl (by show 2 * 0 + _ ≤ _; exact Nat.le_of_eq rfl) (hb hby d6_1) (fun _ _ => ⟨rfl, e0, (by decide : 0 + 0 ≤ _), (by decide : 0 + 0 ≤ _)⟩)
  dsimp only [Pt.U, Pt.locs, Pt.cells, Pt.slots] at X2 l2 y2 z2 st2 hQ2
  subst l2 y2 z2
  obtain ⟨rfl, N2q, he2⟩ := hQ2
  have N2 := Fr.app N0 N2q
  have pre3 : ∀ t, Steps p.tables e below (T2.setTop (mkF m 4 #[.val (.ref a1), .val .null, .val (.ref a3)] [])) t → Steps p.tables e below (s₁.setTop (entryFrame m #[(.ref a1), .null, (.ref a3)] 3)) t := fun t kt => pre1 _ (st2.trans kt)
  have pre4 : ∀ t, Steps p.tables e below (T2.setTop (mkF m 6 #[.val (.ref a1), .val .null, .val (.ref a3)] [.null, (.ref a1)])) t → Steps p.tables e below (s₁.setTop (entryFrame m #[(.ref a1), .null, (.ref a3)] 3)) t := fun t kt => by
    refine pre3 _ ?_
    show Steps p.tables e below (T2.setTop (mkF m 4 #[.val (.ref a1), .val .null, .val (.ref a3)] [])) _
    refine XS.aloadN X2.here hx rfl (hb hby d6_4) rfl rfl ?_
    show Steps p.tables e below (T2.setTop (mkF m 5 #[.val (.ref a1), .val .null, .val (.ref a3)] [(.ref a1)])) _
    refine XS.aloadN X2.here hx rfl (hb hby d6_5) rfl rfl ?_
    exact kt
  obtain ⟨T5, h5, X5, e5, W5, st5⟩ := putF X2 hx hZ hown (host := "") (Or.inl (hw _ (List.mem_of_getElem? (i := 49) rfl))) Via.refl he2 F1 E1 (Or.inr ⟨(hw _ (List.mem_of_getElem? (i := 50) rfl)), rfl, hnm⟩) (hw _ (List.mem_of_getElem? (i := 36) rfl)) (ty := (.object "java/lang/reflect/Executable")) (by decide) rfl rfl (g := (mkF m 6 #[.val (.ref a1), .val .null, .val (.ref a3)] [.null, (.ref a1)])) rfl rfl (hb hby d6_6)
  have Fw5 := F1.same W5
  have N5 := Fr.snoc X5 N2 g1
  have pre6 : ∀ t, Steps p.tables e below (T5.setTop (mkF m 9 #[.val (.ref a1), .val .null, .val (.ref a3)] [])) t → Steps p.tables e below (s₁.setTop (entryFrame m #[(.ref a1), .null, (.ref a3)] 3)) t := fun t kt => pre4 _ (st5 _ kt)
  have f7 := (F2.other W5 (Or.inr (slot_ne (Or.inr (hw _ (List.mem_of_getElem? (i := 52) rfl))) (Or.inr (hw _ (List.mem_of_getElem? (i := 50) rfl))) (by decide) (t := (.array (.object "java/lang/Object"))) (t' := (.object "java/lang/reflect/Executable")) (by decide) (by decide))))
  have f8 := (E1.wr W5)
  have pre9 : ∀ t, Steps p.tables e below (T5.setTop (mkF m 11 #[.val (.ref a1), .val .null, .val (.ref a3)] [(.ref a3), (.ref a1)])) t → Steps p.tables e below (s₁.setTop (entryFrame m #[(.ref a1), .null, (.ref a3)] 3)) t := fun t kt => by
    refine pre6 _ ?_
    show Steps p.tables e below (T5.setTop (mkF m 9 #[.val (.ref a1), .val .null, .val (.ref a3)] [])) _
    refine XS.aloadN X5.here hx rfl (hb hby d6_9) rfl rfl ?_
    show Steps p.tables e below (T5.setTop (mkF m 10 #[.val (.ref a1), .val .null, .val (.ref a3)] [(.ref a1)])) _
    refine XS.aloadN X5.here hx rfl (hb hby d6_10) rfl rfl ?_
    exact kt
  obtain ⟨T10, h10, X10, e10, W10, st10⟩ := putF X5 hx hZ hown (host := "") (Or.inl (hw _ (List.mem_of_getElem? (i := 51) rfl))) Via.refl e5 f7 f8 (Or.inr ⟨(hw _ (List.mem_of_getElem? (i := 52) rfl)), rfl, hnm⟩) (hw _ (List.mem_of_getElem? (i := 36) rfl)) (ty := (.array (.object "java/lang/Object"))) (by decide) rfl rfl (g := (mkF m 11 #[.val (.ref a1), .val .null, .val (.ref a3)] [(.ref a3), (.ref a1)])) rfl rfl (hb hby d6_11)
  have Fw10 := f7.same W10
  have N10 := Fr.snoc X10 N5 g1
  have pre11 : ∀ t, Steps p.tables e below (T10.setTop (mkF m 14 #[.val (.ref a1), .val .null, .val (.ref a3)] [])) t → Steps p.tables e below (s₁.setTop (entryFrame m #[(.ref a1), .null, (.ref a3)] 3)) t := fun t kt => pre9 _ (st10 _ kt)
  have k12 : Keep h0 h10 [a1] := ((K0.wr W5 (Or.inl (List.mem_of_getElem? (i := 0) rfl))).wr W10 (Or.inl (List.mem_of_getElem? (i := 0) rfl)))
  obtain ⟨fs, hr, hrun, hended, hW, hsame⟩ := X10.leave (v := none) (fun _ => rfl)
  refine ⟨_, _, pre11 _ ?_, hrun, hended, _, _, rfl, ?_, ⟨_, rfl⟩, hW, hsame.mono (by decide) (by decide)⟩
  · show Steps p.tables e below (T10.setTop (mkF m 14 #[.val (.ref a1), .val .null, .val (.ref a3)] [])) _
    exact X10.returnOut hx Bd.returns (hb hby d6_14) hr
  · show Q6 Z a1 a3 h0 n0 _ T10.heap _
    rw [e10]
    exact ⟨rfl, N10, k12⟩
theorem pn_6 : plainName "beanforge/core/Recipe$Call" = true := by first | (simp [plainName, overriddenIn]; done) | decide +kernel
theorem ef_12 (m : MethodId) (a1 : Addr) (u : Value) (h_u : u.isRef = true) : entryFrame m #[(.ref a1), .null, u] 3 = (mkF m 0 #[.val (.ref a1), .val .null, .val u] []) := by rcases ref_cases h_u with rfl | ⟨_, rfl⟩ <;> first | (simp [entryFrame, mkF, argsToLocals, Value.category]; done) | rfl
theorem d12_0 : decode prog_90_method_1_code 0 = .ok (.aload_n 0, 1) := by decide +kernel
theorem d12_1 : decode prog_90_method_1_code 1 = .ok (.invokespecial 1, 3) := by decide +kernel
theorem d12_4 : decode prog_90_method_1_code 4 = .ok (.aload_n 0, 1) := by decide +kernel
theorem d12_5 : decode prog_90_method_1_code 5 = .ok (.aload_n 1, 1) := by decide +kernel
theorem d12_6 : decode prog_90_method_1_code 6 = .ok (.putfield 7, 3) := by decide +kernel
theorem d12_9 : decode prog_90_method_1_code 9 = .ok (.aload_n 0, 1) := by decide +kernel
theorem d12_10 : decode prog_90_method_1_code 10 = .ok (.aload_n 2, 1) := by decide +kernel
theorem d12_11 : decode prog_90_method_1_code 11 = .ok (.putfield 13, 3) := by decide +kernel
theorem d12_14 : decode prog_90_method_1_code 14 = .ok (.return_, 1) := by decide +kernel
def Q12 (Z : State) (a1 : Addr) (u : Value) (h0 : Heap) (n0 : Nat) (v : Option Value) (h : Heap) (L : List Loc) : Prop := v = none ∧ Fr n0 L ∧ Keep h0 h [a1]
set_option maxRecDepth 65536 in
set_option maxHeartbeats 40000000 in
theorem rm12 (l : Launch) (Z : State) (a0 : Array Value) (hw : ∀ d ∈ tables_1, d.before a0 Z = true) (ws : List Jvm.Cond) (a1 : Addr) (u : Value) (h0 : Heap) (n0 : Nat) (Z0 : n0 ≤ h0.size) (hu : u.isRef = true) (E1 : Exa Z h0 a1 "beanforge/core/Recipe$Call") (F1 : Fld Z h0 a1 "beanforge/core/Recipe$Call" "place" "Lbeanforge/core/Preparation$Place;" .null) (F2 : Fld Z h0 a1 "beanforge/core/Recipe$Call" "chosen" "Lbeanforge/core/Overloads$Chosen;" .null) (g1 : n0 ≤ a1) :
    MetFree l (⟨"beanforge/core/Recipe$Call", "<init>", "(Lbeanforge/core/Preparation$Place;Lbeanforge/core/Overloads$Chosen;)V"⟩ : MethodName) (head1 (Jvm.Cond.code (⟨"beanforge/core/Recipe$Call", "<init>", "(Lbeanforge/core/Preparation$Place;Lbeanforge/core/Overloads$Chosen;)V"⟩ : MethodName) prog_90_method_1_code 3 none :: ws) ({ frames := 2, cells := 0, slots := 0, locals := 24 } : Room)) (fun a U => a = #[(.ref a1), .null, u] ∧ Z.Warmed39 U.vm ∧ U.heap = h0) (fun _ _ _ _ _ => True) (fun _ U o U' => ∃ v L, o = .returned v ∧ Q12 Z a1 u h0 n0 v U'.heap L ∧ FrameEnd U o U' L ({ frames := 2, cells := 0, slots := 0, locals := 24 } : Room).cells ({ frames := 2, cells := 0, slots := 0, locals := 24 } : Room).slots) := by
  refine MetFree.of_bodySF (plainFor_of_name pn_6) hisR ?_
  intro p e s m args below meth c s₁ Bd hml0 hP hK
  obtain ⟨rfl, hZ, hh⟩ := hP
  have hx := Bd.exec
  have hby := Bd.bytes
  have hml : c.maxLocals = 3 := hml0
  have hown : s.vm.findClass "beanforge/core/Recipe$Call" = some m.cls := findClass_of_methodNamed Bd.named
  have hnm := (name_of_methodNamed Bd.named Bd.method).1
  have X0 : Stand p l e ({ frames := 2, cells := 0, slots := 0, locals := 24 } : Room) s m #[(.ref a1), .null, u] below meth c s₁ [] 0 0 := Stand.of_body Bd
  have e0 : s₁.heap = h0 := by rw [← hh, Bd.state]; rfl
  have N0 := Fr.nil n0
  have K0 : Keep h0 h0 [a1] := Keep.refl _ _
  have pre0 : ∀ t, Steps p.tables e below (s₁.setTop (mkF m 0 #[.val (.ref a1), .val .null, .val u] [])) t → Steps p.tables e below (s₁.setTop (entryFrame m #[(.ref a1), .null, u] 3)) t := fun t k => castTop (ef_12 m a1 u hu) k
  have pre1 : ∀ t, Steps p.tables e below (s₁.setTop (mkF m 1 #[.val (.ref a1), .val .null, .val u] [(.ref a1)])) t → Steps p.tables e below (s₁.setTop (entryFrame m #[(.ref a1), .null, u] 3)) t := fun t kt => by
    refine pre0 _ ?_
    show Steps p.tables e below (s₁.setTop (mkF m 0 #[.val (.ref a1), .val .null, .val u] [])) _
    refine XS.aloadN X0.here hx rfl (hb hby d12_0) rfl rfl ?_
    exact kt
  obtain ⟨_, _, ⟨T2, L2, kc2, nc2⟩, -, X2, ⟨Lc2, hQ2, l2, y2, z2⟩, st2⟩ := X0.specialBack hx (y := (⟨"java/lang/Record", "<init>", "()V"⟩ : MethodName)) rfl hown (mvT hZ (hw _ (List.mem_of_getElem? (i := 82) rfl))) (mvT hZ (hw _ (List.mem_of_getElem? (i := 44) rfl))) (mvT hZ (hw _ (List.mem_of_getElem? (i := 47) rfl))) (by decide) (backOf (W := 0) (rm7 l Z a0 hw [] a1 h0 n0 Z0) hZ (hw _ (List.mem_of_getElem? (i := 47) rfl)) (hw _ (List.mem_of_getElem? (i := 46) rfl)) (by decide) (by decide)) (g := (mkF m 1 #[.val (.ref a1), .val .null, .val u] [(.ref a1)])) rfl (by rw [hml]; rfl) (Steps.refl _) (a := a1) (argsL := []) (rest := []) (lenOf pd_0 rfl) rfl (by show 2 * 0 + _ ≤ _; exact Nat.le_of_eq rfl) (hb hby d12_1) (fun _ _ => ⟨rfl, e0, (by decide : 0 + 0 ≤ _), (by decide : 0 + 0 ≤ _)⟩)
  dsimp only [Pt.U, Pt.locs, Pt.cells, Pt.slots] at X2 l2 y2 z2 st2 hQ2
  subst l2 y2 z2
  obtain ⟨rfl, N2q, he2⟩ := hQ2
  have N2 := Fr.app N0 N2q
  have pre3 : ∀ t, Steps p.tables e below (T2.setTop (mkF m 4 #[.val (.ref a1), .val .null, .val u] [])) t → Steps p.tables e below (s₁.setTop (entryFrame m #[(.ref a1), .null, u] 3)) t := fun t kt => pre1 _ (st2.trans kt)
  have pre4 : ∀ t, Steps p.tables e below (T2.setTop (mkF m 6 #[.val (.ref a1), .val .null, .val u] [.null, (.ref a1)])) t → Steps p.tables e below (s₁.setTop (entryFrame m #[(.ref a1), .null, u] 3)) t := fun t kt => by
    refine pre3 _ ?_
    show Steps p.tables e below (T2.setTop (mkF m 4 #[.val (.ref a1), .val .null, .val u] [])) _
    refine XS.aloadN X2.here hx rfl (hb hby d12_4) rfl rfl ?_
    show Steps p.tables e below (T2.setTop (mkF m 5 #[.val (.ref a1), .val .null, .val u] [(.ref a1)])) _
    refine XS.aloadN X2.here hx rfl (hb hby d12_5) rfl rfl ?_
    exact kt
  obtain ⟨T5, h5, X5, e5, W5, st5⟩ := putF X2 hx hZ hown (host := "") (Or.inl (hw _ (List.mem_of_getElem? (i := 83) rfl))) Via.refl he2 F1 E1 (Or.inr ⟨(hw _ (List.mem_of_getElem? (i := 84) rfl)), rfl, hnm⟩) (hw _ (List.mem_of_getElem? (i := 77) rfl)) (ty := (.object "beanforge/core/Preparation$Place")) (by decide) rfl rfl (g := (mkF m 6 #[.val (.ref a1), .val .null, .val u] [.null, (.ref a1)])) rfl rfl (hb hby d12_6)
  have Fw5 := F1.same W5
  have N5 := Fr.snoc X5 N2 g1
  have pre6 : ∀ t, Steps p.tables e below (T5.setTop (mkF m 9 #[.val (.ref a1), .val .null, .val u] [])) t → Steps p.tables e below (s₁.setTop (entryFrame m #[(.ref a1), .null, u] 3)) t := fun t kt => pre4 _ (st5 _ kt)
  have f7 := (F2.other W5 (Or.inr (slot_ne (Or.inr (hw _ (List.mem_of_getElem? (i := 86) rfl))) (Or.inr (hw _ (List.mem_of_getElem? (i := 84) rfl))) (by decide) (t := (.object "beanforge/core/Overloads$Chosen")) (t' := (.object "beanforge/core/Preparation$Place")) (by decide) (by decide))))
  have f8 := (E1.wr W5)
  have pre9 : ∀ t, Steps p.tables e below (T5.setTop (mkF m 11 #[.val (.ref a1), .val .null, .val u] [u, (.ref a1)])) t → Steps p.tables e below (s₁.setTop (entryFrame m #[(.ref a1), .null, u] 3)) t := fun t kt => by
    refine pre6 _ ?_
    show Steps p.tables e below (T5.setTop (mkF m 9 #[.val (.ref a1), .val .null, .val u] [])) _
    refine XS.aloadN X5.here hx rfl (hb hby d12_9) rfl rfl ?_
    show Steps p.tables e below (T5.setTop (mkF m 10 #[.val (.ref a1), .val .null, .val u] [(.ref a1)])) _
    refine XS.aloadN X5.here hx rfl (hb hby d12_10) rfl hu ?_
    exact kt
  obtain ⟨T10, h10, X10, e10, W10, st10⟩ := putF X5 hx hZ hown (host := "") (Or.inl (hw _ (List.mem_of_getElem? (i := 85) rfl))) Via.refl e5 f7 f8 (Or.inr ⟨(hw _ (List.mem_of_getElem? (i := 86) rfl)), rfl, hnm⟩) (hw _ (List.mem_of_getElem? (i := 77) rfl)) (ty := (.object "beanforge/core/Overloads$Chosen")) (by decide) (own_nar hu) (own_fit hu) (g := (mkF m 11 #[.val (.ref a1), .val .null, .val u] [u, (.ref a1)])) rfl rfl (hb hby d12_11)
  have Fw10 := f7.same W10
  have N10 := Fr.snoc X10 N5 g1
  have pre11 : ∀ t, Steps p.tables e below (T10.setTop (mkF m 14 #[.val (.ref a1), .val .null, .val u] [])) t → Steps p.tables e below (s₁.setTop (entryFrame m #[(.ref a1), .null, u] 3)) t := fun t kt => pre9 _ (st10 _ kt)
  have k12 : Keep h0 h10 [a1] := ((K0.wr W5 (Or.inl (List.mem_of_getElem? (i := 0) rfl))).wr W10 (Or.inl (List.mem_of_getElem? (i := 0) rfl)))
  obtain ⟨fs, hr, hrun, hended, hW, hsame⟩ := X10.leave (v := none) (fun _ => rfl)
  refine ⟨_, _, pre11 _ ?_, hrun, hended, _, _, rfl, ?_, ⟨_, rfl⟩, hW, hsame.mono (by decide) (by decide)⟩
  · show Steps p.tables e below (T10.setTop (mkF m 14 #[.val (.ref a1), .val .null, .val u] [])) _
    exact X10.returnOut hx Bd.returns (hb hby d12_14) hr
  · show Q12 Z a1 u h0 n0 _ T10.heap _
    rw [e10]
    exact ⟨rfl, N10, k12⟩
theorem pn_7 : plainName "java/lang/Number" = true := by first | (simp [plainName, overriddenIn]; done) | decide +kernel
theorem ef_20 (m : MethodId) (a1 : Addr) : entryFrame m #[(.ref a1)] 1 = (mkF m 0 #[.val (.ref a1)] []) := by first | (simp [entryFrame, mkF, argsToLocals, Value.category]; done) | rfl
theorem d20_0 : decode jdk_18_method_1_code 0 = .ok (.aload_n 0, 1) := by decide +kernel
theorem d20_1 : decode jdk_18_method_1_code 1 = .ok (.invokespecial 1, 3) := by decide +kernel
theorem d20_4 : decode jdk_18_method_1_code 4 = .ok (.return_, 1) := by decide +kernel
def Q20 (Z : State) (a1 : Addr) (h0 : Heap) (n0 : Nat) (v : Option Value) (h : Heap) (L : List Loc) : Prop := v = none ∧ Fr n0 L ∧ h = h0
set_option maxRecDepth 65536 in
set_option maxHeartbeats 40000000 in
theorem rm20 (l : Launch) (Z : State) (a0 : Array Value) (hw : ∀ d ∈ tables_1, d.before a0 Z = true) (ws : List Jvm.Cond) (a1 : Addr) (h0 : Heap) (n0 : Nat) (Z0 : n0 ≤ h0.size) :
    MetFree l (⟨"java/lang/Number", "<init>", "()V"⟩ : MethodName) (head1 (Jvm.Cond.code (⟨"java/lang/Number", "<init>", "()V"⟩ : MethodName) jdk_18_method_1_code 1 none :: ws) ({ frames := 1, cells := 0, slots := 0, locals := 12 } : Room)) (fun a U => a = #[(.ref a1)] ∧ Z.Warmed39 U.vm ∧ U.heap = h0) (fun _ _ _ _ _ => True) (fun _ U o U' => ∃ v L, o = .returned v ∧ Q20 Z a1 h0 n0 v U'.heap L ∧ FrameEnd U o U' L ({ frames := 1, cells := 0, slots := 0, locals := 12 } : Room).cells ({ frames := 1, cells := 0, slots := 0, locals := 12 } : Room).slots) := by
  refine MetFree.of_bodySF (plainFor_of_name pn_7) hisR ?_
  intro p e s m args below meth c s₁ Bd hml0 hP hK
  obtain ⟨rfl, hZ, hh⟩ := hP
  have hx := Bd.exec
  have hby := Bd.bytes
  have hml : c.maxLocals = 1 := hml0
  have hown : s.vm.findClass "java/lang/Number" = some m.cls := findClass_of_methodNamed Bd.named
  have hnm := (name_of_methodNamed Bd.named Bd.method).1
  have X0 : Stand p l e ({ frames := 1, cells := 0, slots := 0, locals := 12 } : Room) s m #[(.ref a1)] below meth c s₁ [] 0 0 := Stand.of_body Bd
  have e0 : s₁.heap = h0 := by rw [← hh, Bd.state]; rfl
  have N0 := Fr.nil n0
  have pre0 : ∀ t, Steps p.tables e below (s₁.setTop (mkF m 0 #[.val (.ref a1)] [])) t → Steps p.tables e below (s₁.setTop (entryFrame m #[(.ref a1)] 1)) t := fun t k => castTop (ef_20 m a1) k
  have pre1 : ∀ t, Steps p.tables e below (s₁.setTop (mkF m 1 #[.val (.ref a1)] [(.ref a1)])) t → Steps p.tables e below (s₁.setTop (entryFrame m #[(.ref a1)] 1)) t := fun t kt => by
    refine pre0 _ ?_
    show Steps p.tables e below (s₁.setTop (mkF m 0 #[.val (.ref a1)] [])) _
    refine XS.aloadN X0.here hx rfl (hb hby d20_0) rfl rfl ?_
    exact kt
  obtain ⟨T2, X2, e2, st2⟩ := initO X0 hx hZ hown (hw _ (List.mem_of_getElem? (i := 151) rfl)) (hw _ (List.mem_of_getElem? (i := 7) rfl)) (hw _ (List.mem_of_getElem? (i := 8) rfl)) e0 (g := (mkF m 1 #[.val (.ref a1)] [(.ref a1)])) rfl (by rw [hml]; rfl) rfl (hb hby d20_1) (by decide) (W := 0) (by show 2 * 0 + _ ≤ _; exact Nat.le_of_eq rfl) (by decide)
  have pre3 : ∀ t, Steps p.tables e below (T2.setTop (mkF m 4 #[.val (.ref a1)] [])) t → Steps p.tables e below (s₁.setTop (entryFrame m #[(.ref a1)] 1)) t := fun t kt => pre1 _ (st2 _ kt)
  obtain ⟨fs, hr, hrun, hended, hW, hsame⟩ := X2.leave (v := none) (fun _ => rfl)
  refine ⟨_, _, pre3 _ ?_, hrun, hended, _, _, rfl, ?_, ⟨_, rfl⟩, hW, hsame.mono (by decide) (by decide)⟩
  · show Steps p.tables e below (T2.setTop (mkF m 4 #[.val (.ref a1)] [])) _
    exact X2.returnOut hx Bd.returns (hb hby d20_4) hr
  · show Q20 Z a1 h0 n0 _ T2.heap _
    rw [e2]
    exact ⟨rfl, N0, rfl⟩
theorem pn_8 : plainName "java/lang/Integer" = true := by first | (simp [plainName, overriddenIn]; done) | decide +kernel
theorem ef_19 (m : MethodId) (a1 : Addr) (p2 : Int32) : entryFrame m #[(.ref a1), (.int p2)] 2 = (mkF m 0 #[.val (.ref a1), .val (.int p2)] []) := by first | (simp [entryFrame, mkF, argsToLocals, Value.category]; done) | rfl
theorem d19_0 : decode jdk_33_method_23_code 0 = .ok (.aload_n 0, 1) := by decide +kernel
theorem d19_1 : decode jdk_33_method_23_code 1 = .ok (.invokespecial 202, 3) := by decide +kernel
theorem d19_4 : decode jdk_33_method_23_code 4 = .ok (.aload_n 0, 1) := by decide +kernel
theorem d19_5 : decode jdk_33_method_23_code 5 = .ok (.iload_n 1, 1) := by decide +kernel
theorem d19_6 : decode jdk_33_method_23_code 6 = .ok (.putfield 205, 3) := by decide +kernel
theorem d19_9 : decode jdk_33_method_23_code 9 = .ok (.return_, 1) := by decide +kernel
def Q19 (Z : State) (a1 : Addr) (p2 : Int32) (h0 : Heap) (n0 : Nat) (v : Option Value) (h : Heap) (L : List Loc) : Prop := v = none ∧ Fr n0 L ∧ Keep h0 h [a1]
set_option maxRecDepth 65536 in
set_option maxHeartbeats 40000000 in
theorem rm19 (l : Launch) (Z : State) (a0 : Array Value) (hw : ∀ d ∈ tables_1, d.before a0 Z = true) (ws : List Jvm.Cond) (a1 : Addr) (p2 : Int32) (h0 : Heap) (n0 : Nat) (Z0 : n0 ≤ h0.size) (E1 : Exa Z h0 a1 "java/lang/Integer") (F1 : Fld Z h0 a1 "java/lang/Integer" "value" "I" (.int (0 : Int32))) (g1 : n0 ≤ a1) :
    MetFree l (⟨"java/lang/Integer", "<init>", "(I)V"⟩ : MethodName) (head1 (Jvm.Cond.code (⟨"java/lang/Integer", "<init>", "(I)V"⟩ : MethodName) jdk_33_method_23_code 2 none :: ws) ({ frames := 2, cells := 0, slots := 0, locals := 24 } : Room)) (fun a U => a = #[(.ref a1), (.int p2)] ∧ Z.Warmed39 U.vm ∧ U.heap = h0) (fun _ _ _ _ _ => True) (fun _ U o U' => ∃ v L, o = .returned v ∧ Q19 Z a1 p2 h0 n0 v U'.heap L ∧ FrameEnd U o U' L ({ frames := 2, cells := 0, slots := 0, locals := 24 } : Room).cells ({ frames := 2, cells := 0, slots := 0, locals := 24 } : Room).slots) := by
  refine MetFree.of_bodySF (plainFor_of_name pn_8) hisR ?_
  intro p e s m args below meth c s₁ Bd hml0 hP hK
  obtain ⟨rfl, hZ, hh⟩ := hP
  have hx := Bd.exec
  have hby := Bd.bytes
  have hml : c.maxLocals = 2 := hml0
  have hown : s.vm.findClass "java/lang/Integer" = some m.cls := findClass_of_methodNamed Bd.named
  have hnm := (name_of_methodNamed Bd.named Bd.method).1
  have X0 : Stand p l e ({ frames := 2, cells := 0, slots := 0, locals := 24 } : Room) s m #[(.ref a1), (.int p2)] below meth c s₁ [] 0 0 := Stand.of_body Bd
  have e0 : s₁.heap = h0 := by rw [← hh, Bd.state]; rfl
  have N0 := Fr.nil n0
  have K0 : Keep h0 h0 [a1] := Keep.refl _ _
  have pre0 : ∀ t, Steps p.tables e below (s₁.setTop (mkF m 0 #[.val (.ref a1), .val (.int p2)] [])) t → Steps p.tables e below (s₁.setTop (entryFrame m #[(.ref a1), (.int p2)] 2)) t := fun t k => castTop (ef_19 m a1 p2) k
  have pre1 : ∀ t, Steps p.tables e below (s₁.setTop (mkF m 1 #[.val (.ref a1), .val (.int p2)] [(.ref a1)])) t → Steps p.tables e below (s₁.setTop (entryFrame m #[(.ref a1), (.int p2)] 2)) t := fun t kt => by
    refine pre0 _ ?_
    show Steps p.tables e below (s₁.setTop (mkF m 0 #[.val (.ref a1), .val (.int p2)] [])) _
    refine XS.aloadN X0.here hx rfl (hb hby d19_0) rfl rfl ?_
    exact kt
  obtain ⟨_, _, ⟨T2, L2, kc2, nc2⟩, -, X2, ⟨Lc2, hQ2, l2, y2, z2⟩, st2⟩ := X0.specialBack hx (y := (⟨"java/lang/Number", "<init>", "()V"⟩ : MethodName)) rfl hown (mvT hZ (hw _ (List.mem_of_getElem? (i := 145) rfl))) (mvT hZ (hw _ (List.mem_of_getElem? (i := 146) rfl))) (mvT hZ (hw _ (List.mem_of_getElem? (i := 150) rfl))) (by decide) (backOf (W := 0) (rm20 l Z a0 hw [] a1 h0 n0 Z0) hZ (hw _ (List.mem_of_getElem? (i := 150) rfl)) (hw _ (List.mem_of_getElem? (i := 149) rfl)) (by decide) (by decide)) (g := (mkF m 1 #[.val (.ref a1), .val (.int p2)] [(.ref a1)])) rfl (by rw [hml]; rfl) (Steps.refl _) (a := a1) (argsL := []) (rest := []) (lenOf pd_0 rfl) rfl (by show 2 * 0 + _ ≤ _; exact Nat.le_of_eq rfl) (hb hby d19_1) (fun _ _ => ⟨rfl, e0, (by decide : 0 + 0 ≤ _), (by decide : 0 + 0 ≤ _)⟩)
  dsimp only [Pt.U, Pt.locs, Pt.cells, Pt.slots] at X2 l2 y2 z2 st2 hQ2
  subst l2 y2 z2
  obtain ⟨rfl, N2q, he2⟩ := hQ2
  have N2 := Fr.app N0 N2q
  have pre3 : ∀ t, Steps p.tables e below (T2.setTop (mkF m 4 #[.val (.ref a1), .val (.int p2)] [])) t → Steps p.tables e below (s₁.setTop (entryFrame m #[(.ref a1), (.int p2)] 2)) t := fun t kt => pre1 _ (st2.trans kt)
  have pre4 : ∀ t, Steps p.tables e below (T2.setTop (mkF m 6 #[.val (.ref a1), .val (.int p2)] [(.int p2), (.ref a1)])) t → Steps p.tables e below (s₁.setTop (entryFrame m #[(.ref a1), (.int p2)] 2)) t := fun t kt => by
    refine pre3 _ ?_
    show Steps p.tables e below (T2.setTop (mkF m 4 #[.val (.ref a1), .val (.int p2)] [])) _
    refine XS.aloadN X2.here hx rfl (hb hby d19_4) rfl rfl ?_
    show Steps p.tables e below (T2.setTop (mkF m 5 #[.val (.ref a1), .val (.int p2)] [(.ref a1)])) _
    refine XS.iloadN X2.here hx rfl (hb hby d19_5) rfl ?_
    exact kt
  obtain ⟨T5, h5, X5, e5, W5, st5⟩ := putF X2 hx hZ hown (host := "") (Or.inl (hw _ (List.mem_of_getElem? (i := 152) rfl))) Via.refl he2 F1 E1 (Or.inr ⟨(hw _ (List.mem_of_getElem? (i := 153) rfl)), rfl, hnm⟩) (hw _ (List.mem_of_getElem? (i := 141) rfl)) (ty := .int) (by decide) rfl rfl (g := (mkF m 6 #[.val (.ref a1), .val (.int p2)] [(.int p2), (.ref a1)])) rfl rfl (hb hby d19_6)
  have Fw5 := F1.same W5
  have N5 := Fr.snoc X5 N2 g1
  have pre6 : ∀ t, Steps p.tables e below (T5.setTop (mkF m 9 #[.val (.ref a1), .val (.int p2)] [])) t → Steps p.tables e below (s₁.setTop (entryFrame m #[(.ref a1), (.int p2)] 2)) t := fun t kt => pre4 _ (st5 _ kt)
  have k7 : Keep h0 h5 [a1] := (K0.wr W5 (Or.inl (List.mem_of_getElem? (i := 0) rfl)))
  obtain ⟨fs, hr, hrun, hended, hW, hsame⟩ := X5.leave (v := none) (fun _ => rfl)
  refine ⟨_, _, pre6 _ ?_, hrun, hended, _, _, rfl, ?_, ⟨_, rfl⟩, hW, hsame.mono (by decide) (by decide)⟩
  · show Steps p.tables e below (T5.setTop (mkF m 9 #[.val (.ref a1), .val (.int p2)] [])) _
    exact X5.returnOut hx Bd.returns (hb hby d19_9) hr
  · show Q19 Z a1 p2 h0 n0 _ T5.heap _
    rw [e5]
    exact ⟨rfl, N5, k7⟩
theorem ef_8 (m : MethodId) (p1 : Int32) : entryFrame m #[(.int p1)] 1 = (mkF m 0 #[.val (.int p1)] []) := by first | (simp [entryFrame, mkF, argsToLocals, Value.category]; done) | rfl
theorem d8_0 : decode jdk_33_method_22_code 0 = .ok (.iload_n 0, 1) := by decide +kernel
theorem d8_1 : decode jdk_33_method_22_code 1 = .ok (.bipush (-128), 2) := by decide +kernel
theorem d8_3 : decode jdk_33_method_22_code 3 = .ok (.if_icmp .lt 20, 3) := by decide +kernel
theorem d8_23 : decode jdk_33_method_22_code 23 = .ok (.new 1, 3) := by decide +kernel
theorem d8_26 : decode jdk_33_method_22_code 26 = .ok (.dup, 1) := by decide +kernel
theorem d8_27 : decode jdk_33_method_22_code 27 = .ok (.iload_n 0, 1) := by decide +kernel
theorem pd_1 : parseMethodDescriptor "(I)V" = some ⟨[.int], none⟩ := by decide +kernel
theorem d8_28 : decode jdk_33_method_22_code 28 = .ok (.invokespecial 199, 3) := by decide +kernel
theorem d8_31 : decode jdk_33_method_22_code 31 = .ok (.areturn, 1) := by decide +kernel
theorem d8_6 : decode jdk_33_method_22_code 6 = .ok (.iload_n 0, 1) := by decide +kernel
theorem d8_7 : decode jdk_33_method_22_code 7 = .ok (.getstatic 191, 3) := by decide +kernel
theorem d8_10 : decode jdk_33_method_22_code 10 = .ok (.if_icmp .gt 13, 3) := by decide +kernel
theorem d8_13 : decode jdk_33_method_22_code 13 = .ok (.getstatic 195, 3) := by decide +kernel
theorem d8_16 : decode jdk_33_method_22_code 16 = .ok (.iload_n 0, 1) := by decide +kernel
theorem d8_17 : decode jdk_33_method_22_code 17 = .ok (.sipush 128, 3) := by decide +kernel
theorem d8_20 : decode jdk_33_method_22_code 20 = .ok (.iadd, 1) := by decide +kernel
theorem d8_21 : decode jdk_33_method_22_code 21 = .ok (.aaload, 1) := by decide +kernel
theorem d8_22 : decode jdk_33_method_22_code 22 = .ok (.areturn, 1) := by decide +kernel
def Q8 (Z : State) (p1 : Int32) (aC : Addr) (clC : Cell) (h0 : Heap) (n0 : Nat) (v : Option Value) (h : Heap) (L : List Loc) : Prop := ∃ aI : Addr, v = some (.ref aI) ∧ Fr n0 L ∧ Keep h0 h [] ∧ Exa Z h aI "java/lang/Integer"
set_option maxRecDepth 65536 in
set_option maxHeartbeats 40000000 in
theorem rm8 (l : Launch) (Z : State) (a0 : Array Value) (hw : ∀ d ∈ tables_1, d.before a0 Z = true) (ws : List Jvm.Cond) (p1 : Int32) (aC : Addr) (clC : Cell) (h0 : Heap) (n0 : Nat) (O0 : Old Z n0 h0) (SHi : Sta Z Z.heap "java/lang/Integer$IntegerCache" "high" "I" (.int (127 : Int32))) (SCa : Sta Z Z.heap "java/lang/Integer$IntegerCache" "cache" "[Ljava/lang/Integer;" (.ref aC)) (ArC : Arr Z Z.heap aC clC (.object "java/lang/Integer")) (hC : ∀ w : Int32, ¬ w < (-128 : Int32) → ¬ ((127 : Int32) < w) → ∃ box : Addr, ¬ ((w + (128 : Int32)) < 0 ∨ clC.slots.size ≤ (w + (128 : Int32)).toNatClampNeg) ∧ clC.slots[(w + (128 : Int32)).toNatClampNeg]? = some (.ref box) ∧ Exa Z Z.heap box "java/lang/Integer") :
    MetFree l (⟨"java/lang/Integer", "valueOf", "(I)Ljava/lang/Integer;"⟩ : MethodName) (head1 (Jvm.Cond.code (⟨"java/lang/Integer", "valueOf", "(I)Ljava/lang/Integer;"⟩ : MethodName) jdk_33_method_22_code 1 (some (.object "java/lang/Integer")) :: ws) ({ frames := 3, cells := 1, slots := 1, locals := 38 } : Room)) (fun a U => a = #[(.int p1)] ∧ Z.Warmed39 U.vm ∧ U.heap = h0) (fun _ _ _ _ _ => True) (fun _ U o U' => ∃ v L, o = .returned v ∧ Q8 Z p1 aC clC h0 n0 v U'.heap L ∧ FrameEnd U o U' L ({ frames := 3, cells := 1, slots := 1, locals := 38 } : Room).cells ({ frames := 3, cells := 1, slots := 1, locals := 38 } : Room).slots) := by
  refine MetFree.of_bodySF (plainFor_of_name pn_8) hisR ?_
  intro p e s m args below meth c s₁ Bd hml0 hP hK
  obtain ⟨rfl, hZ, hh⟩ := hP
  have hx := Bd.exec
  have hby := Bd.bytes
  have hml : c.maxLocals = 1 := hml0
  have hown : s.vm.findClass "java/lang/Integer" = some m.cls := findClass_of_methodNamed Bd.named
  have hnm := (name_of_methodNamed Bd.named Bd.method).1
  have X0 : Stand p l e ({ frames := 3, cells := 1, slots := 1, locals := 38 } : Room) s m #[(.int p1)] below meth c s₁ [] 0 0 := Stand.of_body Bd
  have e0 : s₁.heap = h0 := by rw [← hh, Bd.state]; rfl
  have N0 := Fr.nil n0
  have Z0 : n0 ≤ h0.size := O0.1 ▸ O0.2.1
  have K0 : Keep h0 h0 [] := Keep.refl _ _
  have pre0 : ∀ t, Steps p.tables e below (s₁.setTop (mkF m 0 #[.val (.int p1)] [])) t → Steps p.tables e below (s₁.setTop (entryFrame m #[(.int p1)] 1)) t := fun t k => castTop (ef_8 m p1) k
  have pre1 : ∀ t, Steps p.tables e below (s₁.setTop (mkF m 3 #[.val (.int p1)] [(.int (-128 : Int32)), (.int p1)])) t → Steps p.tables e below (s₁.setTop (entryFrame m #[(.int p1)] 1)) t := fun t kt => by
    refine pre0 _ ?_
    show Steps p.tables e below (s₁.setTop (mkF m 0 #[.val (.int p1)] [])) _
    refine XS.iloadN X0.here hx rfl (hb hby d8_0) rfl ?_
    show Steps p.tables e below (s₁.setTop (mkF m 1 #[.val (.int p1)] [(.int p1)])) _
    refine XS.bipush X0.here hx rfl (hb hby d8_1) ?_
    exact kt
  by_cases c1 : p1 < (-128 : Int32)
  · have pre2 : ∀ t, Steps p.tables e below (s₁.setTop (mkF m 23 #[.val (.int p1)] [])) t → Steps p.tables e below (s₁.setTop (entryFrame m #[(.int p1)] 1)) t := fun t kt => by
      refine pre1 _ ?_
      show Steps p.tables e below (s₁.setTop (mkF m 3 #[.val (.int p1)] [(.int (-128 : Int32)), (.int p1)])) _
      refine XS.icmpYes X0.here hx rfl (pc0 := 3) (pc' := 23) rfl (hb hby d8_3) rfl (tlt (c1 : p1 < (-128 : Int32))).1 (by decide) (by decide) ?_
      exact kt
    obtain ⟨T3, h3, X3, e3, E3, A3, D3, -, st3⟩ := newO X0 hx hZ hown (hw _ (List.mem_of_getElem? (i := 140) rfl)) (hw _ (List.mem_of_getElem? (i := 141) rfl)) (hw _ (List.mem_of_getElem? (i := 55) rfl)) e0 (g := (mkF m 23 #[.val (.int p1)] [])) rfl (hb hby d8_23) (by decide) (by decide)
    obtain ⟨b3, gq3⟩ : ∃ z, z = h0.size := ⟨_, rfl⟩
    rw [← gq3] at A3 D3 st3
    have gg_b3 : n0 ≤ b3 := Nat.le_trans Z0 (Nat.le_of_eq gq3.symm)
    have sz_b3 : h0.size ≤ b3 := Nat.le_trans K0.1 (Nat.le_of_eq gq3.symm)
    have F3_value : Fld Z h3 b3 "java/lang/Integer" "value" "I" (.int (0 : Int32)) := D3 (Or.inr (hw _ (List.mem_of_getElem? (i := 153) rfl))) (ty := .int) (by decide)
    have pre4 : ∀ t, Steps p.tables e below (T3.setTop (mkF m 26 #[.val (.int p1)] [(.ref b3)])) t → Steps p.tables e below (s₁.setTop (entryFrame m #[(.int p1)] 1)) t := fun t kt => pre2 _ (st3 _ kt)
    have z5 : n0 ≤ h3.size := (Nat.le_trans Z0 E3.1)
    have pre6 : ∀ t, Steps p.tables e below (T3.setTop (mkF m 28 #[.val (.int p1)] [(.int p1), (.ref b3), (.ref b3)])) t → Steps p.tables e below (s₁.setTop (entryFrame m #[(.int p1)] 1)) t := fun t kt => by
      refine pre4 _ ?_
      show Steps p.tables e below (T3.setTop (mkF m 26 #[.val (.int p1)] [(.ref b3)])) _
      refine XS.dup X3.here hx rfl (hb hby d8_26) rfl rfl ?_
      show Steps p.tables e below (T3.setTop (mkF m 27 #[.val (.int p1)] [(.ref b3), (.ref b3)])) _
      refine XS.iloadN X3.here hx rfl (hb hby d8_27) rfl ?_
      exact kt
    obtain ⟨_, _, ⟨T7, L7, kc7, nc7⟩, -, X7, ⟨Lc7, hQ7, l7, y7, z7⟩, st7⟩ := X3.specialBack hx (y := (⟨"java/lang/Integer", "<init>", "(I)V"⟩ : MethodName)) rfl hown (mvT hZ (hw _ (List.mem_of_getElem? (i := 142) rfl))) (mvT hZ (hw _ (List.mem_of_getElem? (i := 143) rfl))) (mvT hZ (hw _ (List.mem_of_getElem? (i := 144) rfl))) (by decide) (backOf (W := 1) (rm19 l Z a0 hw [] b3 p1 h3 n0 z5 A3 F3_value gg_b3) hZ (hw _ (List.mem_of_getElem? (i := 144) rfl)) (hw _ (List.mem_of_getElem? (i := 55) rfl)) (by decide) (by decide)) (g := (mkF m 28 #[.val (.int p1)] [(.int p1), (.ref b3), (.ref b3)])) rfl (by rw [hml]; rfl) (Steps.refl _) (a := b3) (argsL := [(.int p1)]) (rest := [(.ref b3)]) (lenOf pd_1 rfl) rfl (by show 2 * 0 + _ ≤ _; exact Nat.le_of_eq rfl) (hb hby d8_28) (fun _ _ => ⟨rfl, e3, (by decide : 1 + 0 ≤ _), (by decide : 1 + 0 ≤ _)⟩)
    dsimp only [Pt.U, Pt.locs, Pt.cells, Pt.slots] at X7 l7 y7 z7 st7 hQ7
    subst l7 y7 z7
    obtain ⟨rfl, N7q, K7⟩ := hQ7
    have N7 := Fr.app N0 N7q
    have pre8 : ∀ t, Steps p.tables e below (T7.setTop (mkF m 31 #[.val (.int p1)] [(.ref b3)])) t → Steps p.tables e below (s₁.setTop (entryFrame m #[(.int p1)] 1)) t := fun t kt => pre6 _ (st7.trans kt)
    have k9 : Keep h0 T7.heap [] := ((K0.ext E3).trans K7 (allS (Or.inr sz_b3) all0))
    have f10 := (A3.keep K7)
    obtain ⟨fs, hr, hrun, hended, hW, hsame⟩ := X7.leave (v := (some (.ref b3))) (fun h => by rw [Bd.returns] at h; cases h)
    refine ⟨_, _, pre8 _ ?_, hrun, hended, _, _, rfl, ?_, ⟨_, rfl⟩, hW, hsame.mono (by decide) (by decide)⟩
    · show Steps p.tables e below (T7.setTop (mkF m 31 #[.val (.int p1)] [(.ref b3)])) _
      exact retOut X7 hx (t := (.object "java/lang/Integer")) Bd.returns rfl (Or.inr (Or.inr (Or.inr (Or.inr ⟨rfl, rfl, rfl⟩)))) (hb hby d8_31) hr
    · show Q8 Z p1 aC clC h0 n0 _ T7.heap _
      exact ⟨_, rfl, N7, k9, f10⟩
  · have pre11 : ∀ t, Steps p.tables e below (s₁.setTop (mkF m 7 #[.val (.int p1)] [(.int p1)])) t → Steps p.tables e below (s₁.setTop (entryFrame m #[(.int p1)] 1)) t := fun t kt => by
      refine pre1 _ ?_
      show Steps p.tables e below (s₁.setTop (mkF m 3 #[.val (.int p1)] [(.int (-128 : Int32)), (.int p1)])) _
      refine XS.icmpNo X0.here hx rfl (hb hby d8_3) rfl (flt (c1 : ¬ (p1 < (-128 : Int32)))).1 ?_
      show Steps p.tables e below (s₁.setTop (mkF m 6 #[.val (.int p1)] [])) _
      refine XS.iloadN X0.here hx rfl (hb hby d8_6) rfl ?_
      exact kt
    obtain ⟨T12, X12, e12, st12⟩ := getS2 X0 hx hZ hown (host := "") (Or.inl (hw _ (List.mem_of_getElem? (i := 57) rfl))) Via.refl e0 (SHi.ext O0.2) (g := (mkF m 7 #[.val (.int p1)] [(.int p1)])) rfl (hb hby d8_7)
    have pre13 : ∀ t, Steps p.tables e below (T12.setTop (mkF m 10 #[.val (.int p1)] [(.int (127 : Int32)), (.int p1)])) t → Steps p.tables e below (s₁.setTop (entryFrame m #[(.int p1)] 1)) t := fun t kt => pre11 _ (st12 _ kt)
    by_cases c2 : (127 : Int32) < p1
    · have pre14 : ∀ t, Steps p.tables e below (T12.setTop (mkF m 23 #[.val (.int p1)] [])) t → Steps p.tables e below (s₁.setTop (entryFrame m #[(.int p1)] 1)) t := fun t kt => by
        refine pre13 _ ?_
        show Steps p.tables e below (T12.setTop (mkF m 10 #[.val (.int p1)] [(.int (127 : Int32)), (.int p1)])) _
        refine XS.icmpYes X12.here hx rfl (pc0 := 10) (pc' := 23) rfl (hb hby d8_10) rfl (tlt (c2 : (127 : Int32) < p1)).2.2.1 (by decide) (by decide) ?_
        exact kt
      obtain ⟨T15, h15, X15, e15, E15, A15, D15, -, st15⟩ := newO X12 hx hZ hown (hw _ (List.mem_of_getElem? (i := 140) rfl)) (hw _ (List.mem_of_getElem? (i := 141) rfl)) (hw _ (List.mem_of_getElem? (i := 55) rfl)) e12 (g := (mkF m 23 #[.val (.int p1)] [])) rfl (hb hby d8_23) (by decide) (by decide)
      obtain ⟨b15, gq15⟩ : ∃ z, z = h0.size := ⟨_, rfl⟩
      rw [← gq15] at A15 D15 st15
      have gg_b15 : n0 ≤ b15 := Nat.le_trans Z0 (Nat.le_of_eq gq15.symm)
      have sz_b15 : h0.size ≤ b15 := Nat.le_trans K0.1 (Nat.le_of_eq gq15.symm)
      have F15_value : Fld Z h15 b15 "java/lang/Integer" "value" "I" (.int (0 : Int32)) := D15 (Or.inr (hw _ (List.mem_of_getElem? (i := 153) rfl))) (ty := .int) (by decide)
      have pre16 : ∀ t, Steps p.tables e below (T15.setTop (mkF m 26 #[.val (.int p1)] [(.ref b15)])) t → Steps p.tables e below (s₁.setTop (entryFrame m #[(.int p1)] 1)) t := fun t kt => pre14 _ (st15 _ kt)
      have z17 : n0 ≤ h15.size := (Nat.le_trans Z0 E15.1)
      have pre18 : ∀ t, Steps p.tables e below (T15.setTop (mkF m 28 #[.val (.int p1)] [(.int p1), (.ref b15), (.ref b15)])) t → Steps p.tables e below (s₁.setTop (entryFrame m #[(.int p1)] 1)) t := fun t kt => by
        refine pre16 _ ?_
        show Steps p.tables e below (T15.setTop (mkF m 26 #[.val (.int p1)] [(.ref b15)])) _
        refine XS.dup X15.here hx rfl (hb hby d8_26) rfl rfl ?_
        show Steps p.tables e below (T15.setTop (mkF m 27 #[.val (.int p1)] [(.ref b15), (.ref b15)])) _
        refine XS.iloadN X15.here hx rfl (hb hby d8_27) rfl ?_
        exact kt
      obtain ⟨_, _, ⟨T19, L19, kc19, nc19⟩, -, X19, ⟨Lc19, hQ19, l19, y19, z19⟩, st19⟩ := X15.specialBack hx (y := (⟨"java/lang/Integer", "<init>", "(I)V"⟩ : MethodName)) rfl hown (mvT hZ (hw _ (List.mem_of_getElem? (i := 142) rfl))) (mvT hZ (hw _ (List.mem_of_getElem? (i := 143) rfl))) (mvT hZ (hw _ (List.mem_of_getElem? (i := 144) rfl))) (by decide) (backOf (W := 1) (rm19 l Z a0 hw [] b15 p1 h15 n0 z17 A15 F15_value gg_b15) hZ (hw _ (List.mem_of_getElem? (i := 144) rfl)) (hw _ (List.mem_of_getElem? (i := 55) rfl)) (by decide) (by decide)) (g := (mkF m 28 #[.val (.int p1)] [(.int p1), (.ref b15), (.ref b15)])) rfl (by rw [hml]; rfl) (Steps.refl _) (a := b15) (argsL := [(.int p1)]) (rest := [(.ref b15)]) (lenOf pd_1 rfl) rfl (by show 2 * 0 + _ ≤ _; exact Nat.le_of_eq rfl) (hb hby d8_28) (fun _ _ => ⟨rfl, e15, (by decide : 1 + 0 ≤ _), (by decide : 1 + 0 ≤ _)⟩)
      dsimp only [Pt.U, Pt.locs, Pt.cells, Pt.slots] at X19 l19 y19 z19 st19 hQ19
      subst l19 y19 z19
      obtain ⟨rfl, N19q, K19⟩ := hQ19
      have N19 := Fr.app N0 N19q
      have pre20 : ∀ t, Steps p.tables e below (T19.setTop (mkF m 31 #[.val (.int p1)] [(.ref b15)])) t → Steps p.tables e below (s₁.setTop (entryFrame m #[(.int p1)] 1)) t := fun t kt => pre18 _ (st19.trans kt)
      have k21 : Keep h0 T19.heap [] := ((K0.ext E15).trans K19 (allS (Or.inr sz_b15) all0))
      have f22 := (A15.keep K19)
      obtain ⟨fs, hr, hrun, hended, hW, hsame⟩ := X19.leave (v := (some (.ref b15))) (fun h => by rw [Bd.returns] at h; cases h)
      refine ⟨_, _, pre20 _ ?_, hrun, hended, _, _, rfl, ?_, ⟨_, rfl⟩, hW, hsame.mono (by decide) (by decide)⟩
      · show Steps p.tables e below (T19.setTop (mkF m 31 #[.val (.int p1)] [(.ref b15)])) _
        exact retOut X19 hx (t := (.object "java/lang/Integer")) Bd.returns rfl (Or.inr (Or.inr (Or.inr (Or.inr ⟨rfl, rfl, rfl⟩)))) (hb hby d8_31) hr
      · show Q8 Z p1 aC clC h0 n0 _ T19.heap _
        exact ⟨_, rfl, N19, k21, f22⟩
    · have pre23 : ∀ t, Steps p.tables e below (T12.setTop (mkF m 13 #[.val (.int p1)] [])) t → Steps p.tables e below (s₁.setTop (entryFrame m #[(.int p1)] 1)) t := fun t kt => by
        refine pre13 _ ?_
        show Steps p.tables e below (T12.setTop (mkF m 10 #[.val (.int p1)] [(.int (127 : Int32)), (.int p1)])) _
        refine XS.icmpNo X12.here hx rfl (hb hby d8_10) rfl (flt (c2 : ¬ ((127 : Int32) < p1))).2.2.1 ?_
        exact kt
      obtain ⟨T24, X24, e24, st24⟩ := getS2 X12 hx hZ hown (host := "") (Or.inl (hw _ (List.mem_of_getElem? (i := 59) rfl))) Via.refl e12 (SCa.ext O0.2) (g := (mkF m 13 #[.val (.int p1)] [])) rfl (hb hby d8_13)
      have pre25 : ∀ t, Steps p.tables e below (T24.setTop (mkF m 16 #[.val (.int p1)] [(.ref aC)])) t → Steps p.tables e below (s₁.setTop (entryFrame m #[(.int p1)] 1)) t := fun t kt => pre23 _ (st24 _ kt)
      have pre26 : ∀ t, Steps p.tables e below (T24.setTop (mkF m 21 #[.val (.int p1)] [(.int (p1 + (128 : Int32))), (.ref aC)])) t → Steps p.tables e below (s₁.setTop (entryFrame m #[(.int p1)] 1)) t := fun t kt => by
        refine pre25 _ ?_
        show Steps p.tables e below (T24.setTop (mkF m 16 #[.val (.int p1)] [(.ref aC)])) _
        refine XS.iloadN X24.here hx rfl (hb hby d8_16) rfl ?_
        show Steps p.tables e below (T24.setTop (mkF m 17 #[.val (.int p1)] [(.int p1), (.ref aC)])) _
        refine XS.sipush X24.here hx rfl (hb hby d8_17) ?_
        show Steps p.tables e below (T24.setTop (mkF m 20 #[.val (.int p1)] [(.int (128 : Int32)), (.int p1), (.ref aC)])) _
        refine XS.iadd X24.here hx rfl (hb hby d8_20) rfl ?_
        exact kt
      obtain ⟨box, hin, hat, Eb⟩ := hC p1 c1 c2
      have ArE := ArC.ext O0.2
      have pre27 : ∀ t, Steps p.tables e below (T24.setTop (mkF m 22 #[.val (.int p1)] [(.ref box)])) t → Steps p.tables e below (s₁.setTop (entryFrame m #[(.int p1)] 1)) t := fun t kt => by
        refine pre26 _ ?_
        show Steps p.tables e below (T24.setTop (mkF m 21 #[.val (.int p1)] [(.int (p1 + (128 : Int32))), (.ref aC)])) _
        refine X24.aaload hx (j := (p1 + (128 : Int32))) (v := (.ref box)) (by rw [e24]; exact ArE.1) (State.isArrayOf_alike hZ.alike ArE.2.1) rfl ArE.2.2 hin hat (g := (mkF m 21 #[.val (.int p1)] [(.int (p1 + (128 : Int32))), (.ref aC)])) rfl rfl (hb hby d8_21) _ ?_
        exact kt
      obtain ⟨fs, hr, hrun, hended, hW, hsame⟩ := X24.leave (v := (some (.ref box))) (fun h => by rw [Bd.returns] at h; cases h)
      refine ⟨_, _, pre27 _ ?_, hrun, hended, _, _, rfl, ?_, ⟨_, rfl⟩, hW, hsame.mono (by decide) (by decide)⟩
      · show Steps p.tables e below (T24.setTop (mkF m 22 #[.val (.int p1)] [(.ref box)])) _
        exact retOut X24 hx (t := (.object "java/lang/Integer")) Bd.returns rfl (Or.inr (Or.inr (Or.inr (Or.inr ⟨rfl, rfl, rfl⟩)))) (hb hby d8_22) hr
      · show Q8 Z p1 aC clC h0 n0 _ T24.heap _
        rw [e24]
        exact ⟨_, rfl, N0, K0, Eb.ext O0.2⟩
theorem pn_9 : plainFor (⟨"java/lang/Math", "max", "(II)I"⟩ : MethodName) = true := by decide +kernel
theorem ef_17 (m : MethodId) (p1 : Int32) (p2 : Int32) : entryFrame m #[(.int p1), (.int p2)] 2 = (mkF m 0 #[.val (.int p1), .val (.int p2)] []) := by first | (simp [entryFrame, mkF, argsToLocals, Value.category]; done) | rfl
theorem d17_0 : decode jdk_29_method_65_code 0 = .ok (.iload_n 0, 1) := by decide +kernel
theorem d17_1 : decode jdk_29_method_65_code 1 = .ok (.iload_n 1, 1) := by decide +kernel
theorem d17_2 : decode jdk_29_method_65_code 2 = .ok (.if_icmp .lt 7, 3) := by decide +kernel
theorem d17_9 : decode jdk_29_method_65_code 9 = .ok (.iload_n 1, 1) := by decide +kernel
theorem d17_10 : decode jdk_29_method_65_code 10 = .ok (.ireturn, 1) := by decide +kernel
theorem d17_5 : decode jdk_29_method_65_code 5 = .ok (.iload_n 0, 1) := by decide +kernel
theorem d17_6 : decode jdk_29_method_65_code 6 = .ok (.goto 4, 3) := by decide +kernel
def Q17 (Z : State) (p1 : Int32) (p2 : Int32) (h0 : Heap) (n0 : Nat) (v : Option Value) (h : Heap) (L : List Loc) : Prop := v = some (.int (own_max p1 p2)) ∧ Fr n0 L ∧ h = h0
set_option maxRecDepth 65536 in
set_option maxHeartbeats 40000000 in
theorem rm17 (l : Launch) (Z : State) (a0 : Array Value) (hw : ∀ d ∈ tables_1, d.before a0 Z = true) (ws : List Jvm.Cond) (p1 : Int32) (p2 : Int32) (h0 : Heap) (n0 : Nat) (Z0 : n0 ≤ h0.size) :
    MetFree l (⟨"java/lang/Math", "max", "(II)I"⟩ : MethodName) (head1 (Jvm.Cond.code (⟨"java/lang/Math", "max", "(II)I"⟩ : MethodName) jdk_29_method_65_code 2 (some .int) :: ws) ({ frames := 0, cells := 0, slots := 0, locals := 0 } : Room)) (fun a U => a = #[(.int p1), (.int p2)] ∧ Z.Warmed39 U.vm ∧ U.heap = h0) (fun _ _ _ _ _ => True) (fun _ U o U' => ∃ v L, o = .returned v ∧ Q17 Z p1 p2 h0 n0 v U'.heap L ∧ FrameEnd U o U' L ({ frames := 0, cells := 0, slots := 0, locals := 0 } : Room).cells ({ frames := 0, cells := 0, slots := 0, locals := 0 } : Room).slots) := by
  refine MetFree.of_bodySF pn_9 hisR ?_
  intro p e s m args below meth c s₁ Bd hml0 hP hK
  obtain ⟨rfl, hZ, hh⟩ := hP
  have hx := Bd.exec
  have hby := Bd.bytes
  have hml : c.maxLocals = 2 := hml0
  have hown : s.vm.findClass "java/lang/Math" = some m.cls := findClass_of_methodNamed Bd.named
  have hnm := (name_of_methodNamed Bd.named Bd.method).1
  have X0 : Stand p l e ({ frames := 0, cells := 0, slots := 0, locals := 0 } : Room) s m #[(.int p1), (.int p2)] below meth c s₁ [] 0 0 := Stand.of_body Bd
  have e0 : s₁.heap = h0 := by rw [← hh, Bd.state]; rfl
  have N0 := Fr.nil n0
  have pre0 : ∀ t, Steps p.tables e below (s₁.setTop (mkF m 0 #[.val (.int p1), .val (.int p2)] [])) t → Steps p.tables e below (s₁.setTop (entryFrame m #[(.int p1), (.int p2)] 2)) t := fun t k => castTop (ef_17 m p1 p2) k
  have pre1 : ∀ t, Steps p.tables e below (s₁.setTop (mkF m 2 #[.val (.int p1), .val (.int p2)] [(.int p2), (.int p1)])) t → Steps p.tables e below (s₁.setTop (entryFrame m #[(.int p1), (.int p2)] 2)) t := fun t kt => by
    refine pre0 _ ?_
    show Steps p.tables e below (s₁.setTop (mkF m 0 #[.val (.int p1), .val (.int p2)] [])) _
    refine XS.iloadN X0.here hx rfl (hb hby d17_0) rfl ?_
    show Steps p.tables e below (s₁.setTop (mkF m 1 #[.val (.int p1), .val (.int p2)] [(.int p1)])) _
    refine XS.iloadN X0.here hx rfl (hb hby d17_1) rfl ?_
    exact kt
  by_cases c1 : p1 < p2
  · have pre2 : ∀ t, Steps p.tables e below (s₁.setTop (mkF m 10 #[.val (.int p1), .val (.int p2)] [(.int p2)])) t → Steps p.tables e below (s₁.setTop (entryFrame m #[(.int p1), (.int p2)] 2)) t := fun t kt => by
      refine pre1 _ ?_
      show Steps p.tables e below (s₁.setTop (mkF m 2 #[.val (.int p1), .val (.int p2)] [(.int p2), (.int p1)])) _
      refine XS.icmpYes X0.here hx rfl (pc0 := 2) (pc' := 9) rfl (hb hby d17_2) rfl (tlt (c1 : p1 < p2)).1 (by decide) (by decide) ?_
      show Steps p.tables e below (s₁.setTop (mkF m 9 #[.val (.int p1), .val (.int p2)] [])) _
      refine XS.iloadN X0.here hx rfl (hb hby d17_9) rfl ?_
      exact kt
    have ev : own_max p1 p2 = p2 := if_pos c1
    obtain ⟨fs, hr, hrun, hended, hW, hsame⟩ := X0.leave (v := (some (.int p2))) (fun h => by rw [Bd.returns] at h; cases h)
    refine ⟨_, _, pre2 _ ?_, hrun, hended, _, _, rfl, ?_, ⟨_, rfl⟩, hW, hsame.mono (by decide) (by decide)⟩
    · show Steps p.tables e below (s₁.setTop (mkF m 10 #[.val (.int p1), .val (.int p2)] [(.int p2)])) _
      exact retI X0 hx Bd.returns (hb hby d17_10) hr
    · show Q17 Z p1 p2 h0 n0 _ s₁.heap _
      rw [e0]
      exact ⟨by rw [ev], N0, rfl⟩
  · have pre3 : ∀ t, Steps p.tables e below (s₁.setTop (mkF m 10 #[.val (.int p1), .val (.int p2)] [(.int p1)])) t → Steps p.tables e below (s₁.setTop (entryFrame m #[(.int p1), (.int p2)] 2)) t := fun t kt => by
      refine pre1 _ ?_
      show Steps p.tables e below (s₁.setTop (mkF m 2 #[.val (.int p1), .val (.int p2)] [(.int p2), (.int p1)])) _
      refine XS.icmpNo X0.here hx rfl (hb hby d17_2) rfl (flt (c1 : ¬ (p1 < p2))).1 ?_
      show Steps p.tables e below (s₁.setTop (mkF m 5 #[.val (.int p1), .val (.int p2)] [])) _
      refine XS.iloadN X0.here hx rfl (hb hby d17_5) rfl ?_
      show Steps p.tables e below (s₁.setTop (mkF m 6 #[.val (.int p1), .val (.int p2)] [(.int p1)])) _
      refine XS.goto X0.here hx rfl (pc0 := 6) (pc' := 10) rfl (hb hby d17_6) (by decide) (by decide) ?_
      exact kt
    have ev : own_max p1 p2 = p1 := if_neg c1
    obtain ⟨fs, hr, hrun, hended, hW, hsame⟩ := X0.leave (v := (some (.int p1))) (fun h => by rw [Bd.returns] at h; cases h)
    refine ⟨_, _, pre3 _ ?_, hrun, hended, _, _, rfl, ?_, ⟨_, rfl⟩, hW, hsame.mono (by decide) (by decide)⟩
    · show Steps p.tables e below (s₁.setTop (mkF m 10 #[.val (.int p1), .val (.int p2)] [(.int p1)])) _
      exact retI X0 hx Bd.returns (hb hby d17_10) hr
    · show Q17 Z p1 p2 h0 n0 _ s₁.heap _
      rw [e0]
      exact ⟨by rw [ev], N0, rfl⟩
theorem ef_16 (m : MethodId) (a1 : Addr) : entryFrame m #[(.ref a1), (.int (1 : Int32))] 4 = (mkF m 0 #[.val (.ref a1), .val (.int (1 : Int32)), .unset, .unset] []) := by first | (simp [entryFrame, mkF, argsToLocals, Value.category]; done) | rfl
theorem d16_0 : decode jdk_38_method_6_code 0 = .ok (.aload_n 0, 1) := by decide +kernel
theorem d16_1 : decode jdk_38_method_6_code 1 = .ok (.getfield 9, 3) := by decide +kernel
theorem d16_4 : decode jdk_38_method_6_code 4 = .ok (.arraylength, 1) := by decide +kernel
theorem d16_5 : decode jdk_38_method_6_code 5 = .ok (.istore_n 2, 1) := by decide +kernel
theorem d16_6 : decode jdk_38_method_6_code 6 = .ok (.iload_n 2, 1) := by decide +kernel
theorem d16_7 : decode jdk_38_method_6_code 7 = .ok (.ifCond .gt 13, 3) := by decide +kernel
theorem d16_10 : decode jdk_38_method_6_code 10 = .ok (.aload_n 0, 1) := by decide +kernel
theorem d16_11 : decode jdk_38_method_6_code 11 = .ok (.getfield 9, 3) := by decide +kernel
theorem d16_14 : decode jdk_38_method_6_code 14 = .ok (.getstatic 39, 3) := by decide +kernel
theorem d16_17 : decode jdk_38_method_6_code 17 = .ok (.if_acmp .eq 28, 3) := by decide +kernel
theorem d16_45 : decode jdk_38_method_6_code 45 = .ok (.aload_n 0, 1) := by decide +kernel
theorem d16_46 : decode jdk_38_method_6_code 46 = .ok (.bipush 10, 2) := by decide +kernel
theorem d16_48 : decode jdk_38_method_6_code 48 = .ok (.iload_n 1, 1) := by decide +kernel
theorem pd_2 : parseMethodDescriptor "(II)I" = some ⟨[.int, .int], some .int⟩ := by decide +kernel
theorem d16_49 : decode jdk_38_method_6_code 49 = .ok (.invokestatic 79, 3) := by decide +kernel
theorem d16_52 : decode jdk_38_method_6_code 52 = .ok (.anewarray 7, 3) := by decide +kernel
theorem d16_55 : decode jdk_38_method_6_code 55 = .ok (.dup_x1, 1) := by decide +kernel
theorem d16_56 : decode jdk_38_method_6_code 56 = .ok (.putfield 9, 3) := by decide +kernel
theorem d16_59 : decode jdk_38_method_6_code 59 = .ok (.areturn, 1) := by decide +kernel
def Q16 (Z : State) (a1 : Addr) (aE : Addr) (kE : ClassId) (mc : Int32) (h0 : Heap) (n0 : Nat) (v : Option Value) (h : Heap) (L : List Loc) : Prop := v = some (.ref h0.size) ∧ Fr n0 L ∧ Keep h0 h [a1] ∧ Exa Z h a1 "java/util/ArrayList" ∧ Fld Z h a1 "java/util/AbstractList" "modCount" "I" (.int mc) ∧ Fld Z h a1 "java/util/ArrayList" "size" "I" (.int (0 : Int32)) ∧ Fld Z h a1 "java/util/ArrayList" "elementData" "[Ljava/lang/Object;" (.ref h0.size) ∧ ∃ k : ClassId, Arv Z h h0.size k (.object "java/lang/Object") (10 : Int32) [.null, .null, .null, .null, .null, .null, .null, .null, .null, .null] .null ∧ Ovr Z k "java/lang/Object"
set_option maxRecDepth 65536 in
set_option maxHeartbeats 40000000 in
theorem rm16 (l : Launch) (Z : State) (a0 : Array Value) (hw : ∀ d ∈ tables_1, d.before a0 Z = true) (ws : List Jvm.Cond) (a1 : Addr) (aE : Addr) (kE : ClassId) (mc : Int32) (h0 : Heap) (n0 : Nat) (O0 : Old Z n0 h0) (SE : Sta Z Z.heap "java/util/ArrayList" "DEFAULTCAPACITY_EMPTY_ELEMENTDATA" "[Ljava/lang/Object;" (.ref aE)) (VE : Arv Z h0 aE kE (.object "java/lang/Object") (0 : Int32) [] .null) (E1 : Exa Z h0 a1 "java/util/ArrayList") (Fm : Fld Z h0 a1 "java/util/AbstractList" "modCount" "I" (.int mc)) (Fe : Fld Z h0 a1 "java/util/ArrayList" "elementData" "[Ljava/lang/Object;" (.ref aE)) (Fs : Fld Z h0 a1 "java/util/ArrayList" "size" "I" (.int (0 : Int32))) (g1 : n0 ≤ a1) :
    MetFree l (⟨"java/util/ArrayList", "grow", "(I)[Ljava/lang/Object;"⟩ : MethodName) (head1 (Jvm.Cond.code (⟨"java/util/ArrayList", "grow", "(I)[Ljava/lang/Object;"⟩ : MethodName) jdk_38_method_6_code 4 (some (.array (.object "java/lang/Object"))) :: ws) ({ frames := 1, cells := 1, slots := 10, locals := 14 } : Room)) (fun a U => a = #[(.ref a1), (.int (1 : Int32))] ∧ Z.Warmed39 U.vm ∧ U.heap = h0) (fun _ _ _ _ _ => True) (fun _ U o U' => ∃ v L, o = .returned v ∧ Q16 Z a1 aE kE mc h0 n0 v U'.heap L ∧ FrameEnd U o U' L ({ frames := 1, cells := 1, slots := 10, locals := 14 } : Room).cells ({ frames := 1, cells := 1, slots := 10, locals := 14 } : Room).slots) := by
  refine MetFree.of_bodySF (plainFor_of_name pn_2) hisR ?_
  intro p e s m args below meth c s₁ Bd hml0 hP hK
  obtain ⟨rfl, hZ, hh⟩ := hP
  have hx := Bd.exec
  have hby := Bd.bytes
  have hml : c.maxLocals = 4 := hml0
  have hown : s.vm.findClass "java/util/ArrayList" = some m.cls := findClass_of_methodNamed Bd.named
  have hnm := (name_of_methodNamed Bd.named Bd.method).1
  have X0 : Stand p l e ({ frames := 1, cells := 1, slots := 10, locals := 14 } : Room) s m #[(.ref a1), (.int (1 : Int32))] below meth c s₁ [] 0 0 := Stand.of_body Bd
  have e0 : s₁.heap = h0 := by rw [← hh, Bd.state]; rfl
  have N0 := Fr.nil n0
  have Z0 : n0 ≤ h0.size := O0.1 ▸ O0.2.1
  have K0 : Keep h0 h0 [a1] := Keep.refl _ _
  have pre0 : ∀ t, Steps p.tables e below (s₁.setTop (mkF m 0 #[.val (.ref a1), .val (.int (1 : Int32)), .unset, .unset] [])) t → Steps p.tables e below (s₁.setTop (entryFrame m #[(.ref a1), (.int (1 : Int32))] 4)) t := fun t k => castTop (ef_16 m a1) k
  have pre1 : ∀ t, Steps p.tables e below (s₁.setTop (mkF m 1 #[.val (.ref a1), .val (.int (1 : Int32)), .unset, .unset] [(.ref a1)])) t → Steps p.tables e below (s₁.setTop (entryFrame m #[(.ref a1), (.int (1 : Int32))] 4)) t := fun t kt => by
    refine pre0 _ ?_
    show Steps p.tables e below (s₁.setTop (mkF m 0 #[.val (.ref a1), .val (.int (1 : Int32)), .unset, .unset] [])) _
    refine XS.aloadN X0.here hx rfl (hb hby d16_0) rfl rfl ?_
    exact kt
  obtain ⟨T2, X2, e2, st2⟩ := getF X0 hx hZ hown (host := "") (Or.inl (hw _ (List.mem_of_getElem? (i := 31) rfl))) Via.refl e0 Fe (g := (mkF m 1 #[.val (.ref a1), .val (.int (1 : Int32)), .unset, .unset] [(.ref a1)])) rfl rfl (hb hby d16_1)
  have pre3 : ∀ t, Steps p.tables e below (T2.setTop (mkF m 4 #[.val (.ref a1), .val (.int (1 : Int32)), .unset, .unset] [(.ref aE)])) t → Steps p.tables e below (s₁.setTop (entryFrame m #[(.ref a1), (.int (1 : Int32))] 4)) t := fun t kt => pre1 _ (st2 _ kt)
  obtain ⟨cl4, Ar4, qk4, Sz4, Nn4, Hh4, Gg4⟩ := id VE
  have pre5 : ∀ t, Steps p.tables e below (T2.setTop (mkF m 11 #[.val (.ref a1), .val (.int (1 : Int32)), .val (.int (0 : Int32)), .unset] [(.ref a1)])) t → Steps p.tables e below (s₁.setTop (entryFrame m #[(.ref a1), (.int (1 : Int32))] 4)) t := fun t kt => by
    refine pre3 _ ?_
    show Steps p.tables e below (T2.setTop (mkF m 4 #[.val (.ref a1), .val (.int (1 : Int32)), .unset, .unset] [(.ref aE)])) _
    refine X2.arraylength hx (by rw [e2]; exact Ar4.1) (State.isArrayOf_alike hZ.alike Ar4.2.1) (g := (mkF m 4 #[.val (.ref a1), .val (.int (1 : Int32)), .unset, .unset] [(.ref aE)])) rfl rfl (hb hby d16_4) _ ?_
    rw [len_of Sz4 Nn4]
    show Steps p.tables e below (T2.setTop (mkF m 5 #[.val (.ref a1), .val (.int (1 : Int32)), .unset, .unset] [(.int (0 : Int32))])) _
    refine XS.istoreN X2.here hx rfl (hb hby d16_5) rfl (l' := #[.val (.ref a1), .val (.int (1 : Int32)), .val (.int (0 : Int32)), .unset]) rfl ?_
    show Steps p.tables e below (T2.setTop (mkF m 6 #[.val (.ref a1), .val (.int (1 : Int32)), .val (.int (0 : Int32)), .unset] [])) _
    refine XS.iloadN X2.here hx rfl (hb hby d16_6) rfl ?_
    show Steps p.tables e below (T2.setTop (mkF m 7 #[.val (.ref a1), .val (.int (1 : Int32)), .val (.int (0 : Int32)), .unset] [(.int (0 : Int32))])) _
    refine XS.ifNo X2.here hx rfl (hb hby d16_7) rfl ((if0 _ _).trans (flt (by decide : ¬ ((0 : Int32) < (0 : Int32)))).2.2.1) ?_
    show Steps p.tables e below (T2.setTop (mkF m 10 #[.val (.ref a1), .val (.int (1 : Int32)), .val (.int (0 : Int32)), .unset] [])) _
    refine XS.aloadN X2.here hx rfl (hb hby d16_10) rfl rfl ?_
    exact kt
  obtain ⟨T6, X6, e6, st6⟩ := getF X2 hx hZ hown (host := "") (Or.inl (hw _ (List.mem_of_getElem? (i := 31) rfl))) Via.refl e2 Fe (g := (mkF m 11 #[.val (.ref a1), .val (.int (1 : Int32)), .val (.int (0 : Int32)), .unset] [(.ref a1)])) rfl rfl (hb hby d16_11)
  have pre7 : ∀ t, Steps p.tables e below (T6.setTop (mkF m 14 #[.val (.ref a1), .val (.int (1 : Int32)), .val (.int (0 : Int32)), .unset] [(.ref aE)])) t → Steps p.tables e below (s₁.setTop (entryFrame m #[(.ref a1), (.int (1 : Int32))] 4)) t := fun t kt => pre5 _ (st6 _ kt)
  obtain ⟨T8, X8, e8, st8⟩ := getS2 X6 hx hZ hown (host := "") (Or.inl (hw _ (List.mem_of_getElem? (i := 30) rfl))) Via.refl e6 (SE.ext O0.2) (g := (mkF m 14 #[.val (.ref a1), .val (.int (1 : Int32)), .val (.int (0 : Int32)), .unset] [(.ref aE)])) rfl (hb hby d16_14)
  have pre9 : ∀ t, Steps p.tables e below (T8.setTop (mkF m 17 #[.val (.ref a1), .val (.int (1 : Int32)), .val (.int (0 : Int32)), .unset] [(.ref aE), (.ref aE)])) t → Steps p.tables e below (s₁.setTop (entryFrame m #[(.ref a1), (.int (1 : Int32))] 4)) t := fun t kt => pre7 _ (st8 _ kt)
  have pre10 : ∀ t, Steps p.tables e below (T8.setTop (mkF m 49 #[.val (.ref a1), .val (.int (1 : Int32)), .val (.int (0 : Int32)), .unset] [(.int (1 : Int32)), (.int (10 : Int32)), (.ref a1)])) t → Steps p.tables e below (s₁.setTop (entryFrame m #[(.ref a1), (.int (1 : Int32))] 4)) t := fun t kt => by
    refine pre9 _ ?_
    show Steps p.tables e below (T8.setTop (mkF m 17 #[.val (.ref a1), .val (.int (1 : Int32)), .val (.int (0 : Int32)), .unset] [(.ref aE), (.ref aE)])) _
    refine Jvm.RoadKit.acmp (g := (mkF m 17 #[.val (.ref a1), .val (.int (1 : Int32)), .val (.int (0 : Int32)), .unset] [(.ref aE), (.ref aE)])) X8 hx rfl rfl rfl (pc0 := 17) (pc' := 45) (same := true) rfl (hb hby d16_17) rfl (decide_eq_true rfl) (by decide) (by decide) ?_
    show Steps p.tables e below (T8.setTop (mkF m 45 #[.val (.ref a1), .val (.int (1 : Int32)), .val (.int (0 : Int32)), .unset] [])) _
    refine XS.aloadN X8.here hx rfl (hb hby d16_45) rfl rfl ?_
    show Steps p.tables e below (T8.setTop (mkF m 46 #[.val (.ref a1), .val (.int (1 : Int32)), .val (.int (0 : Int32)), .unset] [(.ref a1)])) _
    refine XS.bipush X8.here hx rfl (hb hby d16_46) ?_
    show Steps p.tables e below (T8.setTop (mkF m 48 #[.val (.ref a1), .val (.int (1 : Int32)), .val (.int (0 : Int32)), .unset] [(.int (10 : Int32)), (.ref a1)])) _
    refine XS.iloadN X8.here hx rfl (hb hby d16_48) rfl ?_
    exact kt
  obtain ⟨_, _, ⟨T11, L11, kc11, nc11⟩, -, X11, ⟨Lc11, hQ11, l11, y11, z11⟩, st11⟩ := Jvm.LawKit.callS X8 hx (y := (⟨"java/lang/Math", "max", "(II)I"⟩ : MethodName)) hown (mvT hZ (hw _ (List.mem_of_getElem? (i := 115) rfl))) (mvT hZ (hw _ (List.mem_of_getElem? (i := 116) rfl))) (mvT hZ (hw _ (List.mem_of_getElem? (i := 117) rfl))) (mvT hZ (hw _ (List.mem_of_getElem? (i := 118) rfl))) (by decide) (backOf (W := 1) (rm17 l Z a0 hw [] (10 : Int32) (1 : Int32) h0 n0 Z0) hZ (hw _ (List.mem_of_getElem? (i := 118) rfl)) (hw _ (List.mem_of_getElem? (i := 117) rfl)) (by decide) (by decide)) (g := (mkF m 49 #[.val (.ref a1), .val (.int (1 : Int32)), .val (.int (0 : Int32)), .unset] [(.int (1 : Int32)), (.int (10 : Int32)), (.ref a1)])) rfl (by rw [hml]; rfl) (argsL := [(.int (10 : Int32)), (.int (1 : Int32))]) (rest := [(.ref a1)]) (lenOf pd_2 rfl) rfl (by show 2 * 0 + _ ≤ _; exact Nat.le_of_eq rfl) (hb hby d16_49) (fun _ _ => ⟨rfl, e8, (by decide : 0 + 0 ≤ _), (by decide : 0 + 0 ≤ _)⟩)
  dsimp only [Pt.U, Pt.locs, Pt.cells, Pt.slots] at X11 l11 y11 z11 st11 hQ11
  subst l11 y11 z11
  obtain ⟨rfl, N11q, he11⟩ := hQ11
  have N11 := Fr.app N0 N11q
  have pre12 : ∀ t, Steps p.tables e below (T11.setTop (mkF m 52 #[.val (.ref a1), .val (.int (1 : Int32)), .val (.int (0 : Int32)), .unset] [(.int (own_max (10 : Int32) (1 : Int32))), (.ref a1)])) t → Steps p.tables e below (s₁.setTop (entryFrame m #[(.ref a1), (.int (1 : Int32))] 4)) t := fun t kt => pre10 _ (st11 _ kt)
  have pre13 : ∀ t, Steps p.tables e below (T11.setTop (mkF m 52 #[.val (.ref a1), .val (.int (1 : Int32)), .val (.int (0 : Int32)), .unset] [(.int (10 : Int32)), (.ref a1)])) t → Steps p.tables e below (s₁.setTop (entryFrame m #[(.ref a1), (.int (1 : Int32))] 4)) t := fun t kt => by
    refine pre12 _ ?_
    show Steps p.tables e below (T11.setTop (mkF m 52 #[.val (.ref a1), .val (.int (1 : Int32)), .val (.int (0 : Int32)), .unset] [(.int (own_max (10 : Int32) (1 : Int32))), (.ref a1)])) _
    rw [show (own_max (10 : Int32) (1 : Int32)) = (10 : Int32) from by decide]
    exact kt
  obtain ⟨T14, h14, k14, X14, e14, E14, A14, O14, st14⟩ := newR X11 hx hZ hown (hw _ (List.mem_of_getElem? (i := 119) rfl)) (hw _ (List.mem_of_getElem? (i := 39) rfl)) he11 (g := (mkF m 52 #[.val (.ref a1), .val (.int (1 : Int32)), .val (.int (0 : Int32)), .unset] [(.int (10 : Int32)), (.ref a1)])) rfl (hb hby d16_52) rfl (by decide) (cap := 10) (by decide) (by decide) (by decide) (by decide)
  obtain ⟨b14, gq14⟩ : ∃ z, z = h0.size := ⟨_, rfl⟩
  rw [← gq14] at A14 st14
  have gg_b14 : n0 ≤ b14 := Nat.le_trans Z0 (Nat.le_of_eq gq14.symm)
  have sz_b14 : h0.size ≤ b14 := Nat.le_trans K0.1 (Nat.le_of_eq gq14.symm)
  have V14 : Arv Z h14 b14 k14 (.object "java/lang/Object") (10 : Int32) [.null, .null, .null, .null, .null, .null, .null, .null, .null, .null] .null := (Arv.new A14 (by decide)).pad (pad_rep [] .null 10)
  have pre15 : ∀ t, Steps p.tables e below (T14.setTop (mkF m 55 #[.val (.ref a1), .val (.int (1 : Int32)), .val (.int (0 : Int32)), .unset] [(.ref b14), (.ref a1)])) t → Steps p.tables e below (s₁.setTop (entryFrame m #[(.ref a1), (.int (1 : Int32))] 4)) t := fun t kt => pre13 _ (st14 _ kt)
  have f16 := (Fe.ext E14)
  have f17 := (E1.ext E14)
  have pre18 : ∀ t, Steps p.tables e below (T14.setTop (mkF m 56 #[.val (.ref a1), .val (.int (1 : Int32)), .val (.int (0 : Int32)), .unset] [(.ref b14), (.ref a1), (.ref b14)])) t → Steps p.tables e below (s₁.setTop (entryFrame m #[(.ref a1), (.int (1 : Int32))] 4)) t := fun t kt => by
    refine pre15 _ ?_
    show Steps p.tables e below (T14.setTop (mkF m 55 #[.val (.ref a1), .val (.int (1 : Int32)), .val (.int (0 : Int32)), .unset] [(.ref b14), (.ref a1)])) _
    refine XS.dupX1 X14.here hx rfl (hb hby d16_55) rfl rfl rfl ?_
    exact kt
  obtain ⟨T19, h19, X19, e19, W19, st19⟩ := putF X14 hx hZ hown (host := "") (Or.inl (hw _ (List.mem_of_getElem? (i := 31) rfl))) Via.refl e14 f16 f17 (Or.inl (hw _ (List.mem_of_getElem? (i := 32) rfl))) (hw _ (List.mem_of_getElem? (i := 10) rfl)) (ty := (.array (.object "java/lang/Object"))) (by decide) rfl rfl (g := (mkF m 56 #[.val (.ref a1), .val (.int (1 : Int32)), .val (.int (0 : Int32)), .unset] [(.ref b14), (.ref a1), (.ref b14)])) rfl rfl (hb hby d16_56)
  have Fw19 := f16.same W19
  have N19 := Fr.snoc X19 N11 g1
  have pre20 : ∀ t, Steps p.tables e below (T19.setTop (mkF m 59 #[.val (.ref a1), .val (.int (1 : Int32)), .val (.int (0 : Int32)), .unset] [(.ref b14)])) t → Steps p.tables e below (s₁.setTop (entryFrame m #[(.ref a1), (.int (1 : Int32))] 4)) t := fun t kt => pre18 _ (st19 _ kt)
  have k21 : Keep h0 h19 [a1] := ((K0.ext E14).wr W19 (Or.inl (List.mem_of_getElem? (i := 0) rfl)))
  have f22 := (f17.wr W19)
  have f23 := ((Fm.ext E14).other W19 (Or.inr (slot_ne (Or.inl (hw _ (List.mem_of_getElem? (i := 29) rfl))) (Or.inl (hw _ (List.mem_of_getElem? (i := 32) rfl))) (by decide) (t := .int) (t' := (.array (.object "java/lang/Object"))) (by decide) (by decide))))
  have f24 := ((Fs.ext E14).other W19 (Or.inr (slot_ne (Or.inl (hw _ (List.mem_of_getElem? (i := 99) rfl))) (Or.inl (hw _ (List.mem_of_getElem? (i := 32) rfl))) (by decide) (t := .int) (t' := (.array (.object "java/lang/Object"))) (by decide) (by decide))))
  have f25 := (V14.other W19 (Ne.symm (Nat.ne_of_lt (Nat.lt_of_lt_of_le E1.lt (Nat.le_of_eq gq14.symm)))))
  obtain ⟨fs, hr, hrun, hended, hW, hsame⟩ := X19.leave (v := (some (.ref b14))) (fun h => by rw [Bd.returns] at h; cases h)
  refine ⟨_, _, pre20 _ ?_, hrun, hended, _, _, rfl, ?_, ⟨_, rfl⟩, hW, hsame.mono (by decide) (by decide)⟩
  · show Steps p.tables e below (T19.setTop (mkF m 59 #[.val (.ref a1), .val (.int (1 : Int32)), .val (.int (0 : Int32)), .unset] [(.ref b14)])) _
    exact retOut X19 hx (t := (.array (.object "java/lang/Object"))) Bd.returns rfl (Or.inr (Or.inr (Or.inr (Or.inr ⟨rfl, rfl, rfl⟩)))) (hb hby d16_59) hr
  · show Q16 Z a1 aE kE mc h0 n0 _ T19.heap _
    rw [e19]
    exact ⟨by rw [gq14], N19, k21, f22, f23, f24, by rw [← gq14]; exact Fw19, _, by rw [← gq14]; exact f25, O14⟩
theorem ef_15 (m : MethodId) (a1 : Addr) : entryFrame m #[(.ref a1)] 1 = (mkF m 0 #[.val (.ref a1)] []) := by first | (simp [entryFrame, mkF, argsToLocals, Value.category]; done) | rfl
theorem d15_0 : decode jdk_38_method_7_code 0 = .ok (.aload_n 0, 1) := by decide +kernel
theorem d15_1 : decode jdk_38_method_7_code 1 = .ok (.aload_n 0, 1) := by decide +kernel
theorem d15_2 : decode jdk_38_method_7_code 2 = .ok (.getfield 48, 3) := by decide +kernel
theorem d15_5 : decode jdk_38_method_7_code 5 = .ok (.iconst 1, 1) := by decide +kernel
theorem d15_6 : decode jdk_38_method_7_code 6 = .ok (.iadd, 1) := by decide +kernel
theorem pd_3 : parseMethodDescriptor "(I)[Ljava/lang/Object;" = some ⟨[.int], some (.array (.object "java/lang/Object"))⟩ := by decide +kernel
theorem d15_7 : decode jdk_38_method_7_code 7 = .ok (.invokevirtual 69, 3) := by decide +kernel
theorem d15_10 : decode jdk_38_method_7_code 10 = .ok (.areturn, 1) := by decide +kernel
def Q15 (Z : State) (a1 : Addr) (aE : Addr) (kE : ClassId) (mc : Int32) (h0 : Heap) (n0 : Nat) (v : Option Value) (h : Heap) (L : List Loc) : Prop := v = some (.ref h0.size) ∧ Fr n0 L ∧ Keep h0 h [a1] ∧ Exa Z h a1 "java/util/ArrayList" ∧ Fld Z h a1 "java/util/AbstractList" "modCount" "I" (.int mc) ∧ Fld Z h a1 "java/util/ArrayList" "size" "I" (.int (0 : Int32)) ∧ Fld Z h a1 "java/util/ArrayList" "elementData" "[Ljava/lang/Object;" (.ref h0.size) ∧ ∃ k : ClassId, Arv Z h h0.size k (.object "java/lang/Object") (10 : Int32) [.null, .null, .null, .null, .null, .null, .null, .null, .null, .null] .null ∧ Ovr Z k "java/lang/Object"
set_option maxRecDepth 65536 in
set_option maxHeartbeats 40000000 in
theorem rm15 (l : Launch) (Z : State) (a0 : Array Value) (hw : ∀ d ∈ tables_1, d.before a0 Z = true) (ws : List Jvm.Cond) (a1 : Addr) (aE : Addr) (kE : ClassId) (mc : Int32) (h0 : Heap) (n0 : Nat) (O0 : Old Z n0 h0) (SE : Sta Z Z.heap "java/util/ArrayList" "DEFAULTCAPACITY_EMPTY_ELEMENTDATA" "[Ljava/lang/Object;" (.ref aE)) (VE : Arv Z h0 aE kE (.object "java/lang/Object") (0 : Int32) [] .null) (E1 : Exa Z h0 a1 "java/util/ArrayList") (Fm : Fld Z h0 a1 "java/util/AbstractList" "modCount" "I" (.int mc)) (Fe : Fld Z h0 a1 "java/util/ArrayList" "elementData" "[Ljava/lang/Object;" (.ref aE)) (Fs : Fld Z h0 a1 "java/util/ArrayList" "size" "I" (.int (0 : Int32))) (g1 : n0 ≤ a1) :
    MetFree l (⟨"java/util/ArrayList", "grow", "()[Ljava/lang/Object;"⟩ : MethodName) (head1 (Jvm.Cond.code (⟨"java/util/ArrayList", "grow", "()[Ljava/lang/Object;"⟩ : MethodName) jdk_38_method_7_code 1 (some (.array (.object "java/lang/Object"))) :: ws) ({ frames := 2, cells := 1, slots := 10, locals := 29 } : Room)) (fun a U => a = #[(.ref a1)] ∧ Z.Warmed39 U.vm ∧ U.heap = h0) (fun _ _ _ _ _ => True) (fun _ U o U' => ∃ v L, o = .returned v ∧ Q15 Z a1 aE kE mc h0 n0 v U'.heap L ∧ FrameEnd U o U' L ({ frames := 2, cells := 1, slots := 10, locals := 29 } : Room).cells ({ frames := 2, cells := 1, slots := 10, locals := 29 } : Room).slots) := by
  refine MetFree.of_bodySF (plainFor_of_name pn_2) hisR ?_
  intro p e s m args below meth c s₁ Bd hml0 hP hK
  obtain ⟨rfl, hZ, hh⟩ := hP
  have hx := Bd.exec
  have hby := Bd.bytes
  have hml : c.maxLocals = 1 := hml0
  have hown : s.vm.findClass "java/util/ArrayList" = some m.cls := findClass_of_methodNamed Bd.named
  have hnm := (name_of_methodNamed Bd.named Bd.method).1
  have X0 : Stand p l e ({ frames := 2, cells := 1, slots := 10, locals := 29 } : Room) s m #[(.ref a1)] below meth c s₁ [] 0 0 := Stand.of_body Bd
  have e0 : s₁.heap = h0 := by rw [← hh, Bd.state]; rfl
  have N0 := Fr.nil n0
  have Z0 : n0 ≤ h0.size := O0.1 ▸ O0.2.1
  have K0 : Keep h0 h0 [a1] := Keep.refl _ _
  have pre0 : ∀ t, Steps p.tables e below (s₁.setTop (mkF m 0 #[.val (.ref a1)] [])) t → Steps p.tables e below (s₁.setTop (entryFrame m #[(.ref a1)] 1)) t := fun t k => castTop (ef_15 m a1) k
  have pre1 : ∀ t, Steps p.tables e below (s₁.setTop (mkF m 2 #[.val (.ref a1)] [(.ref a1), (.ref a1)])) t → Steps p.tables e below (s₁.setTop (entryFrame m #[(.ref a1)] 1)) t := fun t kt => by
    refine pre0 _ ?_
    show Steps p.tables e below (s₁.setTop (mkF m 0 #[.val (.ref a1)] [])) _
    refine XS.aloadN X0.here hx rfl (hb hby d15_0) rfl rfl ?_
    show Steps p.tables e below (s₁.setTop (mkF m 1 #[.val (.ref a1)] [(.ref a1)])) _
    refine XS.aloadN X0.here hx rfl (hb hby d15_1) rfl rfl ?_
    exact kt
  obtain ⟨T2, X2, e2, st2⟩ := getF X0 hx hZ hown (host := "") (Or.inl (hw _ (List.mem_of_getElem? (i := 98) rfl))) Via.refl e0 Fs (g := (mkF m 2 #[.val (.ref a1)] [(.ref a1), (.ref a1)])) rfl rfl (hb hby d15_2)
  have pre3 : ∀ t, Steps p.tables e below (T2.setTop (mkF m 5 #[.val (.ref a1)] [(.int (0 : Int32)), (.ref a1)])) t → Steps p.tables e below (s₁.setTop (entryFrame m #[(.ref a1)] 1)) t := fun t kt => pre1 _ (st2 _ kt)
  have pre4 : ∀ t, Steps p.tables e below (T2.setTop (mkF m 7 #[.val (.ref a1)] [(.int (1 : Int32)), (.ref a1)])) t → Steps p.tables e below (s₁.setTop (entryFrame m #[(.ref a1)] 1)) t := fun t kt => by
    refine pre3 _ ?_
    show Steps p.tables e below (T2.setTop (mkF m 5 #[.val (.ref a1)] [(.int (0 : Int32)), (.ref a1)])) _
    refine XS.iconst X2.here hx rfl (hb hby d15_5) ?_
    show Steps p.tables e below (T2.setTop (mkF m 6 #[.val (.ref a1)] [(.int (1 : Int32)), (.int (0 : Int32)), (.ref a1)])) _
    refine XS.iadd X2.here hx rfl (hb hby d15_6) rfl ?_
    show Steps p.tables e below (T2.setTop (mkF m 7 #[.val (.ref a1)] [(.int ((0 : Int32) + (1 : Int32))), (.ref a1)])) _
    exact kt
  obtain ⟨cq5, q5, q5'⟩ := E1.cell
  obtain ⟨_, _, ⟨T6, L6, kc6, nc6⟩, -, X6, ⟨Lc6, hQ6, l6, y6, z6⟩, st6⟩ := X2.privateBack hx (y := (⟨"java/util/ArrayList", "grow", "(I)[Ljava/lang/Object;"⟩ : MethodName)) hown (mvT hZ (hw _ (List.mem_of_getElem? (i := 110) rfl))) (mvT hZ (hw _ (List.mem_of_getElem? (i := 111) rfl))) (mvT hZ (hw _ (List.mem_of_getElem? (i := 113) rfl))) (Cond.privateMethod_at (mvP hZ (hw _ (List.mem_of_getElem? (i := 112) rfl)) (args := #[]))) (mvT hZ (hw _ (List.mem_of_getElem? (i := 114) rfl))) (by decide) (backOf (W := 0) (rm16 l Z a0 hw [] a1 aE kE mc h0 n0 O0 SE VE E1 Fm Fe Fs g1) hZ (hw _ (List.mem_of_getElem? (i := 114) rfl)) (hw _ (List.mem_of_getElem? (i := 11) rfl)) (by decide) (by decide)) (g := (mkF m 7 #[.val (.ref a1)] [(.int (1 : Int32)), (.ref a1)])) rfl (by rw [hml]; rfl) (Steps.refl _) (a := a1) (by rw [e2]; exact q5) q5' (argsL := [(.int (1 : Int32))]) (rest := []) (lenOf pd_3 rfl) rfl (by show 2 * 0 + _ ≤ _; exact Nat.le_of_eq rfl) (hb hby d15_7) (fun _ _ => ⟨rfl, e2, (by decide : 0 + 1 ≤ _), (by decide : 0 + 10 ≤ _)⟩)
  dsimp only [Pt.U, Pt.locs, Pt.cells, Pt.slots] at X6 l6 y6 z6 st6 hQ6
  subst l6 y6 z6
  obtain ⟨rfl, N6q, K6, Ea6, Fm6, Fs6, Fe6, kk6, Va6, Ov6⟩ := hQ6
  have N6 := Fr.app N0 N6q
  have pre7 : ∀ t, Steps p.tables e below (T6.setTop (mkF m 10 #[.val (.ref a1)] [(.ref h0.size)])) t → Steps p.tables e below (s₁.setTop (entryFrame m #[(.ref a1)] 1)) t := fun t kt => pre4 _ (st6.trans kt)
  obtain ⟨fs, hr, hrun, hended, hW, hsame⟩ := X6.leave (v := (some (.ref h0.size))) (fun h => by rw [Bd.returns] at h; cases h)
  refine ⟨_, _, pre7 _ ?_, hrun, hended, _, _, rfl, ?_, ⟨_, rfl⟩, hW, hsame.mono (by decide) (by decide)⟩
  · show Steps p.tables e below (T6.setTop (mkF m 10 #[.val (.ref a1)] [(.ref h0.size)])) _
    exact retOut X6 hx (t := (.array (.object "java/lang/Object"))) Bd.returns rfl (Or.inr (Or.inr (Or.inr (Or.inr ⟨rfl, rfl, rfl⟩)))) (hb hby d15_10) hr
  · show Q15 Z a1 aE kE mc h0 n0 _ T6.heap _
    exact ⟨rfl, N6, K6, Ea6, Fm6, Fs6, Fe6, kk6, Va6, Ov6⟩
theorem ef_14a (m : MethodId) (a1 : Addr) (a2 : Addr) (aE : Addr) : entryFrame m #[(.ref a1), (.ref a2), (.ref aE), (.int (0 : Int32))] 4 = (mkF m 0 #[.val (.ref a1), .val (.ref a2), .val (.ref aE), .val (.int (0 : Int32))] []) := by first | (simp [entryFrame, mkF, argsToLocals, Value.category]; done) | rfl
theorem d14_0 : decode jdk_38_method_24_code 0 = .ok (.iload_n 3, 1) := by decide +kernel
theorem d14_1 : decode jdk_38_method_24_code 1 = .ok (.aload_n 2, 1) := by decide +kernel
theorem d14_2 : decode jdk_38_method_24_code 2 = .ok (.arraylength, 1) := by decide +kernel
theorem d14_3 : decode jdk_38_method_24_code 3 = .ok (.if_icmp .ne 8, 3) := by decide +kernel
theorem d14_6 : decode jdk_38_method_24_code 6 = .ok (.aload_n 0, 1) := by decide +kernel
theorem pd_4 : parseMethodDescriptor "()[Ljava/lang/Object;" = some ⟨[], some (.array (.object "java/lang/Object"))⟩ := by decide +kernel
theorem d14_7 : decode jdk_38_method_24_code 7 = .ok (.invokevirtual 129, 3) := by decide +kernel
theorem d14_10 : decode jdk_38_method_24_code 10 = .ok (.astore_n 2, 1) := by decide +kernel
theorem d14_11 : decode jdk_38_method_24_code 11 = .ok (.aload_n 2, 1) := by decide +kernel
theorem d14_12 : decode jdk_38_method_24_code 12 = .ok (.iload_n 3, 1) := by decide +kernel
theorem d14_13 : decode jdk_38_method_24_code 13 = .ok (.aload_n 1, 1) := by decide +kernel
theorem d14_14 : decode jdk_38_method_24_code 14 = .ok (.aastore, 1) := by decide +kernel
theorem d14_15 : decode jdk_38_method_24_code 15 = .ok (.aload_n 0, 1) := by decide +kernel
theorem d14_16 : decode jdk_38_method_24_code 16 = .ok (.iload_n 3, 1) := by decide +kernel
theorem d14_17 : decode jdk_38_method_24_code 17 = .ok (.iconst 1, 1) := by decide +kernel
theorem d14_18 : decode jdk_38_method_24_code 18 = .ok (.iadd, 1) := by decide +kernel
theorem d14_19 : decode jdk_38_method_24_code 19 = .ok (.putfield 48, 3) := by decide +kernel
theorem d14_22 : decode jdk_38_method_24_code 22 = .ok (.return_, 1) := by decide +kernel
def Q14a (Z : State) (a1 : Addr) (a2 : Addr) (aE : Addr) (kE : ClassId) (mc : Int32) (h0 : Heap) (n0 : Nat) (v : Option Value) (h : Heap) (L : List Loc) : Prop := v = none ∧ Fr n0 L ∧ Keep h0 h [a1] ∧ own_AL Z h n0 a1 aE 1
set_option maxRecDepth 65536 in
set_option maxHeartbeats 40000000 in
theorem rm14a (l : Launch) (Z : State) (a0 : Array Value) (hw : ∀ d ∈ tables_1, d.before a0 Z = true) (ws : List Jvm.Cond) (a1 : Addr) (a2 : Addr) (aE : Addr) (kE : ClassId) (mc : Int32) (h0 : Heap) (n0 : Nat) (O0 : Old Z n0 h0) (SE : Sta Z Z.heap "java/util/ArrayList" "DEFAULTCAPACITY_EMPTY_ELEMENTDATA" "[Ljava/lang/Object;" (.ref aE)) (VE : Arv Z h0 aE kE (.object "java/lang/Object") (0 : Int32) [] .null) (E1 : Exa Z h0 a1 "java/util/ArrayList") (Fm : Fld Z h0 a1 "java/util/AbstractList" "modCount" "I" (.int mc)) (Fe : Fld Z h0 a1 "java/util/ArrayList" "elementData" "[Ljava/lang/Object;" (.ref aE)) (Fs : Fld Z h0 a1 "java/util/ArrayList" "size" "I" (.int (0 : Int32))) (g1 : n0 ≤ a1) (E2 : Exa Z h0 a2 "beanforge/core/Recipe$Call") (nae : a1 ≠ aE) (na12 : a1 ≠ a2) :
    MetFree l (⟨"java/util/ArrayList", "add", "(Ljava/lang/Object;[Ljava/lang/Object;I)V"⟩ : MethodName) (head1 (Jvm.Cond.code (⟨"java/util/ArrayList", "add", "(Ljava/lang/Object;[Ljava/lang/Object;I)V"⟩ : MethodName) jdk_38_method_24_code 4 none :: ws) ({ frames := 3, cells := 1, slots := 10, locals := 41 } : Room)) (fun a U => a = #[(.ref a1), (.ref a2), (.ref aE), (.int (0 : Int32))] ∧ Z.Warmed39 U.vm ∧ U.heap = h0) (fun _ _ _ _ _ => True) (fun _ U o U' => ∃ v L, o = .returned v ∧ Q14a Z a1 a2 aE kE mc h0 n0 v U'.heap L ∧ FrameEnd U o U' L ({ frames := 3, cells := 1, slots := 10, locals := 41 } : Room).cells ({ frames := 3, cells := 1, slots := 10, locals := 41 } : Room).slots) := by
  refine MetFree.of_bodySF (plainFor_of_name pn_2) hisR ?_
  intro p e s m args below meth c s₁ Bd hml0 hP hK
  obtain ⟨rfl, hZ, hh⟩ := hP
  have hx := Bd.exec
  have hby := Bd.bytes
  have hml : c.maxLocals = 4 := hml0
  have hown : s.vm.findClass "java/util/ArrayList" = some m.cls := findClass_of_methodNamed Bd.named
  have hnm := (name_of_methodNamed Bd.named Bd.method).1
  have X0 : Stand p l e ({ frames := 3, cells := 1, slots := 10, locals := 41 } : Room) s m #[(.ref a1), (.ref a2), (.ref aE), (.int (0 : Int32))] below meth c s₁ [] 0 0 := Stand.of_body Bd
  have e0 : s₁.heap = h0 := by rw [← hh, Bd.state]; rfl
  have N0 := Fr.nil n0
  have Z0 : n0 ≤ h0.size := O0.1 ▸ O0.2.1
  have K0 : Keep h0 h0 [a1] := Keep.refl _ _
  have pre0 : ∀ t, Steps p.tables e below (s₁.setTop (mkF m 0 #[.val (.ref a1), .val (.ref a2), .val (.ref aE), .val (.int (0 : Int32))] [])) t → Steps p.tables e below (s₁.setTop (entryFrame m #[(.ref a1), (.ref a2), (.ref aE), (.int (0 : Int32))] 4)) t := fun t k => castTop (ef_14a m a1 a2 aE) k
  have pre1 : ∀ t, Steps p.tables e below (s₁.setTop (mkF m 2 #[.val (.ref a1), .val (.ref a2), .val (.ref aE), .val (.int (0 : Int32))] [(.ref aE), (.int (0 : Int32))])) t → Steps p.tables e below (s₁.setTop (entryFrame m #[(.ref a1), (.ref a2), (.ref aE), (.int (0 : Int32))] 4)) t := fun t kt => by
    refine pre0 _ ?_
    show Steps p.tables e below (s₁.setTop (mkF m 0 #[.val (.ref a1), .val (.ref a2), .val (.ref aE), .val (.int (0 : Int32))] [])) _
    refine XS.iloadN X0.here hx rfl (hb hby d14_0) rfl ?_
    show Steps p.tables e below (s₁.setTop (mkF m 1 #[.val (.ref a1), .val (.ref a2), .val (.ref aE), .val (.int (0 : Int32))] [(.int (0 : Int32))])) _
    refine XS.aloadN X0.here hx rfl (hb hby d14_1) rfl rfl ?_
    exact kt
  obtain ⟨cl2, Ar2, qk2, Sz2, Nn2, Hh2, Gg2⟩ := id VE
  have pre3 : ∀ t, Steps p.tables e below (s₁.setTop (mkF m 7 #[.val (.ref a1), .val (.ref a2), .val (.ref aE), .val (.int (0 : Int32))] [(.ref a1)])) t → Steps p.tables e below (s₁.setTop (entryFrame m #[(.ref a1), (.ref a2), (.ref aE), (.int (0 : Int32))] 4)) t := fun t kt => by
    refine pre1 _ ?_
    show Steps p.tables e below (s₁.setTop (mkF m 2 #[.val (.ref a1), .val (.ref a2), .val (.ref aE), .val (.int (0 : Int32))] [(.ref aE), (.int (0 : Int32))])) _
    refine X0.arraylength hx (by rw [e0]; exact Ar2.1) (State.isArrayOf_alike hZ.alike Ar2.2.1) (g := (mkF m 2 #[.val (.ref a1), .val (.ref a2), .val (.ref aE), .val (.int (0 : Int32))] [(.ref aE), (.int (0 : Int32))])) rfl rfl (hb hby d14_2) _ ?_
    rw [len_of Sz2 Nn2]
    show Steps p.tables e below (s₁.setTop (mkF m 3 #[.val (.ref a1), .val (.ref a2), .val (.ref aE), .val (.int (0 : Int32))] [(.int (0 : Int32)), (.int (0 : Int32))])) _
    refine XS.icmpNo X0.here hx rfl (hb hby d14_3) rfl (teq (by decide : (0 : Int32) = (0 : Int32))).2 ?_
    show Steps p.tables e below (s₁.setTop (mkF m 6 #[.val (.ref a1), .val (.ref a2), .val (.ref aE), .val (.int (0 : Int32))] [])) _
    refine XS.aloadN X0.here hx rfl (hb hby d14_6) rfl rfl ?_
    exact kt
  obtain ⟨cq4, q4, q4'⟩ := E1.cell
  obtain ⟨_, _, ⟨T5, L5, kc5, nc5⟩, -, X5, ⟨Lc5, hQ5, l5, y5, z5⟩, st5⟩ := X0.privateBack hx (y := (⟨"java/util/ArrayList", "grow", "()[Ljava/lang/Object;"⟩ : MethodName)) hown (mvT hZ (hw _ (List.mem_of_getElem? (i := 105) rfl))) (mvT hZ (hw _ (List.mem_of_getElem? (i := 106) rfl))) (mvT hZ (hw _ (List.mem_of_getElem? (i := 108) rfl))) (Cond.privateMethod_at (mvP hZ (hw _ (List.mem_of_getElem? (i := 107) rfl)) (args := #[]))) (mvT hZ (hw _ (List.mem_of_getElem? (i := 109) rfl))) (by decide) (backOf (W := 0) (rm15 l Z a0 hw [] a1 aE kE mc h0 n0 O0 SE VE E1 Fm Fe Fs g1) hZ (hw _ (List.mem_of_getElem? (i := 109) rfl)) (hw _ (List.mem_of_getElem? (i := 11) rfl)) (by decide) (by decide)) (g := (mkF m 7 #[.val (.ref a1), .val (.ref a2), .val (.ref aE), .val (.int (0 : Int32))] [(.ref a1)])) rfl (by rw [hml]; rfl) (Steps.refl _) (a := a1) (by rw [e0]; exact q4) q4' (argsL := []) (rest := []) (lenOf pd_4 rfl) rfl (by show 2 * 0 + _ ≤ _; exact Nat.le_of_eq rfl) (hb hby d14_7) (fun _ _ => ⟨rfl, e0, (by decide : 0 + 1 ≤ _), (by decide : 0 + 10 ≤ _)⟩)
  dsimp only [Pt.U, Pt.locs, Pt.cells, Pt.slots] at X5 l5 y5 z5 st5 hQ5
  subst l5 y5 z5
  obtain ⟨rfl, N5q, K5, Ea5, Fm5, Fs5, Fe5, kk5, Va5, Ov5⟩ := hQ5
  have N5 := Fr.app N0 N5q
  obtain ⟨b5, gq5⟩ : ∃ z, z = h0.size := ⟨_, rfl⟩
  rw [← gq5] at Fe5 Va5 st5
  have gg_b5 : n0 ≤ b5 := Nat.le_trans Z0 (Nat.le_of_eq gq5.symm)
  have sz_b5 : h0.size ≤ b5 := Nat.le_trans K0.1 (Nat.le_of_eq gq5.symm)
  have pre6 : ∀ t, Steps p.tables e below (T5.setTop (mkF m 10 #[.val (.ref a1), .val (.ref a2), .val (.ref aE), .val (.int (0 : Int32))] [(.ref b5)])) t → Steps p.tables e below (s₁.setTop (entryFrame m #[(.ref a1), (.ref a2), (.ref aE), (.int (0 : Int32))] 4)) t := fun t kt => pre3 _ (st5.trans kt)
  obtain ⟨cl7, Ar7, qk7, Sz7, Nn7, Hh7, Gg7⟩ := id Va5
  have hin7 : ¬ ((0 : Int32) < 0 ∨ cl7.slots.size ≤ ((0 : Int32)).toNatClampNeg) := inb_of Sz7 ⟨by decide, by decide⟩
  have f8 := (E2.keep K5)
  have pre9 : ∀ t, Steps p.tables e below (T5.setTop (mkF m 14 #[.val (.ref a1), .val (.ref a2), .val (.ref b5), .val (.int (0 : Int32))] [(.ref a2), (.int (0 : Int32)), (.ref b5)])) t → Steps p.tables e below (s₁.setTop (entryFrame m #[(.ref a1), (.ref a2), (.ref aE), (.int (0 : Int32))] 4)) t := fun t kt => by
    refine pre6 _ ?_
    show Steps p.tables e below (T5.setTop (mkF m 10 #[.val (.ref a1), .val (.ref a2), .val (.ref aE), .val (.int (0 : Int32))] [(.ref b5)])) _
    refine XS.astoreN X5.here hx rfl (hb hby d14_10) rfl rfl (l' := #[.val (.ref a1), .val (.ref a2), .val (.ref b5), .val (.int (0 : Int32))]) rfl ?_
    show Steps p.tables e below (T5.setTop (mkF m 11 #[.val (.ref a1), .val (.ref a2), .val (.ref b5), .val (.int (0 : Int32))] [])) _
    refine XS.aloadN X5.here hx rfl (hb hby d14_11) rfl rfl ?_
    show Steps p.tables e below (T5.setTop (mkF m 12 #[.val (.ref a1), .val (.ref a2), .val (.ref b5), .val (.int (0 : Int32))] [(.ref b5)])) _
    refine XS.iloadN X5.here hx rfl (hb hby d14_12) rfl ?_
    show Steps p.tables e below (T5.setTop (mkF m 13 #[.val (.ref a1), .val (.ref a2), .val (.ref b5), .val (.int (0 : Int32))] [(.int (0 : Int32)), (.ref b5)])) _
    refine XS.aloadN X5.here hx rfl (hb hby d14_13) rfl rfl ?_
    exact kt
  obtain ⟨T10, h10, X10, e10, W10, st10⟩ := stR X5 hx hZ rfl Ar7 (j := (0 : Int32)) hin7 rfl (Sto.ofV Ar7 qk7 Ov5 (Ins.of_exa f8 (hw _ (List.mem_of_getElem? (i := 120) rfl)))) (g := (mkF m 14 #[.val (.ref a1), .val (.ref a2), .val (.ref b5), .val (.int (0 : Int32))] [(.ref a2), (.int (0 : Int32)), (.ref b5)])) rfl rfl (hb hby d14_14)
  have V10 := Arv.set Ar7 qk7 Sz7 Nn7 Hh7 Gg7 rfl W10 0 rfl (Nat.le_of_ble_eq_true rfl)
  have V10' : Arv Z h10 b5 kk5 (.object "java/lang/Object") (10 : Int32) [(.ref a2), .null, .null, .null, .null, .null, .null, .null, .null, .null] .null := V10
  have N10 := Fr.snoc X10 N5 gg_b5
  have pre11 : ∀ t, Steps p.tables e below (T10.setTop (mkF m 15 #[.val (.ref a1), .val (.ref a2), .val (.ref b5), .val (.int (0 : Int32))] [])) t → Steps p.tables e below (s₁.setTop (entryFrame m #[(.ref a1), (.ref a2), (.ref aE), (.int (0 : Int32))] 4)) t := fun t kt => pre9 _ (st10 _ kt)
  have f12 := (Fs5.other W10 (Or.inl (Nat.ne_of_lt (Nat.lt_of_lt_of_le E1.lt (Nat.le_of_eq gq5.symm)))))
  have f13 := (Ea5.wr W10)
  have pre14 : ∀ t, Steps p.tables e below (T10.setTop (mkF m 19 #[.val (.ref a1), .val (.ref a2), .val (.ref b5), .val (.int (0 : Int32))] [(.int (1 : Int32)), (.ref a1)])) t → Steps p.tables e below (s₁.setTop (entryFrame m #[(.ref a1), (.ref a2), (.ref aE), (.int (0 : Int32))] 4)) t := fun t kt => by
    refine pre11 _ ?_
    show Steps p.tables e below (T10.setTop (mkF m 15 #[.val (.ref a1), .val (.ref a2), .val (.ref b5), .val (.int (0 : Int32))] [])) _
    refine XS.aloadN X10.here hx rfl (hb hby d14_15) rfl rfl ?_
    show Steps p.tables e below (T10.setTop (mkF m 16 #[.val (.ref a1), .val (.ref a2), .val (.ref b5), .val (.int (0 : Int32))] [(.ref a1)])) _
    refine XS.iloadN X10.here hx rfl (hb hby d14_16) rfl ?_
    show Steps p.tables e below (T10.setTop (mkF m 17 #[.val (.ref a1), .val (.ref a2), .val (.ref b5), .val (.int (0 : Int32))] [(.int (0 : Int32)), (.ref a1)])) _
    refine XS.iconst X10.here hx rfl (hb hby d14_17) ?_
    show Steps p.tables e below (T10.setTop (mkF m 18 #[.val (.ref a1), .val (.ref a2), .val (.ref b5), .val (.int (0 : Int32))] [(.int (1 : Int32)), (.int (0 : Int32)), (.ref a1)])) _
    refine XS.iadd X10.here hx rfl (hb hby d14_18) rfl ?_
    show Steps p.tables e below (T10.setTop (mkF m 19 #[.val (.ref a1), .val (.ref a2), .val (.ref b5), .val (.int (0 : Int32))] [(.int ((0 : Int32) + (1 : Int32))), (.ref a1)])) _
    exact kt
  obtain ⟨T15, h15, X15, e15, W15, st15⟩ := putF X10 hx hZ hown (host := "") (Or.inl (hw _ (List.mem_of_getElem? (i := 98) rfl))) Via.refl e10 f12 f13 (Or.inl (hw _ (List.mem_of_getElem? (i := 99) rfl))) (hw _ (List.mem_of_getElem? (i := 10) rfl)) (ty := .int) (by decide) rfl rfl (g := (mkF m 19 #[.val (.ref a1), .val (.ref a2), .val (.ref b5), .val (.int (0 : Int32))] [(.int (1 : Int32)), (.ref a1)])) rfl rfl (hb hby d14_19)
  have Fw15 := f12.same W15
  have N15 := Fr.snoc X15 N10 g1
  have pre16 : ∀ t, Steps p.tables e below (T15.setTop (mkF m 22 #[.val (.ref a1), .val (.ref a2), .val (.ref b5), .val (.int (0 : Int32))] [])) t → Steps p.tables e below (s₁.setTop (entryFrame m #[(.ref a1), (.ref a2), (.ref aE), (.int (0 : Int32))] 4)) t := fun t kt => pre14 _ (st15 _ kt)
  have k17 : Keep h0 h15 [a1] := (((K0.trans K5 (allS (Or.inl (List.mem_of_getElem? (i := 0) rfl)) all0)).wr W10 (Or.inr sz_b5)).wr W15 (Or.inl (List.mem_of_getElem? (i := 0) rfl)))
  have f18 := (f13.wr W15)
  have f19 := ((Fm5.other W10 (Or.inl (Nat.ne_of_lt (Nat.lt_of_lt_of_le E1.lt (Nat.le_of_eq gq5.symm))))).other W15 (Or.inr (slot_ne (Or.inl (hw _ (List.mem_of_getElem? (i := 29) rfl))) (Or.inl (hw _ (List.mem_of_getElem? (i := 99) rfl))) (by decide) (t := .int) (t' := .int) (by decide) (by decide))))
  have f20 := ((Fe5.other W10 (Or.inl (Nat.ne_of_lt (Nat.lt_of_lt_of_le E1.lt (Nat.le_of_eq gq5.symm))))).other W15 (Or.inr (slot_ne (Or.inl (hw _ (List.mem_of_getElem? (i := 32) rfl))) (Or.inl (hw _ (List.mem_of_getElem? (i := 99) rfl))) (by decide) (t := (.array (.object "java/lang/Object"))) (t' := .int) (by decide) (by decide))))
  have f21 := (V10'.other W15 (Ne.symm (Nat.ne_of_lt (Nat.lt_of_lt_of_le E1.lt (Nat.le_of_eq gq5.symm)))))
  obtain ⟨fs, hr, hrun, hended, hW, hsame⟩ := X15.leave (v := none) (fun _ => rfl)
  refine ⟨_, _, pre16 _ ?_, hrun, hended, _, _, rfl, ?_, ⟨_, rfl⟩, hW, hsame.mono (by decide) (by decide)⟩
  · show Steps p.tables e below (T15.setTop (mkF m 22 #[.val (.ref a1), .val (.ref a2), .val (.ref b5), .val (.int (0 : Int32))] [])) _
    exact X15.returnOut hx Bd.returns (hb hby d14_22) hr
  · show Q14a Z a1 a2 aE kE mc h0 n0 _ T15.heap _
    rw [e15]
    exact ⟨rfl, N15, k17, f18, ⟨_, f19⟩, Fw15, g1, Or.inr ⟨by decide, b5, kk5, _, f20, f21, Ov5, gg_b5, (Nat.ne_of_lt (Nat.lt_of_lt_of_le E1.lt (Nat.le_of_eq gq5.symm)))⟩⟩
theorem ef_14b (m : MethodId) (a1 : Addr) (a2 : Addr) (d : Addr) : entryFrame m #[(.ref a1), (.ref a2), (.ref d), (.int (Int32.ofNat cc))] 4 = (mkF m 0 #[.val (.ref a1), .val (.ref a2), .val (.ref d), .val (.int (Int32.ofNat cc))] []) := by first | (simp [entryFrame, mkF, argsToLocals, Value.category]; done) | rfl
def Q14b (Z : State) (a1 : Addr) (a2 : Addr) (aE : Addr) (d : Addr) (kd : ClassId) (vs : List Value) (mc : Int32) (cc : Nat) (h0 : Heap) (n0 : Nat) (v : Option Value) (h : Heap) (L : List Loc) : Prop := v = none ∧ Fr n0 L ∧ Keep h0 h [a1, d] ∧ own_AL Z h n0 a1 aE (cc + 1)
set_option maxRecDepth 65536 in
set_option maxHeartbeats 40000000 in
theorem rm14b (l : Launch) (Z : State) (a0 : Array Value) (hw : ∀ d ∈ tables_1, d.before a0 Z = true) (ws : List Jvm.Cond) (a1 : Addr) (a2 : Addr) (aE : Addr) (d : Addr) (kd : ClassId) (vs : List Value) (mc : Int32) (cc : Nat) (h0 : Heap) (n0 : Nat) (Z0 : n0 ≤ h0.size) (hc1 : 1 ≤ cc) (hc2 : cc < 10) (Vd : Arv Z h0 d kd (.object "java/lang/Object") (10 : Int32) vs .null) (Od : Ovr Z kd "java/lang/Object") (gd : n0 ≤ d) (nbd : a1 ≠ d) (E1 : Exa Z h0 a1 "java/util/ArrayList") (Fm : Fld Z h0 a1 "java/util/AbstractList" "modCount" "I" (.int mc)) (Fe : Fld Z h0 a1 "java/util/ArrayList" "elementData" "[Ljava/lang/Object;" (.ref d)) (Fs : Fld Z h0 a1 "java/util/ArrayList" "size" "I" (.int (Int32.ofNat cc))) (g1 : n0 ≤ a1) (E2 : Exa Z h0 a2 "beanforge/core/Recipe$Call") :
    MetFree l (⟨"java/util/ArrayList", "add", "(Ljava/lang/Object;[Ljava/lang/Object;I)V"⟩ : MethodName) (head1 (Jvm.Cond.code (⟨"java/util/ArrayList", "add", "(Ljava/lang/Object;[Ljava/lang/Object;I)V"⟩ : MethodName) jdk_38_method_24_code 4 none :: ws) ({ frames := 0, cells := 0, slots := 0, locals := 0 } : Room)) (fun a U => a = #[(.ref a1), (.ref a2), (.ref d), (.int (Int32.ofNat cc))] ∧ Z.Warmed39 U.vm ∧ U.heap = h0) (fun _ _ _ _ _ => True) (fun _ U o U' => ∃ v L, o = .returned v ∧ Q14b Z a1 a2 aE d kd vs mc cc h0 n0 v U'.heap L ∧ FrameEnd U o U' L ({ frames := 0, cells := 0, slots := 0, locals := 0 } : Room).cells ({ frames := 0, cells := 0, slots := 0, locals := 0 } : Room).slots) := by
  refine MetFree.of_bodySF (plainFor_of_name pn_2) hisR ?_
  intro p e s m args below meth c s₁ Bd hml0 hP hK
  obtain ⟨rfl, hZ, hh⟩ := hP
  have hx := Bd.exec
  have hby := Bd.bytes
  have hml : c.maxLocals = 4 := hml0
  have hown : s.vm.findClass "java/util/ArrayList" = some m.cls := findClass_of_methodNamed Bd.named
  have hnm := (name_of_methodNamed Bd.named Bd.method).1
  have X0 : Stand p l e ({ frames := 0, cells := 0, slots := 0, locals := 0 } : Room) s m #[(.ref a1), (.ref a2), (.ref d), (.int (Int32.ofNat cc))] below meth c s₁ [] 0 0 := Stand.of_body Bd
  have e0 : s₁.heap = h0 := by rw [← hh, Bd.state]; rfl
  have N0 := Fr.nil n0
  have K0 : Keep h0 h0 [a1, d] := Keep.refl _ _
  have pre0 : ∀ t, Steps p.tables e below (s₁.setTop (mkF m 0 #[.val (.ref a1), .val (.ref a2), .val (.ref d), .val (.int (Int32.ofNat cc))] [])) t → Steps p.tables e below (s₁.setTop (entryFrame m #[(.ref a1), (.ref a2), (.ref d), (.int (Int32.ofNat cc))] 4)) t := fun t k => castTop (ef_14b m a1 a2 d) k
  have pre1 : ∀ t, Steps p.tables e below (s₁.setTop (mkF m 2 #[.val (.ref a1), .val (.ref a2), .val (.ref d), .val (.int (Int32.ofNat cc))] [(.ref d), (.int (Int32.ofNat cc))])) t → Steps p.tables e below (s₁.setTop (entryFrame m #[(.ref a1), (.ref a2), (.ref d), (.int (Int32.ofNat cc))] 4)) t := fun t kt => by
    refine pre0 _ ?_
    show Steps p.tables e below (s₁.setTop (mkF m 0 #[.val (.ref a1), .val (.ref a2), .val (.ref d), .val (.int (Int32.ofNat cc))] [])) _
    refine XS.iloadN X0.here hx rfl (hb hby d14_0) rfl ?_
    show Steps p.tables e below (s₁.setTop (mkF m 1 #[.val (.ref a1), .val (.ref a2), .val (.ref d), .val (.int (Int32.ofNat cc))] [(.int (Int32.ofNat cc))])) _
    refine XS.aloadN X0.here hx rfl (hb hby d14_1) rfl rfl ?_
    exact kt
  obtain ⟨cl2, Ar2, qk2, Sz2, Nn2, Hh2, Gg2⟩ := id Vd
  have pre3 : ∀ t, Steps p.tables e below (s₁.setTop (mkF m 14 #[.val (.ref a1), .val (.ref a2), .val (.ref d), .val (.int (Int32.ofNat cc))] [(.ref a2), (.int (Int32.ofNat cc)), (.ref d)])) t → Steps p.tables e below (s₁.setTop (entryFrame m #[(.ref a1), (.ref a2), (.ref d), (.int (Int32.ofNat cc))] 4)) t := fun t kt => by
    refine pre1 _ ?_
    show Steps p.tables e below (s₁.setTop (mkF m 2 #[.val (.ref a1), .val (.ref a2), .val (.ref d), .val (.int (Int32.ofNat cc))] [(.ref d), (.int (Int32.ofNat cc))])) _
    refine X0.arraylength hx (by rw [e0]; exact Ar2.1) (State.isArrayOf_alike hZ.alike Ar2.2.1) (g := (mkF m 2 #[.val (.ref a1), .val (.ref a2), .val (.ref d), .val (.int (Int32.ofNat cc))] [(.ref d), (.int (Int32.ofNat cc))])) rfl rfl (hb hby d14_2) _ ?_
    rw [len_of Sz2 Nn2]
    show Steps p.tables e below (s₁.setTop (mkF m 3 #[.val (.ref a1), .val (.ref a2), .val (.ref d), .val (.int (Int32.ofNat cc))] [(.int (10 : Int32)), (.int (Int32.ofNat cc))])) _
    refine XS.icmpYes X0.here hx rfl (pc0 := 3) (pc' := 11) rfl (hb hby d14_3) rfl (feq ((own_ne10 hc2) : ¬ ((Int32.ofNat cc) = (10 : Int32)))).2 (by decide) (by decide) ?_
    show Steps p.tables e below (s₁.setTop (mkF m 11 #[.val (.ref a1), .val (.ref a2), .val (.ref d), .val (.int (Int32.ofNat cc))] [])) _
    refine XS.aloadN X0.here hx rfl (hb hby d14_11) rfl rfl ?_
    show Steps p.tables e below (s₁.setTop (mkF m 12 #[.val (.ref a1), .val (.ref a2), .val (.ref d), .val (.int (Int32.ofNat cc))] [(.ref d)])) _
    refine XS.iloadN X0.here hx rfl (hb hby d14_12) rfl ?_
    show Steps p.tables e below (s₁.setTop (mkF m 13 #[.val (.ref a1), .val (.ref a2), .val (.ref d), .val (.int (Int32.ofNat cc))] [(.int (Int32.ofNat cc)), (.ref d)])) _
    refine XS.aloadN X0.here hx rfl (hb hby d14_13) rfl rfl ?_
    exact kt
  obtain ⟨cl, Ar, qk, Sz, Nn, Hh, Gg⟩ := Vd.pad (pad_rep _ _ 10)
  have hin : ¬ ((Int32.ofNat cc) < 0 ∨ cl.slots.size ≤ ((Int32.ofNat cc)).toNatClampNeg) := inb_of Sz ⟨own_nneg (by omega), own_lt10 hc2⟩
  obtain ⟨T4, h4, X4, e4, W4, st4⟩ := stR X0 hx hZ e0 Ar (j := (Int32.ofNat cc)) hin rfl (Sto.ofV Ar qk Od (Ins.of_exa E2 (hw _ (List.mem_of_getElem? (i := 120) rfl)))) (g := (mkF m 14 #[.val (.ref a1), .val (.ref a2), .val (.ref d), .val (.int (Int32.ofNat cc))] [(.ref a2), (.int (Int32.ofNat cc)), (.ref d)])) rfl rfl (hb hby d14_14)
  have V4 := Arv.set Ar qk Sz Nn Hh Gg rfl W4 cc (own_clamp (by omega)) (by rw [List.length_append, List.length_replicate]; omega)
  have N4 := Fr.snoc X4 N0 gd
  have pre5 : ∀ t, Steps p.tables e below (T4.setTop (mkF m 15 #[.val (.ref a1), .val (.ref a2), .val (.ref d), .val (.int (Int32.ofNat cc))] [])) t → Steps p.tables e below (s₁.setTop (entryFrame m #[(.ref a1), (.ref a2), (.ref d), (.int (Int32.ofNat cc))] 4)) t := fun t kt => pre3 _ (st4 _ kt)
  have f6 := (Fs.other W4 (Or.inl nbd))
  have f7 := (E1.wr W4)
  have pre8 : ∀ t, Steps p.tables e below (T4.setTop (mkF m 19 #[.val (.ref a1), .val (.ref a2), .val (.ref d), .val (.int (Int32.ofNat cc))] [(.int (Int32.ofNat (cc + 1))), (.ref a1)])) t → Steps p.tables e below (s₁.setTop (entryFrame m #[(.ref a1), (.ref a2), (.ref d), (.int (Int32.ofNat cc))] 4)) t := fun t kt => by
    refine pre5 _ ?_
    show Steps p.tables e below (T4.setTop (mkF m 15 #[.val (.ref a1), .val (.ref a2), .val (.ref d), .val (.int (Int32.ofNat cc))] [])) _
    refine XS.aloadN X4.here hx rfl (hb hby d14_15) rfl rfl ?_
    show Steps p.tables e below (T4.setTop (mkF m 16 #[.val (.ref a1), .val (.ref a2), .val (.ref d), .val (.int (Int32.ofNat cc))] [(.ref a1)])) _
    refine XS.iloadN X4.here hx rfl (hb hby d14_16) rfl ?_
    show Steps p.tables e below (T4.setTop (mkF m 17 #[.val (.ref a1), .val (.ref a2), .val (.ref d), .val (.int (Int32.ofNat cc))] [(.int (Int32.ofNat cc)), (.ref a1)])) _
    refine XS.iconst X4.here hx rfl (hb hby d14_17) ?_
    show Steps p.tables e below (T4.setTop (mkF m 18 #[.val (.ref a1), .val (.ref a2), .val (.ref d), .val (.int (Int32.ofNat cc))] [(.int (1 : Int32)), (.int (Int32.ofNat cc)), (.ref a1)])) _
    refine XS.iadd X4.here hx rfl (hb hby d14_18) rfl ?_
    show Steps p.tables e below (T4.setTop (mkF m 19 #[.val (.ref a1), .val (.ref a2), .val (.ref d), .val (.int (Int32.ofNat cc))] [(.int ((Int32.ofNat cc) + (1 : Int32))), (.ref a1)])) _
    rw [show ((Int32.ofNat cc) + (1 : Int32)) = (Int32.ofNat (cc + 1)) from own_next (by omega)]
    exact kt
  obtain ⟨T9, h9, X9, e9, W9, st9⟩ := putF X4 hx hZ hown (host := "") (Or.inl (hw _ (List.mem_of_getElem? (i := 98) rfl))) Via.refl e4 f6 f7 (Or.inl (hw _ (List.mem_of_getElem? (i := 99) rfl))) (hw _ (List.mem_of_getElem? (i := 10) rfl)) (ty := .int) (by decide) rfl rfl (g := (mkF m 19 #[.val (.ref a1), .val (.ref a2), .val (.ref d), .val (.int (Int32.ofNat cc))] [(.int (Int32.ofNat (cc + 1))), (.ref a1)])) rfl rfl (hb hby d14_19)
  have Fw9 := f6.same W9
  have N9 := Fr.snoc X9 N4 g1
  have pre10 : ∀ t, Steps p.tables e below (T9.setTop (mkF m 22 #[.val (.ref a1), .val (.ref a2), .val (.ref d), .val (.int (Int32.ofNat cc))] [])) t → Steps p.tables e below (s₁.setTop (entryFrame m #[(.ref a1), (.ref a2), (.ref d), (.int (Int32.ofNat cc))] 4)) t := fun t kt => pre8 _ (st9 _ kt)
  have k11 : Keep h0 h9 [a1, d] := ((K0.wr W4 (Or.inl (List.mem_of_getElem? (i := 1) rfl))).wr W9 (Or.inl (List.mem_of_getElem? (i := 0) rfl)))
  have f12 := (f7.wr W9)
  have f13 := ((Fm.other W4 (Or.inl nbd)).other W9 (Or.inr (slot_ne (Or.inl (hw _ (List.mem_of_getElem? (i := 29) rfl))) (Or.inl (hw _ (List.mem_of_getElem? (i := 99) rfl))) (by decide) (t := .int) (t' := .int) (by decide) (by decide))))
  have f14 := ((Fe.other W4 (Or.inl nbd)).other W9 (Or.inr (slot_ne (Or.inl (hw _ (List.mem_of_getElem? (i := 32) rfl))) (Or.inl (hw _ (List.mem_of_getElem? (i := 99) rfl))) (by decide) (t := (.array (.object "java/lang/Object"))) (t' := .int) (by decide) (by decide))))
  have f15 := (V4.other W9 (Ne.symm nbd))
  obtain ⟨fs, hr, hrun, hended, hW, hsame⟩ := X9.leave (v := none) (fun _ => rfl)
  refine ⟨_, _, pre10 _ ?_, hrun, hended, _, _, rfl, ?_, ⟨_, rfl⟩, hW, hsame.mono (by decide) (by decide)⟩
  · show Steps p.tables e below (T9.setTop (mkF m 22 #[.val (.ref a1), .val (.ref a2), .val (.ref d), .val (.int (Int32.ofNat cc))] [])) _
    exact X9.returnOut hx Bd.returns (hb hby d14_22) hr
  · show Q14b Z a1 a2 aE d kd vs mc cc h0 n0 _ T9.heap _
    rw [e9]
    exact ⟨rfl, N9, k11, f12, ⟨_, f13⟩, Fw9, g1, Or.inr ⟨by omega, d, kd, _, f14, f15, Od, gd, nbd⟩⟩
theorem ef_13a (m : MethodId) (a1 : Addr) (a2 : Addr) : entryFrame m #[(.ref a1), (.ref a2)] 2 = (mkF m 0 #[.val (.ref a1), .val (.ref a2)] []) := by first | (simp [entryFrame, mkF, argsToLocals, Value.category]; done) | rfl
theorem d13_0 : decode jdk_38_method_25_code 0 = .ok (.aload_n 0, 1) := by decide +kernel
theorem d13_1 : decode jdk_38_method_25_code 1 = .ok (.dup, 1) := by decide +kernel
theorem d13_2 : decode jdk_38_method_25_code 2 = .ok (.getfield 63, 3) := by decide +kernel
theorem d13_5 : decode jdk_38_method_25_code 5 = .ok (.iconst 1, 1) := by decide +kernel
theorem d13_6 : decode jdk_38_method_25_code 6 = .ok (.iadd, 1) := by decide +kernel
theorem d13_7 : decode jdk_38_method_25_code 7 = .ok (.putfield 63, 3) := by decide +kernel
theorem d13_10 : decode jdk_38_method_25_code 10 = .ok (.aload_n 0, 1) := by decide +kernel
theorem d13_11 : decode jdk_38_method_25_code 11 = .ok (.aload_n 1, 1) := by decide +kernel
theorem d13_12 : decode jdk_38_method_25_code 12 = .ok (.aload_n 0, 1) := by decide +kernel
theorem d13_13 : decode jdk_38_method_25_code 13 = .ok (.getfield 9, 3) := by decide +kernel
theorem d13_16 : decode jdk_38_method_25_code 16 = .ok (.aload_n 0, 1) := by decide +kernel
theorem d13_17 : decode jdk_38_method_25_code 17 = .ok (.getfield 48, 3) := by decide +kernel
theorem pd_5 : parseMethodDescriptor "(Ljava/lang/Object;[Ljava/lang/Object;I)V" = some ⟨[(.object "java/lang/Object"), (.array (.object "java/lang/Object")), .int], none⟩ := by decide +kernel
theorem d13_20 : decode jdk_38_method_25_code 20 = .ok (.invokevirtual 131, 3) := by decide +kernel
theorem d13_23 : decode jdk_38_method_25_code 23 = .ok (.iconst 1, 1) := by decide +kernel
theorem d13_24 : decode jdk_38_method_25_code 24 = .ok (.ireturn, 1) := by decide +kernel
def Q13a (Z : State) (a1 : Addr) (a2 : Addr) (aE : Addr) (kE : ClassId) (mc : Int32) (h0 : Heap) (n0 : Nat) (v : Option Value) (h : Heap) (L : List Loc) : Prop := v = some (.int (1 : Int32)) ∧ Fr n0 L ∧ Keep h0 h [a1] ∧ own_AL Z h n0 a1 aE 1
set_option maxRecDepth 65536 in
set_option maxHeartbeats 40000000 in
theorem rm13a (l : Launch) (Z : State) (a0 : Array Value) (hw : ∀ d ∈ tables_1, d.before a0 Z = true) (ws : List Jvm.Cond) (a1 : Addr) (a2 : Addr) (aE : Addr) (kE : ClassId) (mc : Int32) (h0 : Heap) (n0 : Nat) (O0 : Old Z n0 h0) (SE : Sta Z Z.heap "java/util/ArrayList" "DEFAULTCAPACITY_EMPTY_ELEMENTDATA" "[Ljava/lang/Object;" (.ref aE)) (VE : Arv Z h0 aE kE (.object "java/lang/Object") (0 : Int32) [] .null) (E1 : Exa Z h0 a1 "java/util/ArrayList") (Fm : Fld Z h0 a1 "java/util/AbstractList" "modCount" "I" (.int mc)) (Fe : Fld Z h0 a1 "java/util/ArrayList" "elementData" "[Ljava/lang/Object;" (.ref aE)) (Fs : Fld Z h0 a1 "java/util/ArrayList" "size" "I" (.int (0 : Int32))) (g1 : n0 ≤ a1) (E2 : Exa Z h0 a2 "beanforge/core/Recipe$Call") (nae : a1 ≠ aE) (na12 : a1 ≠ a2) :
    MetFree l (⟨"java/util/ArrayList", "add", "(Ljava/lang/Object;)Z"⟩ : MethodName) (head1 (Jvm.Cond.code (⟨"java/util/ArrayList", "add", "(Ljava/lang/Object;)Z"⟩ : MethodName) jdk_38_method_25_code 2 (some .boolean) :: ws) ({ frames := 4, cells := 1, slots := 10, locals := 56 } : Room)) (fun a U => a = #[(.ref a1), (.ref a2)] ∧ Z.Warmed39 U.vm ∧ U.heap = h0) (fun _ _ _ _ _ => True) (fun _ U o U' => ∃ v L, o = .returned v ∧ Q13a Z a1 a2 aE kE mc h0 n0 v U'.heap L ∧ FrameEnd U o U' L ({ frames := 4, cells := 1, slots := 10, locals := 56 } : Room).cells ({ frames := 4, cells := 1, slots := 10, locals := 56 } : Room).slots) := by
  refine MetFree.of_bodySF (plainFor_of_name pn_2) hisR ?_
  intro p e s m args below meth c s₁ Bd hml0 hP hK
  obtain ⟨rfl, hZ, hh⟩ := hP
  have hx := Bd.exec
  have hby := Bd.bytes
  have hml : c.maxLocals = 2 := hml0
  have hown : s.vm.findClass "java/util/ArrayList" = some m.cls := findClass_of_methodNamed Bd.named
  have hnm := (name_of_methodNamed Bd.named Bd.method).1
  have X0 : Stand p l e ({ frames := 4, cells := 1, slots := 10, locals := 56 } : Room) s m #[(.ref a1), (.ref a2)] below meth c s₁ [] 0 0 := Stand.of_body Bd
  have e0 : s₁.heap = h0 := by rw [← hh, Bd.state]; rfl
  have N0 := Fr.nil n0
  have Z0 : n0 ≤ h0.size := O0.1 ▸ O0.2.1
  have K0 : Keep h0 h0 [a1] := Keep.refl _ _
  have pre0 : ∀ t, Steps p.tables e below (s₁.setTop (mkF m 0 #[.val (.ref a1), .val (.ref a2)] [])) t → Steps p.tables e below (s₁.setTop (entryFrame m #[(.ref a1), (.ref a2)] 2)) t := fun t k => castTop (ef_13a m a1 a2) k
  have pre1 : ∀ t, Steps p.tables e below (s₁.setTop (mkF m 2 #[.val (.ref a1), .val (.ref a2)] [(.ref a1), (.ref a1)])) t → Steps p.tables e below (s₁.setTop (entryFrame m #[(.ref a1), (.ref a2)] 2)) t := fun t kt => by
    refine pre0 _ ?_
    show Steps p.tables e below (s₁.setTop (mkF m 0 #[.val (.ref a1), .val (.ref a2)] [])) _
    refine XS.aloadN X0.here hx rfl (hb hby d13_0) rfl rfl ?_
    show Steps p.tables e below (s₁.setTop (mkF m 1 #[.val (.ref a1), .val (.ref a2)] [(.ref a1)])) _
    refine XS.dup X0.here hx rfl (hb hby d13_1) rfl rfl ?_
    exact kt
  obtain ⟨T2, X2, e2, st2⟩ := getF X0 hx hZ hown (host := "") (Or.inl (hw _ (List.mem_of_getElem? (i := 96) rfl))) (Via.of (hw _ (List.mem_of_getElem? (i := 97) rfl))) e0 Fm (g := (mkF m 2 #[.val (.ref a1), .val (.ref a2)] [(.ref a1), (.ref a1)])) rfl rfl (hb hby d13_2)
  have pre3 : ∀ t, Steps p.tables e below (T2.setTop (mkF m 5 #[.val (.ref a1), .val (.ref a2)] [(.int mc), (.ref a1)])) t → Steps p.tables e below (s₁.setTop (entryFrame m #[(.ref a1), (.ref a2)] 2)) t := fun t kt => pre1 _ (st2 _ kt)
  have pre4 : ∀ t, Steps p.tables e below (T2.setTop (mkF m 7 #[.val (.ref a1), .val (.ref a2)] [(.int (mc + (1 : Int32))), (.ref a1)])) t → Steps p.tables e below (s₁.setTop (entryFrame m #[(.ref a1), (.ref a2)] 2)) t := fun t kt => by
    refine pre3 _ ?_
    show Steps p.tables e below (T2.setTop (mkF m 5 #[.val (.ref a1), .val (.ref a2)] [(.int mc), (.ref a1)])) _
    refine XS.iconst X2.here hx rfl (hb hby d13_5) ?_
    show Steps p.tables e below (T2.setTop (mkF m 6 #[.val (.ref a1), .val (.ref a2)] [(.int (1 : Int32)), (.int mc), (.ref a1)])) _
    refine XS.iadd X2.here hx rfl (hb hby d13_6) rfl ?_
    exact kt
  obtain ⟨T5, h5, X5, e5, W5, st5⟩ := putF X2 hx hZ hown (host := "") (Or.inl (hw _ (List.mem_of_getElem? (i := 96) rfl))) (Via.of (hw _ (List.mem_of_getElem? (i := 97) rfl))) e2 Fm E1 (Or.inl (hw _ (List.mem_of_getElem? (i := 29) rfl))) (hw _ (List.mem_of_getElem? (i := 10) rfl)) (ty := .int) (by decide) rfl rfl (g := (mkF m 7 #[.val (.ref a1), .val (.ref a2)] [(.int (mc + (1 : Int32))), (.ref a1)])) rfl rfl (hb hby d13_7)
  have Fw5 := Fm.same W5
  have N5 := Fr.snoc X5 N0 g1
  have pre6 : ∀ t, Steps p.tables e below (T5.setTop (mkF m 10 #[.val (.ref a1), .val (.ref a2)] [])) t → Steps p.tables e below (s₁.setTop (entryFrame m #[(.ref a1), (.ref a2)] 2)) t := fun t kt => pre4 _ (st5 _ kt)
  have f7 := (Fe.other W5 (Or.inr (slot_ne (Or.inl (hw _ (List.mem_of_getElem? (i := 32) rfl))) (Or.inl (hw _ (List.mem_of_getElem? (i := 29) rfl))) (by decide) (t := (.array (.object "java/lang/Object"))) (t' := .int) (by decide) (by decide))))
  have pre8 : ∀ t, Steps p.tables e below (T5.setTop (mkF m 13 #[.val (.ref a1), .val (.ref a2)] [(.ref a1), (.ref a2), (.ref a1)])) t → Steps p.tables e below (s₁.setTop (entryFrame m #[(.ref a1), (.ref a2)] 2)) t := fun t kt => by
    refine pre6 _ ?_
    show Steps p.tables e below (T5.setTop (mkF m 10 #[.val (.ref a1), .val (.ref a2)] [])) _
    refine XS.aloadN X5.here hx rfl (hb hby d13_10) rfl rfl ?_
    show Steps p.tables e below (T5.setTop (mkF m 11 #[.val (.ref a1), .val (.ref a2)] [(.ref a1)])) _
    refine XS.aloadN X5.here hx rfl (hb hby d13_11) rfl rfl ?_
    show Steps p.tables e below (T5.setTop (mkF m 12 #[.val (.ref a1), .val (.ref a2)] [(.ref a2), (.ref a1)])) _
    refine XS.aloadN X5.here hx rfl (hb hby d13_12) rfl rfl ?_
    exact kt
  obtain ⟨T9, X9, e9, st9⟩ := getF X5 hx hZ hown (host := "") (Or.inl (hw _ (List.mem_of_getElem? (i := 31) rfl))) Via.refl e5 f7 (g := (mkF m 13 #[.val (.ref a1), .val (.ref a2)] [(.ref a1), (.ref a2), (.ref a1)])) rfl rfl (hb hby d13_13)
  have pre10 : ∀ t, Steps p.tables e below (T9.setTop (mkF m 16 #[.val (.ref a1), .val (.ref a2)] [(.ref aE), (.ref a2), (.ref a1)])) t → Steps p.tables e below (s₁.setTop (entryFrame m #[(.ref a1), (.ref a2)] 2)) t := fun t kt => pre8 _ (st9 _ kt)
  have f11 := (Fs.other W5 (Or.inr (slot_ne (Or.inl (hw _ (List.mem_of_getElem? (i := 99) rfl))) (Or.inl (hw _ (List.mem_of_getElem? (i := 29) rfl))) (by decide) (t := .int) (t' := .int) (by decide) (by decide))))
  have pre12 : ∀ t, Steps p.tables e below (T9.setTop (mkF m 17 #[.val (.ref a1), .val (.ref a2)] [(.ref a1), (.ref aE), (.ref a2), (.ref a1)])) t → Steps p.tables e below (s₁.setTop (entryFrame m #[(.ref a1), (.ref a2)] 2)) t := fun t kt => by
    refine pre10 _ ?_
    show Steps p.tables e below (T9.setTop (mkF m 16 #[.val (.ref a1), .val (.ref a2)] [(.ref aE), (.ref a2), (.ref a1)])) _
    refine XS.aloadN X9.here hx rfl (hb hby d13_16) rfl rfl ?_
    exact kt
  obtain ⟨T13, X13, e13, st13⟩ := getF X9 hx hZ hown (host := "") (Or.inl (hw _ (List.mem_of_getElem? (i := 98) rfl))) Via.refl e9 f11 (g := (mkF m 17 #[.val (.ref a1), .val (.ref a2)] [(.ref a1), (.ref aE), (.ref a2), (.ref a1)])) rfl rfl (hb hby d13_17)
  have pre14 : ∀ t, Steps p.tables e below (T13.setTop (mkF m 20 #[.val (.ref a1), .val (.ref a2)] [(.int (0 : Int32)), (.ref aE), (.ref a2), (.ref a1)])) t → Steps p.tables e below (s₁.setTop (entryFrame m #[(.ref a1), (.ref a2)] 2)) t := fun t kt => pre12 _ (st13 _ kt)
  have o15 : Old Z n0 h5 := (O0.wr W5 g1)
  have f16 := (VE.other W5 (Ne.symm nae))
  have f17 := (E1.wr W5)
  have f18 := (E2.wr W5)
  obtain ⟨cq19, q19, q19'⟩ := f17.cell
  obtain ⟨_, _, ⟨T20, L20, kc20, nc20⟩, -, X20, ⟨Lc20, hQ20, l20, y20, z20⟩, st20⟩ := X13.privateBack hx (y := (⟨"java/util/ArrayList", "add", "(Ljava/lang/Object;[Ljava/lang/Object;I)V"⟩ : MethodName)) hown (mvT hZ (hw _ (List.mem_of_getElem? (i := 100) rfl))) (mvT hZ (hw _ (List.mem_of_getElem? (i := 101) rfl))) (mvT hZ (hw _ (List.mem_of_getElem? (i := 103) rfl))) (Cond.privateMethod_at (mvP hZ (hw _ (List.mem_of_getElem? (i := 102) rfl)) (args := #[]))) (mvT hZ (hw _ (List.mem_of_getElem? (i := 104) rfl))) (by decide) (backOf (W := 0) (rm14a l Z a0 hw [] a1 a2 aE kE (mc + (1 : Int32)) h5 n0 o15 SE f16 f17 Fw5 f7 f11 g1 f18 nae na12) hZ (hw _ (List.mem_of_getElem? (i := 104) rfl)) (hw _ (List.mem_of_getElem? (i := 11) rfl)) (by decide) (by decide)) (g := (mkF m 20 #[.val (.ref a1), .val (.ref a2)] [(.int (0 : Int32)), (.ref aE), (.ref a2), (.ref a1)])) rfl (by rw [hml]; rfl) (Steps.refl _) (a := a1) (by rw [e13]; exact q19) q19' (argsL := [(.ref a2), (.ref aE), (.int (0 : Int32))]) (rest := []) (lenOf pd_5 rfl) rfl (by show 2 * 0 + _ ≤ _; exact Nat.le_of_eq rfl) (hb hby d13_20) (fun _ _ => ⟨rfl, e13, (by decide : 0 + 1 ≤ _), (by decide : 0 + 10 ≤ _)⟩)
  dsimp only [Pt.U, Pt.locs, Pt.cells, Pt.slots] at X20 l20 y20 z20 st20 hQ20
  subst l20 y20 z20
  obtain ⟨rfl, N20q, K20, AL20⟩ := hQ20
  have N20 := Fr.app N5 N20q
  have pre21 : ∀ t, Steps p.tables e below (T20.setTop (mkF m 23 #[.val (.ref a1), .val (.ref a2)] [])) t → Steps p.tables e below (s₁.setTop (entryFrame m #[(.ref a1), (.ref a2)] 2)) t := fun t kt => pre14 _ (st20.trans kt)
  have k22 : Keep h0 T20.heap [a1] := ((K0.wr W5 (Or.inl (List.mem_of_getElem? (i := 0) rfl))).trans K20 (allS (Or.inl (List.mem_of_getElem? (i := 0) rfl)) all0))
  have pre23 : ∀ t, Steps p.tables e below (T20.setTop (mkF m 24 #[.val (.ref a1), .val (.ref a2)] [(.int (1 : Int32))])) t → Steps p.tables e below (s₁.setTop (entryFrame m #[(.ref a1), (.ref a2)] 2)) t := fun t kt => by
    refine pre21 _ ?_
    show Steps p.tables e below (T20.setTop (mkF m 23 #[.val (.ref a1), .val (.ref a2)] [])) _
    refine XS.iconst X20.here hx rfl (hb hby d13_23) ?_
    exact kt
  obtain ⟨fs, hr, hrun, hended, hW, hsame⟩ := X20.leave (v := (some (.int (1 : Int32)))) (fun h => by rw [Bd.returns] at h; cases h)
  refine ⟨_, _, pre23 _ ?_, hrun, hended, _, _, rfl, ?_, ⟨_, rfl⟩, hW, hsame.mono (by decide) (by decide)⟩
  · show Steps p.tables e below (T20.setTop (mkF m 24 #[.val (.ref a1), .val (.ref a2)] [(.int (1 : Int32))])) _
    exact retN X20 hx (t := .boolean) Bd.returns (by simp) (hb hby d13_24) hr
  · show Q13a Z a1 a2 aE kE mc h0 n0 _ T20.heap _
    exact ⟨rfl, N20, k22, AL20⟩
theorem ef_13b (m : MethodId) (a1 : Addr) (a2 : Addr) : entryFrame m #[(.ref a1), (.ref a2)] 2 = (mkF m 0 #[.val (.ref a1), .val (.ref a2)] []) := by first | (simp [entryFrame, mkF, argsToLocals, Value.category]; done) | rfl
def Q13b (Z : State) (a1 : Addr) (a2 : Addr) (aE : Addr) (d : Addr) (kd : ClassId) (vs : List Value) (mc : Int32) (cc : Nat) (h0 : Heap) (n0 : Nat) (v : Option Value) (h : Heap) (L : List Loc) : Prop := v = some (.int (1 : Int32)) ∧ Fr n0 L ∧ Keep h0 h [a1, d] ∧ own_AL Z h n0 a1 aE (cc + 1)
set_option maxRecDepth 65536 in
set_option maxHeartbeats 40000000 in
theorem rm13b (l : Launch) (Z : State) (a0 : Array Value) (hw : ∀ d ∈ tables_1, d.before a0 Z = true) (ws : List Jvm.Cond) (a1 : Addr) (a2 : Addr) (aE : Addr) (d : Addr) (kd : ClassId) (vs : List Value) (mc : Int32) (cc : Nat) (h0 : Heap) (n0 : Nat) (Z0 : n0 ≤ h0.size) (hc1 : 1 ≤ cc) (hc2 : cc < 10) (Vd : Arv Z h0 d kd (.object "java/lang/Object") (10 : Int32) vs .null) (Od : Ovr Z kd "java/lang/Object") (gd : n0 ≤ d) (nbd : a1 ≠ d) (E1 : Exa Z h0 a1 "java/util/ArrayList") (Fm : Fld Z h0 a1 "java/util/AbstractList" "modCount" "I" (.int mc)) (Fe : Fld Z h0 a1 "java/util/ArrayList" "elementData" "[Ljava/lang/Object;" (.ref d)) (Fs : Fld Z h0 a1 "java/util/ArrayList" "size" "I" (.int (Int32.ofNat cc))) (g1 : n0 ≤ a1) (E2 : Exa Z h0 a2 "beanforge/core/Recipe$Call") :
    MetFree l (⟨"java/util/ArrayList", "add", "(Ljava/lang/Object;)Z"⟩ : MethodName) (head1 (Jvm.Cond.code (⟨"java/util/ArrayList", "add", "(Ljava/lang/Object;)Z"⟩ : MethodName) jdk_38_method_25_code 2 (some .boolean) :: ws) ({ frames := 1, cells := 0, slots := 0, locals := 15 } : Room)) (fun a U => a = #[(.ref a1), (.ref a2)] ∧ Z.Warmed39 U.vm ∧ U.heap = h0) (fun _ _ _ _ _ => True) (fun _ U o U' => ∃ v L, o = .returned v ∧ Q13b Z a1 a2 aE d kd vs mc cc h0 n0 v U'.heap L ∧ FrameEnd U o U' L ({ frames := 1, cells := 0, slots := 0, locals := 15 } : Room).cells ({ frames := 1, cells := 0, slots := 0, locals := 15 } : Room).slots) := by
  refine MetFree.of_bodySF (plainFor_of_name pn_2) hisR ?_
  intro p e s m args below meth c s₁ Bd hml0 hP hK
  obtain ⟨rfl, hZ, hh⟩ := hP
  have hx := Bd.exec
  have hby := Bd.bytes
  have hml : c.maxLocals = 2 := hml0
  have hown : s.vm.findClass "java/util/ArrayList" = some m.cls := findClass_of_methodNamed Bd.named
  have hnm := (name_of_methodNamed Bd.named Bd.method).1
  have X0 : Stand p l e ({ frames := 1, cells := 0, slots := 0, locals := 15 } : Room) s m #[(.ref a1), (.ref a2)] below meth c s₁ [] 0 0 := Stand.of_body Bd
  have e0 : s₁.heap = h0 := by rw [← hh, Bd.state]; rfl
  have N0 := Fr.nil n0
  have K0 : Keep h0 h0 [a1, d] := Keep.refl _ _
  have pre0 : ∀ t, Steps p.tables e below (s₁.setTop (mkF m 0 #[.val (.ref a1), .val (.ref a2)] [])) t → Steps p.tables e below (s₁.setTop (entryFrame m #[(.ref a1), (.ref a2)] 2)) t := fun t k => castTop (ef_13b m a1 a2) k
  have pre1 : ∀ t, Steps p.tables e below (s₁.setTop (mkF m 2 #[.val (.ref a1), .val (.ref a2)] [(.ref a1), (.ref a1)])) t → Steps p.tables e below (s₁.setTop (entryFrame m #[(.ref a1), (.ref a2)] 2)) t := fun t kt => by
    refine pre0 _ ?_
    show Steps p.tables e below (s₁.setTop (mkF m 0 #[.val (.ref a1), .val (.ref a2)] [])) _
    refine XS.aloadN X0.here hx rfl (hb hby d13_0) rfl rfl ?_
    show Steps p.tables e below (s₁.setTop (mkF m 1 #[.val (.ref a1), .val (.ref a2)] [(.ref a1)])) _
    refine XS.dup X0.here hx rfl (hb hby d13_1) rfl rfl ?_
    exact kt
  obtain ⟨T2, X2, e2, st2⟩ := getF X0 hx hZ hown (host := "") (Or.inl (hw _ (List.mem_of_getElem? (i := 96) rfl))) (Via.of (hw _ (List.mem_of_getElem? (i := 97) rfl))) e0 Fm (g := (mkF m 2 #[.val (.ref a1), .val (.ref a2)] [(.ref a1), (.ref a1)])) rfl rfl (hb hby d13_2)
  have pre3 : ∀ t, Steps p.tables e below (T2.setTop (mkF m 5 #[.val (.ref a1), .val (.ref a2)] [(.int mc), (.ref a1)])) t → Steps p.tables e below (s₁.setTop (entryFrame m #[(.ref a1), (.ref a2)] 2)) t := fun t kt => pre1 _ (st2 _ kt)
  have pre4 : ∀ t, Steps p.tables e below (T2.setTop (mkF m 7 #[.val (.ref a1), .val (.ref a2)] [(.int (mc + (1 : Int32))), (.ref a1)])) t → Steps p.tables e below (s₁.setTop (entryFrame m #[(.ref a1), (.ref a2)] 2)) t := fun t kt => by
    refine pre3 _ ?_
    show Steps p.tables e below (T2.setTop (mkF m 5 #[.val (.ref a1), .val (.ref a2)] [(.int mc), (.ref a1)])) _
    refine XS.iconst X2.here hx rfl (hb hby d13_5) ?_
    show Steps p.tables e below (T2.setTop (mkF m 6 #[.val (.ref a1), .val (.ref a2)] [(.int (1 : Int32)), (.int mc), (.ref a1)])) _
    refine XS.iadd X2.here hx rfl (hb hby d13_6) rfl ?_
    exact kt
  obtain ⟨T5, h5, X5, e5, W5, st5⟩ := putF X2 hx hZ hown (host := "") (Or.inl (hw _ (List.mem_of_getElem? (i := 96) rfl))) (Via.of (hw _ (List.mem_of_getElem? (i := 97) rfl))) e2 Fm E1 (Or.inl (hw _ (List.mem_of_getElem? (i := 29) rfl))) (hw _ (List.mem_of_getElem? (i := 10) rfl)) (ty := .int) (by decide) rfl rfl (g := (mkF m 7 #[.val (.ref a1), .val (.ref a2)] [(.int (mc + (1 : Int32))), (.ref a1)])) rfl rfl (hb hby d13_7)
  have Fw5 := Fm.same W5
  have N5 := Fr.snoc X5 N0 g1
  have pre6 : ∀ t, Steps p.tables e below (T5.setTop (mkF m 10 #[.val (.ref a1), .val (.ref a2)] [])) t → Steps p.tables e below (s₁.setTop (entryFrame m #[(.ref a1), (.ref a2)] 2)) t := fun t kt => pre4 _ (st5 _ kt)
  have f7 := (Fe.other W5 (Or.inr (slot_ne (Or.inl (hw _ (List.mem_of_getElem? (i := 32) rfl))) (Or.inl (hw _ (List.mem_of_getElem? (i := 29) rfl))) (by decide) (t := (.array (.object "java/lang/Object"))) (t' := .int) (by decide) (by decide))))
  have pre8 : ∀ t, Steps p.tables e below (T5.setTop (mkF m 13 #[.val (.ref a1), .val (.ref a2)] [(.ref a1), (.ref a2), (.ref a1)])) t → Steps p.tables e below (s₁.setTop (entryFrame m #[(.ref a1), (.ref a2)] 2)) t := fun t kt => by
    refine pre6 _ ?_
    show Steps p.tables e below (T5.setTop (mkF m 10 #[.val (.ref a1), .val (.ref a2)] [])) _
    refine XS.aloadN X5.here hx rfl (hb hby d13_10) rfl rfl ?_
    show Steps p.tables e below (T5.setTop (mkF m 11 #[.val (.ref a1), .val (.ref a2)] [(.ref a1)])) _
    refine XS.aloadN X5.here hx rfl (hb hby d13_11) rfl rfl ?_
    show Steps p.tables e below (T5.setTop (mkF m 12 #[.val (.ref a1), .val (.ref a2)] [(.ref a2), (.ref a1)])) _
    refine XS.aloadN X5.here hx rfl (hb hby d13_12) rfl rfl ?_
    exact kt
  obtain ⟨T9, X9, e9, st9⟩ := getF X5 hx hZ hown (host := "") (Or.inl (hw _ (List.mem_of_getElem? (i := 31) rfl))) Via.refl e5 f7 (g := (mkF m 13 #[.val (.ref a1), .val (.ref a2)] [(.ref a1), (.ref a2), (.ref a1)])) rfl rfl (hb hby d13_13)
  have pre10 : ∀ t, Steps p.tables e below (T9.setTop (mkF m 16 #[.val (.ref a1), .val (.ref a2)] [(.ref d), (.ref a2), (.ref a1)])) t → Steps p.tables e below (s₁.setTop (entryFrame m #[(.ref a1), (.ref a2)] 2)) t := fun t kt => pre8 _ (st9 _ kt)
  have f11 := (Fs.other W5 (Or.inr (slot_ne (Or.inl (hw _ (List.mem_of_getElem? (i := 99) rfl))) (Or.inl (hw _ (List.mem_of_getElem? (i := 29) rfl))) (by decide) (t := .int) (t' := .int) (by decide) (by decide))))
  have pre12 : ∀ t, Steps p.tables e below (T9.setTop (mkF m 17 #[.val (.ref a1), .val (.ref a2)] [(.ref a1), (.ref d), (.ref a2), (.ref a1)])) t → Steps p.tables e below (s₁.setTop (entryFrame m #[(.ref a1), (.ref a2)] 2)) t := fun t kt => by
    refine pre10 _ ?_
    show Steps p.tables e below (T9.setTop (mkF m 16 #[.val (.ref a1), .val (.ref a2)] [(.ref d), (.ref a2), (.ref a1)])) _
    refine XS.aloadN X9.here hx rfl (hb hby d13_16) rfl rfl ?_
    exact kt
  obtain ⟨T13, X13, e13, st13⟩ := getF X9 hx hZ hown (host := "") (Or.inl (hw _ (List.mem_of_getElem? (i := 98) rfl))) Via.refl e9 f11 (g := (mkF m 17 #[.val (.ref a1), .val (.ref a2)] [(.ref a1), (.ref d), (.ref a2), (.ref a1)])) rfl rfl (hb hby d13_17)
  have pre14 : ∀ t, Steps p.tables e below (T13.setTop (mkF m 20 #[.val (.ref a1), .val (.ref a2)] [(.int (Int32.ofNat cc)), (.ref d), (.ref a2), (.ref a1)])) t → Steps p.tables e below (s₁.setTop (entryFrame m #[(.ref a1), (.ref a2)] 2)) t := fun t kt => pre12 _ (st13 _ kt)
  have z15 : n0 ≤ h5.size := (Nat.le_trans Z0 (Keep.of_wr W5).1)
  have f16 := (Vd.other W5 (Ne.symm nbd))
  have f17 := (E1.wr W5)
  have f18 := (E2.wr W5)
  obtain ⟨cq19, q19, q19'⟩ := f17.cell
  obtain ⟨_, _, ⟨T20, L20, kc20, nc20⟩, -, X20, ⟨Lc20, hQ20, l20, y20, z20⟩, st20⟩ := X13.privateBack hx (y := (⟨"java/util/ArrayList", "add", "(Ljava/lang/Object;[Ljava/lang/Object;I)V"⟩ : MethodName)) hown (mvT hZ (hw _ (List.mem_of_getElem? (i := 100) rfl))) (mvT hZ (hw _ (List.mem_of_getElem? (i := 101) rfl))) (mvT hZ (hw _ (List.mem_of_getElem? (i := 103) rfl))) (Cond.privateMethod_at (mvP hZ (hw _ (List.mem_of_getElem? (i := 102) rfl)) (args := #[]))) (mvT hZ (hw _ (List.mem_of_getElem? (i := 104) rfl))) (by decide) (backOf (W := 0) (rm14b l Z a0 hw [] a1 a2 aE d kd vs (mc + (1 : Int32)) cc h5 n0 z15 hc1 hc2 f16 Od gd nbd f17 Fw5 f7 f11 g1 f18) hZ (hw _ (List.mem_of_getElem? (i := 104) rfl)) (hw _ (List.mem_of_getElem? (i := 11) rfl)) (by decide) (by decide)) (g := (mkF m 20 #[.val (.ref a1), .val (.ref a2)] [(.int (Int32.ofNat cc)), (.ref d), (.ref a2), (.ref a1)])) rfl (by rw [hml]; rfl) (Steps.refl _) (a := a1) (by rw [e13]; exact q19) q19' (argsL := [(.ref a2), (.ref d), (.int (Int32.ofNat cc))]) (rest := []) (lenOf pd_5 rfl) rfl (by show 2 * 0 + _ ≤ _; exact Nat.le_of_eq rfl) (hb hby d13_20) (fun _ _ => ⟨rfl, e13, (by decide : 0 + 0 ≤ _), (by decide : 0 + 0 ≤ _)⟩)
  dsimp only [Pt.U, Pt.locs, Pt.cells, Pt.slots] at X20 l20 y20 z20 st20 hQ20
  subst l20 y20 z20
  obtain ⟨rfl, N20q, K20, AL20⟩ := hQ20
  have N20 := Fr.app N5 N20q
  have pre21 : ∀ t, Steps p.tables e below (T20.setTop (mkF m 23 #[.val (.ref a1), .val (.ref a2)] [])) t → Steps p.tables e below (s₁.setTop (entryFrame m #[(.ref a1), (.ref a2)] 2)) t := fun t kt => pre14 _ (st20.trans kt)
  have k22 : Keep h0 T20.heap [a1, d] := ((K0.wr W5 (Or.inl (List.mem_of_getElem? (i := 0) rfl))).trans K20 (allS (Or.inl (List.mem_of_getElem? (i := 0) rfl)) (allS (Or.inl (List.mem_of_getElem? (i := 1) rfl)) all0)))
  have pre23 : ∀ t, Steps p.tables e below (T20.setTop (mkF m 24 #[.val (.ref a1), .val (.ref a2)] [(.int (1 : Int32))])) t → Steps p.tables e below (s₁.setTop (entryFrame m #[(.ref a1), (.ref a2)] 2)) t := fun t kt => by
    refine pre21 _ ?_
    show Steps p.tables e below (T20.setTop (mkF m 23 #[.val (.ref a1), .val (.ref a2)] [])) _
    refine XS.iconst X20.here hx rfl (hb hby d13_23) ?_
    exact kt
  obtain ⟨fs, hr, hrun, hended, hW, hsame⟩ := X20.leave (v := (some (.int (1 : Int32)))) (fun h => by rw [Bd.returns] at h; cases h)
  refine ⟨_, _, pre23 _ ?_, hrun, hended, _, _, rfl, ?_, ⟨_, rfl⟩, hW, hsame.mono (by decide) (by decide)⟩
  · show Steps p.tables e below (T20.setTop (mkF m 24 #[.val (.ref a1), .val (.ref a2)] [(.int (1 : Int32))])) _
    exact retN X20 hx (t := .boolean) Bd.returns (by simp) (hb hby d13_24) hr
  · show Q13b Z a1 a2 aE d kd vs mc cc h0 n0 _ T20.heap _
    exact ⟨rfl, N20, k22, AL20⟩
theorem ef_11a (m : MethodId) (r : Addr) (u : Value) (h_u : u.isRef = true) : entryFrame m #[(.ref r), .null, u] 3 = (mkF m 0 #[.val (.ref r), .val .null, .val u] []) := by rcases ref_cases h_u with rfl | ⟨_, rfl⟩ <;> first | (simp [entryFrame, mkF, argsToLocals, Value.category]; done) | rfl
theorem d11_0 : decode prog_89_method_3_code 0 = .ok (.aload_n 0, 1) := by decide +kernel
theorem d11_1 : decode prog_89_method_3_code 1 = .ok (.getfield 10, 3) := by decide +kernel
theorem d11_4 : decode prog_89_method_3_code 4 = .ok (.new 40, 3) := by decide +kernel
theorem d11_7 : decode prog_89_method_3_code 7 = .ok (.dup, 1) := by decide +kernel
theorem d11_8 : decode prog_89_method_3_code 8 = .ok (.aload_n 1, 1) := by decide +kernel
theorem d11_9 : decode prog_89_method_3_code 9 = .ok (.aload_n 2, 1) := by decide +kernel
theorem pd_6 : parseMethodDescriptor "(Lbeanforge/core/Preparation$Place;Lbeanforge/core/Overloads$Chosen;)V" = some ⟨[(.object "beanforge/core/Preparation$Place"), (.object "beanforge/core/Overloads$Chosen")], none⟩ := by decide +kernel
theorem d11_10 : decode prog_89_method_3_code 10 = .ok (.invokespecial 42, 3) := by decide +kernel
theorem pd_7 : parseMethodDescriptor "(Ljava/lang/Object;)Z" = some ⟨[(.object "java/lang/Object")], some .boolean⟩ := by decide +kernel
theorem d11_13 : decode prog_89_method_3_code 13 = .ok (.invokeinterface 45 2, 5) := by decide +kernel
theorem d11_18 : decode prog_89_method_3_code 18 = .ok (.pop, 1) := by decide +kernel
theorem d11_19 : decode prog_89_method_3_code 19 = .ok (.return_, 1) := by decide +kernel
def Q11a (Z : State) (r : Addr) (u : Value) (b : Addr) (aE : Addr) (kE : ClassId) (mc : Int32) (h0 : Heap) (n0 : Nat) (v : Option Value) (h : Heap) (L : List Loc) : Prop := v = none ∧ Fr n0 L ∧ Keep h0 h [b] ∧ own_AL Z h n0 b aE 1
set_option maxRecDepth 65536 in
set_option maxHeartbeats 40000000 in
theorem rm11a (l : Launch) (Z : State) (a0 : Array Value) (hw : ∀ d ∈ tables_1, d.before a0 Z = true) (ws : List Jvm.Cond) (r : Addr) (u : Value) (b : Addr) (aE : Addr) (kE : ClassId) (mc : Int32) (h0 : Heap) (n0 : Nat) (O0 : Old Z n0 h0) (hu : u.isRef = true) (Fc : Fld Z h0 r "beanforge/core/Recipe" "calls" "Ljava/util/List;" (.ref b)) (SE : Sta Z Z.heap "java/util/ArrayList" "DEFAULTCAPACITY_EMPTY_ELEMENTDATA" "[Ljava/lang/Object;" (.ref aE)) (VE : Arv Z h0 aE kE (.object "java/lang/Object") (0 : Int32) [] .null) (E1 : Exa Z h0 b "java/util/ArrayList") (Fm : Fld Z h0 b "java/util/AbstractList" "modCount" "I" (.int mc)) (Fe : Fld Z h0 b "java/util/ArrayList" "elementData" "[Ljava/lang/Object;" (.ref aE)) (Fs : Fld Z h0 b "java/util/ArrayList" "size" "I" (.int (0 : Int32))) (g1 : n0 ≤ b) (nae : b ≠ aE) :
    MetFree l (⟨"beanforge/core/Recipe", "called", "(Lbeanforge/core/Preparation$Place;Lbeanforge/core/Overloads$Chosen;)V"⟩ : MethodName) (head1 (Jvm.Cond.code (⟨"beanforge/core/Recipe", "called", "(Lbeanforge/core/Preparation$Place;Lbeanforge/core/Overloads$Chosen;)V"⟩ : MethodName) prog_89_method_3_code 3 none :: ws) ({ frames := 5, cells := 2, slots := 12, locals := 69 } : Room)) (fun a U => a = #[(.ref r), .null, u] ∧ Z.Warmed39 U.vm ∧ U.heap = h0) (fun _ _ _ _ _ => True) (fun _ U o U' => ∃ v L, o = .returned v ∧ Q11a Z r u b aE kE mc h0 n0 v U'.heap L ∧ FrameEnd U o U' L ({ frames := 5, cells := 2, slots := 12, locals := 69 } : Room).cells ({ frames := 5, cells := 2, slots := 12, locals := 69 } : Room).slots) := by
  refine MetFree.of_bodySF (plainFor_of_name pn_3) hisR ?_
  intro p e s m args below meth c s₁ Bd hml0 hP hK
  obtain ⟨rfl, hZ, hh⟩ := hP
  have hx := Bd.exec
  have hby := Bd.bytes
  have hml : c.maxLocals = 3 := hml0
  have hown : s.vm.findClass "beanforge/core/Recipe" = some m.cls := findClass_of_methodNamed Bd.named
  have hnm := (name_of_methodNamed Bd.named Bd.method).1
  have X0 : Stand p l e ({ frames := 5, cells := 2, slots := 12, locals := 69 } : Room) s m #[(.ref r), .null, u] below meth c s₁ [] 0 0 := Stand.of_body Bd
  have e0 : s₁.heap = h0 := by rw [← hh, Bd.state]; rfl
  have N0 := Fr.nil n0
  have Z0 : n0 ≤ h0.size := O0.1 ▸ O0.2.1
  have K0 : Keep h0 h0 [b] := Keep.refl _ _
  have pre0 : ∀ t, Steps p.tables e below (s₁.setTop (mkF m 0 #[.val (.ref r), .val .null, .val u] [])) t → Steps p.tables e below (s₁.setTop (entryFrame m #[(.ref r), .null, u] 3)) t := fun t k => castTop (ef_11a m r u hu) k
  have pre1 : ∀ t, Steps p.tables e below (s₁.setTop (mkF m 1 #[.val (.ref r), .val .null, .val u] [(.ref r)])) t → Steps p.tables e below (s₁.setTop (entryFrame m #[(.ref r), .null, u] 3)) t := fun t kt => by
    refine pre0 _ ?_
    show Steps p.tables e below (s₁.setTop (mkF m 0 #[.val (.ref r), .val .null, .val u] [])) _
    refine XS.aloadN X0.here hx rfl (hb hby d11_0) rfl rfl ?_
    exact kt
  obtain ⟨T2, X2, e2, st2⟩ := getF X0 hx hZ hown (host := "") (Or.inl (hw _ (List.mem_of_getElem? (i := 33) rfl))) Via.refl e0 Fc (g := (mkF m 1 #[.val (.ref r), .val .null, .val u] [(.ref r)])) rfl rfl (hb hby d11_1)
  have pre3 : ∀ t, Steps p.tables e below (T2.setTop (mkF m 4 #[.val (.ref r), .val .null, .val u] [(.ref b)])) t → Steps p.tables e below (s₁.setTop (entryFrame m #[(.ref r), .null, u] 3)) t := fun t kt => pre1 _ (st2 _ kt)
  obtain ⟨T4, h4, X4, e4, E4, A4, D4, -, st4⟩ := newO X2 hx hZ hown (hw _ (List.mem_of_getElem? (i := 76) rfl)) (hw _ (List.mem_of_getElem? (i := 77) rfl)) (hw _ (List.mem_of_getElem? (i := 78) rfl)) e2 (g := (mkF m 4 #[.val (.ref r), .val .null, .val u] [(.ref b)])) rfl (hb hby d11_4) (by decide) (by decide)
  obtain ⟨b4, gq4⟩ : ∃ z, z = h0.size := ⟨_, rfl⟩
  rw [← gq4] at A4 D4 st4
  have gg_b4 : n0 ≤ b4 := Nat.le_trans Z0 (Nat.le_of_eq gq4.symm)
  have sz_b4 : h0.size ≤ b4 := Nat.le_trans K0.1 (Nat.le_of_eq gq4.symm)
  have F4_place : Fld Z h4 b4 "beanforge/core/Recipe$Call" "place" "Lbeanforge/core/Preparation$Place;" .null := D4 (Or.inr (hw _ (List.mem_of_getElem? (i := 84) rfl))) (ty := (.object "beanforge/core/Preparation$Place")) (by decide)
  have F4_chosen : Fld Z h4 b4 "beanforge/core/Recipe$Call" "chosen" "Lbeanforge/core/Overloads$Chosen;" .null := D4 (Or.inr (hw _ (List.mem_of_getElem? (i := 86) rfl))) (ty := (.object "beanforge/core/Overloads$Chosen")) (by decide)
  have pre5 : ∀ t, Steps p.tables e below (T4.setTop (mkF m 7 #[.val (.ref r), .val .null, .val u] [(.ref b4), (.ref b)])) t → Steps p.tables e below (s₁.setTop (entryFrame m #[(.ref r), .null, u] 3)) t := fun t kt => pre3 _ (st4 _ kt)
  have z6 : n0 ≤ h4.size := (Nat.le_trans Z0 E4.1)
  have pre7 : ∀ t, Steps p.tables e below (T4.setTop (mkF m 10 #[.val (.ref r), .val .null, .val u] [u, .null, (.ref b4), (.ref b4), (.ref b)])) t → Steps p.tables e below (s₁.setTop (entryFrame m #[(.ref r), .null, u] 3)) t := fun t kt => by
    refine pre5 _ ?_
    show Steps p.tables e below (T4.setTop (mkF m 7 #[.val (.ref r), .val .null, .val u] [(.ref b4), (.ref b)])) _
    refine XS.dup X4.here hx rfl (hb hby d11_7) rfl rfl ?_
    show Steps p.tables e below (T4.setTop (mkF m 8 #[.val (.ref r), .val .null, .val u] [(.ref b4), (.ref b4), (.ref b)])) _
    refine XS.aloadN X4.here hx rfl (hb hby d11_8) rfl rfl ?_
    show Steps p.tables e below (T4.setTop (mkF m 9 #[.val (.ref r), .val .null, .val u] [.null, (.ref b4), (.ref b4), (.ref b)])) _
    refine XS.aloadN X4.here hx rfl (hb hby d11_9) rfl hu ?_
    exact kt
  obtain ⟨_, _, ⟨T8, L8, kc8, nc8⟩, -, X8, ⟨Lc8, hQ8, l8, y8, z8⟩, st8⟩ := own_special X4 hx (y := (⟨"beanforge/core/Recipe$Call", "<init>", "(Lbeanforge/core/Preparation$Place;Lbeanforge/core/Overloads$Chosen;)V"⟩ : MethodName)) rfl hown (own_ref hZ (hw _ (List.mem_of_getElem? (i := 79) rfl)) (hw _ (List.mem_of_getElem? (i := 81) rfl)) (by decide)) (mvT hZ (hw _ (List.mem_of_getElem? (i := 80) rfl))) (mvT hZ (hw _ (List.mem_of_getElem? (i := 81) rfl))) (by decide) (backOf (W := 2) (rm12 l Z a0 hw [] b4 u h4 n0 z6 hu A4 F4_place F4_chosen gg_b4) hZ (hw _ (List.mem_of_getElem? (i := 81) rfl)) (hw _ (List.mem_of_getElem? (i := 78) rfl)) (by decide) (by decide)) (g := (mkF m 10 #[.val (.ref r), .val .null, .val u] [u, .null, (.ref b4), (.ref b4), (.ref b)])) rfl (by rw [hml]; rfl) (Steps.refl _) (a := b4) (argsL := [.null, u]) (rest := [(.ref b4), (.ref b)]) (lenOf pd_6 rfl) rfl (by show 2 * 0 + _ ≤ _; exact Nat.le_of_eq rfl) (hb hby d11_10) (fun _ _ => ⟨rfl, e4, (by decide : 1 + 0 ≤ _), (by decide : 2 + 0 ≤ _)⟩)
  dsimp only [Pt.U, Pt.locs, Pt.cells, Pt.slots] at X8 l8 y8 z8 st8 hQ8
  subst l8 y8 z8
  obtain ⟨rfl, N8q, K8⟩ := hQ8
  have N8 := Fr.app N0 N8q
  have pre9 : ∀ t, Steps p.tables e below (T8.setTop (mkF m 13 #[.val (.ref r), .val .null, .val u] [(.ref b4), (.ref b)])) t → Steps p.tables e below (s₁.setTop (entryFrame m #[(.ref r), .null, u] 3)) t := fun t kt => pre7 _ (st8.trans kt)
  have o10 : Old Z n0 T8.heap := ((O0.ext E4).keep K8 (allS gg_b4 all0))
  have f11 := ((VE.ext E4).keep K8 (ninS (Nat.ne_of_lt (Nat.lt_of_lt_of_le VE.lt (Nat.le_of_eq gq4.symm))) nin0))
  have f12 := ((E1.ext E4).keep K8)
  have f13 := ((Fm.ext E4).keep K8 (ninS (Nat.ne_of_lt (Nat.lt_of_lt_of_le E1.lt (Nat.le_of_eq gq4.symm))) nin0))
  have f14 := ((Fe.ext E4).keep K8 (ninS (Nat.ne_of_lt (Nat.lt_of_lt_of_le E1.lt (Nat.le_of_eq gq4.symm))) nin0))
  have f15 := ((Fs.ext E4).keep K8 (ninS (Nat.ne_of_lt (Nat.lt_of_lt_of_le E1.lt (Nat.le_of_eq gq4.symm))) nin0))
  have f16 := (A4.keep K8)
  obtain ⟨cq17, kq17, q17a, q17b, q17c⟩ := isOf hZ rfl f12
  obtain ⟨_, _, ⟨T18, L18, kc18, nc18⟩, -, X18, ⟨Lc18, hQ18, l18, y18, z18⟩, st18⟩ := X8.interfaceBack hx (xi := (⟨"java/util/List", "add", "(Ljava/lang/Object;)Z"⟩ : MethodName)) (y := (⟨"java/util/ArrayList", "add", "(Ljava/lang/Object;)Z"⟩ : MethodName)) hown (mvT hZ (hw _ (List.mem_of_getElem? (i := 87) rfl))) (mvT hZ (hw _ (List.mem_of_getElem? (i := 88) rfl))) (mvT hZ (hw _ (List.mem_of_getElem? (i := 89) rfl))) (mvT hZ (hw _ (List.mem_of_getElem? (i := 90) rfl))) (mvT hZ (hw _ (List.mem_of_getElem? (i := 91) rfl))) (mvT hZ (hw _ (List.mem_of_getElem? (i := 92) rfl))) (mvT hZ (hw _ (List.mem_of_getElem? (i := 93) rfl))) (mvT hZ (hw _ (List.mem_of_getElem? (i := 94) rfl))) (by decide) (backOf (W := 0) (rm13a l Z a0 hw [] b b4 aE kE mc T8.heap n0 o10 SE f11 f12 f13 f14 f15 g1 f16 nae (Nat.ne_of_lt (Nat.lt_of_lt_of_le E1.lt (Nat.le_of_eq gq4.symm)))) hZ (hw _ (List.mem_of_getElem? (i := 95) rfl)) (hw _ (List.mem_of_getElem? (i := 11) rfl)) (by decide) (by decide)) q17a q17b q17c (g := (mkF m 13 #[.val (.ref r), .val .null, .val u] [(.ref b4), (.ref b)])) rfl (by rw [hml]; rfl) (Steps.refl _) (argsL := [(.ref b4)]) (rest := []) (lenOf pd_7 rfl) rfl (by show 2 * 0 + _ ≤ _; exact Nat.le_of_eq rfl) (hb hby d11_13) (fun _ _ => ⟨rfl, rfl, (by decide : 1 + 1 ≤ _), (by decide : 2 + 10 ≤ _)⟩)
  dsimp only [Pt.U, Pt.locs, Pt.cells, Pt.slots] at X18 l18 y18 z18 st18 hQ18
  subst l18 y18 z18
  obtain ⟨rfl, N18q, K18, AL18⟩ := hQ18
  have N18 := Fr.app N8 N18q
  have pre19 : ∀ t, Steps p.tables e below (T18.setTop (mkF m 18 #[.val (.ref r), .val .null, .val u] [(.int (1 : Int32))])) t → Steps p.tables e below (s₁.setTop (entryFrame m #[(.ref r), .null, u] 3)) t := fun t kt => pre9 _ (st18.trans kt)
  have k20 : Keep h0 T18.heap [b] := (((K0.ext E4).trans K8 (allS (Or.inr sz_b4) all0)).trans K18 (allS (Or.inl (List.mem_of_getElem? (i := 0) rfl)) all0))
  have pre21 : ∀ t, Steps p.tables e below (T18.setTop (mkF m 19 #[.val (.ref r), .val .null, .val u] [])) t → Steps p.tables e below (s₁.setTop (entryFrame m #[(.ref r), .null, u] 3)) t := fun t kt => by
    refine pre19 _ ?_
    show Steps p.tables e below (T18.setTop (mkF m 18 #[.val (.ref r), .val .null, .val u] [(.int (1 : Int32))])) _
    refine XS.pop X18.here hx rfl (hb hby d11_18) rfl rfl ?_
    exact kt
  obtain ⟨fs, hr, hrun, hended, hW, hsame⟩ := X18.leave (v := none) (fun _ => rfl)
  refine ⟨_, _, pre21 _ ?_, hrun, hended, _, _, rfl, ?_, ⟨_, rfl⟩, hW, hsame.mono (by decide) (by decide)⟩
  · show Steps p.tables e below (T18.setTop (mkF m 19 #[.val (.ref r), .val .null, .val u] [])) _
    exact X18.returnOut hx Bd.returns (hb hby d11_19) hr
  · show Q11a Z r u b aE kE mc h0 n0 _ T18.heap _
    exact ⟨rfl, N18, k20, AL18⟩
theorem ef_11b (m : MethodId) (r : Addr) (u : Value) (h_u : u.isRef = true) : entryFrame m #[(.ref r), .null, u] 3 = (mkF m 0 #[.val (.ref r), .val .null, .val u] []) := by rcases ref_cases h_u with rfl | ⟨_, rfl⟩ <;> first | (simp [entryFrame, mkF, argsToLocals, Value.category]; done) | rfl
def Q11b (Z : State) (r : Addr) (u : Value) (b : Addr) (aE : Addr) (d : Addr) (kd : ClassId) (vs : List Value) (mc : Int32) (cc : Nat) (h0 : Heap) (n0 : Nat) (v : Option Value) (h : Heap) (L : List Loc) : Prop := v = none ∧ Fr n0 L ∧ Keep h0 h [b, d] ∧ own_AL Z h n0 b aE (cc + 1)
set_option maxRecDepth 65536 in
set_option maxHeartbeats 40000000 in
theorem rm11b (l : Launch) (Z : State) (a0 : Array Value) (hw : ∀ d ∈ tables_1, d.before a0 Z = true) (ws : List Jvm.Cond) (r : Addr) (u : Value) (b : Addr) (aE : Addr) (d : Addr) (kd : ClassId) (vs : List Value) (mc : Int32) (cc : Nat) (h0 : Heap) (n0 : Nat) (Z0 : n0 ≤ h0.size) (hu : u.isRef = true) (Fc : Fld Z h0 r "beanforge/core/Recipe" "calls" "Ljava/util/List;" (.ref b)) (hc1 : 1 ≤ cc) (hc2 : cc < 10) (Vd : Arv Z h0 d kd (.object "java/lang/Object") (10 : Int32) vs .null) (Od : Ovr Z kd "java/lang/Object") (gd : n0 ≤ d) (nbd : b ≠ d) (E1 : Exa Z h0 b "java/util/ArrayList") (Fm : Fld Z h0 b "java/util/AbstractList" "modCount" "I" (.int mc)) (Fe : Fld Z h0 b "java/util/ArrayList" "elementData" "[Ljava/lang/Object;" (.ref d)) (Fs : Fld Z h0 b "java/util/ArrayList" "size" "I" (.int (Int32.ofNat cc))) (g1 : n0 ≤ b) :
    MetFree l (⟨"beanforge/core/Recipe", "called", "(Lbeanforge/core/Preparation$Place;Lbeanforge/core/Overloads$Chosen;)V"⟩ : MethodName) (head1 (Jvm.Cond.code (⟨"beanforge/core/Recipe", "called", "(Lbeanforge/core/Preparation$Place;Lbeanforge/core/Overloads$Chosen;)V"⟩ : MethodName) prog_89_method_3_code 3 none :: ws) ({ frames := 5, cells := 2, slots := 12, locals := 69 } : Room)) (fun a U => a = #[(.ref r), .null, u] ∧ Z.Warmed39 U.vm ∧ U.heap = h0) (fun _ _ _ _ _ => True) (fun _ U o U' => ∃ v L, o = .returned v ∧ Q11b Z r u b aE d kd vs mc cc h0 n0 v U'.heap L ∧ FrameEnd U o U' L ({ frames := 5, cells := 2, slots := 12, locals := 69 } : Room).cells ({ frames := 5, cells := 2, slots := 12, locals := 69 } : Room).slots) := by
  refine MetFree.of_bodySF (plainFor_of_name pn_3) hisR ?_
  intro p e s m args below meth c s₁ Bd hml0 hP hK
  obtain ⟨rfl, hZ, hh⟩ := hP
  have hx := Bd.exec
  have hby := Bd.bytes
  have hml : c.maxLocals = 3 := hml0
  have hown : s.vm.findClass "beanforge/core/Recipe" = some m.cls := findClass_of_methodNamed Bd.named
  have hnm := (name_of_methodNamed Bd.named Bd.method).1
  have X0 : Stand p l e ({ frames := 5, cells := 2, slots := 12, locals := 69 } : Room) s m #[(.ref r), .null, u] below meth c s₁ [] 0 0 := Stand.of_body Bd
  have e0 : s₁.heap = h0 := by rw [← hh, Bd.state]; rfl
  have N0 := Fr.nil n0
  have K0 : Keep h0 h0 [b, d] := Keep.refl _ _
  have pre0 : ∀ t, Steps p.tables e below (s₁.setTop (mkF m 0 #[.val (.ref r), .val .null, .val u] [])) t → Steps p.tables e below (s₁.setTop (entryFrame m #[(.ref r), .null, u] 3)) t := fun t k => castTop (ef_11b m r u hu) k
  have pre1 : ∀ t, Steps p.tables e below (s₁.setTop (mkF m 1 #[.val (.ref r), .val .null, .val u] [(.ref r)])) t → Steps p.tables e below (s₁.setTop (entryFrame m #[(.ref r), .null, u] 3)) t := fun t kt => by
    refine pre0 _ ?_
    show Steps p.tables e below (s₁.setTop (mkF m 0 #[.val (.ref r), .val .null, .val u] [])) _
    refine XS.aloadN X0.here hx rfl (hb hby d11_0) rfl rfl ?_
    exact kt
  obtain ⟨T2, X2, e2, st2⟩ := getF X0 hx hZ hown (host := "") (Or.inl (hw _ (List.mem_of_getElem? (i := 33) rfl))) Via.refl e0 Fc (g := (mkF m 1 #[.val (.ref r), .val .null, .val u] [(.ref r)])) rfl rfl (hb hby d11_1)
  have pre3 : ∀ t, Steps p.tables e below (T2.setTop (mkF m 4 #[.val (.ref r), .val .null, .val u] [(.ref b)])) t → Steps p.tables e below (s₁.setTop (entryFrame m #[(.ref r), .null, u] 3)) t := fun t kt => pre1 _ (st2 _ kt)
  obtain ⟨T4, h4, X4, e4, E4, A4, D4, -, st4⟩ := newO X2 hx hZ hown (hw _ (List.mem_of_getElem? (i := 76) rfl)) (hw _ (List.mem_of_getElem? (i := 77) rfl)) (hw _ (List.mem_of_getElem? (i := 78) rfl)) e2 (g := (mkF m 4 #[.val (.ref r), .val .null, .val u] [(.ref b)])) rfl (hb hby d11_4) (by decide) (by decide)
  obtain ⟨b4, gq4⟩ : ∃ z, z = h0.size := ⟨_, rfl⟩
  rw [← gq4] at A4 D4 st4
  have gg_b4 : n0 ≤ b4 := Nat.le_trans Z0 (Nat.le_of_eq gq4.symm)
  have sz_b4 : h0.size ≤ b4 := Nat.le_trans K0.1 (Nat.le_of_eq gq4.symm)
  have F4_place : Fld Z h4 b4 "beanforge/core/Recipe$Call" "place" "Lbeanforge/core/Preparation$Place;" .null := D4 (Or.inr (hw _ (List.mem_of_getElem? (i := 84) rfl))) (ty := (.object "beanforge/core/Preparation$Place")) (by decide)
  have F4_chosen : Fld Z h4 b4 "beanforge/core/Recipe$Call" "chosen" "Lbeanforge/core/Overloads$Chosen;" .null := D4 (Or.inr (hw _ (List.mem_of_getElem? (i := 86) rfl))) (ty := (.object "beanforge/core/Overloads$Chosen")) (by decide)
  have pre5 : ∀ t, Steps p.tables e below (T4.setTop (mkF m 7 #[.val (.ref r), .val .null, .val u] [(.ref b4), (.ref b)])) t → Steps p.tables e below (s₁.setTop (entryFrame m #[(.ref r), .null, u] 3)) t := fun t kt => pre3 _ (st4 _ kt)
  have z6 : n0 ≤ h4.size := (Nat.le_trans Z0 E4.1)
  have pre7 : ∀ t, Steps p.tables e below (T4.setTop (mkF m 10 #[.val (.ref r), .val .null, .val u] [u, .null, (.ref b4), (.ref b4), (.ref b)])) t → Steps p.tables e below (s₁.setTop (entryFrame m #[(.ref r), .null, u] 3)) t := fun t kt => by
    refine pre5 _ ?_
    show Steps p.tables e below (T4.setTop (mkF m 7 #[.val (.ref r), .val .null, .val u] [(.ref b4), (.ref b)])) _
    refine XS.dup X4.here hx rfl (hb hby d11_7) rfl rfl ?_
    show Steps p.tables e below (T4.setTop (mkF m 8 #[.val (.ref r), .val .null, .val u] [(.ref b4), (.ref b4), (.ref b)])) _
    refine XS.aloadN X4.here hx rfl (hb hby d11_8) rfl rfl ?_
    show Steps p.tables e below (T4.setTop (mkF m 9 #[.val (.ref r), .val .null, .val u] [.null, (.ref b4), (.ref b4), (.ref b)])) _
    refine XS.aloadN X4.here hx rfl (hb hby d11_9) rfl hu ?_
    exact kt
  obtain ⟨_, _, ⟨T8, L8, kc8, nc8⟩, -, X8, ⟨Lc8, hQ8, l8, y8, z8⟩, st8⟩ := own_special X4 hx (y := (⟨"beanforge/core/Recipe$Call", "<init>", "(Lbeanforge/core/Preparation$Place;Lbeanforge/core/Overloads$Chosen;)V"⟩ : MethodName)) rfl hown (own_ref hZ (hw _ (List.mem_of_getElem? (i := 79) rfl)) (hw _ (List.mem_of_getElem? (i := 81) rfl)) (by decide)) (mvT hZ (hw _ (List.mem_of_getElem? (i := 80) rfl))) (mvT hZ (hw _ (List.mem_of_getElem? (i := 81) rfl))) (by decide) (backOf (W := 2) (rm12 l Z a0 hw [] b4 u h4 n0 z6 hu A4 F4_place F4_chosen gg_b4) hZ (hw _ (List.mem_of_getElem? (i := 81) rfl)) (hw _ (List.mem_of_getElem? (i := 78) rfl)) (by decide) (by decide)) (g := (mkF m 10 #[.val (.ref r), .val .null, .val u] [u, .null, (.ref b4), (.ref b4), (.ref b)])) rfl (by rw [hml]; rfl) (Steps.refl _) (a := b4) (argsL := [.null, u]) (rest := [(.ref b4), (.ref b)]) (lenOf pd_6 rfl) rfl (by show 2 * 0 + _ ≤ _; exact Nat.le_of_eq rfl) (hb hby d11_10) (fun _ _ => ⟨rfl, e4, (by decide : 1 + 0 ≤ _), (by decide : 2 + 0 ≤ _)⟩)
  dsimp only [Pt.U, Pt.locs, Pt.cells, Pt.slots] at X8 l8 y8 z8 st8 hQ8
  subst l8 y8 z8
  obtain ⟨rfl, N8q, K8⟩ := hQ8
  have N8 := Fr.app N0 N8q
  have pre9 : ∀ t, Steps p.tables e below (T8.setTop (mkF m 13 #[.val (.ref r), .val .null, .val u] [(.ref b4), (.ref b)])) t → Steps p.tables e below (s₁.setTop (entryFrame m #[(.ref r), .null, u] 3)) t := fun t kt => pre7 _ (st8.trans kt)
  have z10 : n0 ≤ T8.heap.size := (Nat.le_trans z6 K8.1)
  have f11 := ((Vd.ext E4).keep K8 (ninS (Nat.ne_of_lt (Nat.lt_of_lt_of_le Vd.lt (Nat.le_of_eq gq4.symm))) nin0))
  have f12 := ((E1.ext E4).keep K8)
  have f13 := ((Fm.ext E4).keep K8 (ninS (Nat.ne_of_lt (Nat.lt_of_lt_of_le E1.lt (Nat.le_of_eq gq4.symm))) nin0))
  have f14 := ((Fe.ext E4).keep K8 (ninS (Nat.ne_of_lt (Nat.lt_of_lt_of_le E1.lt (Nat.le_of_eq gq4.symm))) nin0))
  have f15 := ((Fs.ext E4).keep K8 (ninS (Nat.ne_of_lt (Nat.lt_of_lt_of_le E1.lt (Nat.le_of_eq gq4.symm))) nin0))
  have f16 := (A4.keep K8)
  obtain ⟨cq17, kq17, q17a, q17b, q17c⟩ := isOf hZ rfl f12
  obtain ⟨_, _, ⟨T18, L18, kc18, nc18⟩, -, X18, ⟨Lc18, hQ18, l18, y18, z18⟩, st18⟩ := X8.interfaceBack hx (xi := (⟨"java/util/List", "add", "(Ljava/lang/Object;)Z"⟩ : MethodName)) (y := (⟨"java/util/ArrayList", "add", "(Ljava/lang/Object;)Z"⟩ : MethodName)) hown (mvT hZ (hw _ (List.mem_of_getElem? (i := 87) rfl))) (mvT hZ (hw _ (List.mem_of_getElem? (i := 88) rfl))) (mvT hZ (hw _ (List.mem_of_getElem? (i := 89) rfl))) (mvT hZ (hw _ (List.mem_of_getElem? (i := 90) rfl))) (mvT hZ (hw _ (List.mem_of_getElem? (i := 91) rfl))) (mvT hZ (hw _ (List.mem_of_getElem? (i := 92) rfl))) (mvT hZ (hw _ (List.mem_of_getElem? (i := 93) rfl))) (mvT hZ (hw _ (List.mem_of_getElem? (i := 94) rfl))) (by decide) (backOf (W := 0) (rm13b l Z a0 hw [] b b4 aE d kd vs mc cc T8.heap n0 z10 hc1 hc2 f11 Od gd nbd f12 f13 f14 f15 g1 f16) hZ (hw _ (List.mem_of_getElem? (i := 95) rfl)) (hw _ (List.mem_of_getElem? (i := 11) rfl)) (by decide) (by decide)) q17a q17b q17c (g := (mkF m 13 #[.val (.ref r), .val .null, .val u] [(.ref b4), (.ref b)])) rfl (by rw [hml]; rfl) (Steps.refl _) (argsL := [(.ref b4)]) (rest := []) (lenOf pd_7 rfl) rfl (by show 2 * 0 + _ ≤ _; exact Nat.le_of_eq rfl) (hb hby d11_13) (fun _ _ => ⟨rfl, rfl, (by decide : 1 + 0 ≤ _), (by decide : 2 + 0 ≤ _)⟩)
  dsimp only [Pt.U, Pt.locs, Pt.cells, Pt.slots] at X18 l18 y18 z18 st18 hQ18
  subst l18 y18 z18
  obtain ⟨rfl, N18q, K18, AL18⟩ := hQ18
  have N18 := Fr.app N8 N18q
  have pre19 : ∀ t, Steps p.tables e below (T18.setTop (mkF m 18 #[.val (.ref r), .val .null, .val u] [(.int (1 : Int32))])) t → Steps p.tables e below (s₁.setTop (entryFrame m #[(.ref r), .null, u] 3)) t := fun t kt => pre9 _ (st18.trans kt)
  have k20 : Keep h0 T18.heap [b, d] := (((K0.ext E4).trans K8 (allS (Or.inr sz_b4) all0)).trans K18 (allS (Or.inl (List.mem_of_getElem? (i := 0) rfl)) (allS (Or.inl (List.mem_of_getElem? (i := 1) rfl)) all0)))
  have pre21 : ∀ t, Steps p.tables e below (T18.setTop (mkF m 19 #[.val (.ref r), .val .null, .val u] [])) t → Steps p.tables e below (s₁.setTop (entryFrame m #[(.ref r), .null, u] 3)) t := fun t kt => by
    refine pre19 _ ?_
    show Steps p.tables e below (T18.setTop (mkF m 18 #[.val (.ref r), .val .null, .val u] [(.int (1 : Int32))])) _
    refine XS.pop X18.here hx rfl (hb hby d11_18) rfl rfl ?_
    exact kt
  obtain ⟨fs, hr, hrun, hended, hW, hsame⟩ := X18.leave (v := none) (fun _ => rfl)
  refine ⟨_, _, pre21 _ ?_, hrun, hended, _, _, rfl, ?_, ⟨_, rfl⟩, hW, hsame.mono (by decide) (by decide)⟩
  · show Steps p.tables e below (T18.setTop (mkF m 19 #[.val (.ref r), .val .null, .val u] [])) _
    exact X18.returnOut hx Bd.returns (hb hby d11_19) hr
  · show Q11b Z r u b aE d kd vs mc cc h0 n0 _ T18.heap _
    exact ⟨rfl, N18, k20, AL18⟩
theorem ef_18 (m : MethodId) (r : Addr) (u2 : Value) (u3 : Value) (aI : Addr) (h_u2 : u2.isRef = true) (h_u3 : u3.isRef = true) : entryFrame m #[(.ref r), .null, u2, u3, .null, (.ref aI)] 6 = (mkF m 0 #[.val (.ref r), .val .null, .val u2, .val u3, .val .null, .val (.ref aI)] []) := by rcases ref_cases h_u2 with rfl | ⟨_, rfl⟩ <;> rcases ref_cases h_u3 with rfl | ⟨_, rfl⟩ <;> first | (simp [entryFrame, mkF, argsToLocals, Value.category]; done) | rfl
theorem d18_0 : decode prog_89_method_2_code 0 = .ok (.aload_n 0, 1) := by decide +kernel
theorem d18_1 : decode prog_89_method_2_code 1 = .ok (.aload_n 1, 1) := by decide +kernel
theorem d18_2 : decode prog_89_method_2_code 2 = .ok (.putfield 16, 3) := by decide +kernel
theorem d18_5 : decode prog_89_method_2_code 5 = .ok (.aload_n 0, 1) := by decide +kernel
theorem d18_6 : decode prog_89_method_2_code 6 = .ok (.aload_n 2, 1) := by decide +kernel
theorem d18_7 : decode prog_89_method_2_code 7 = .ok (.putfield 20, 3) := by decide +kernel
theorem d18_10 : decode prog_89_method_2_code 10 = .ok (.aload_n 0, 1) := by decide +kernel
theorem d18_11 : decode prog_89_method_2_code 11 = .ok (.aload_n 3, 1) := by decide +kernel
theorem d18_12 : decode prog_89_method_2_code 12 = .ok (.putfield 24, 3) := by decide +kernel
theorem d18_15 : decode prog_89_method_2_code 15 = .ok (.aload_n 0, 1) := by decide +kernel
theorem d18_16 : decode prog_89_method_2_code 16 = .ok (.aload 4, 2) := by decide +kernel
theorem d18_18 : decode prog_89_method_2_code 18 = .ok (.putfield 28, 3) := by decide +kernel
theorem d18_21 : decode prog_89_method_2_code 21 = .ok (.aload_n 0, 1) := by decide +kernel
theorem d18_22 : decode prog_89_method_2_code 22 = .ok (.aload 5, 2) := by decide +kernel
theorem d18_24 : decode prog_89_method_2_code 24 = .ok (.invokevirtual 32, 3) := by decide +kernel
theorem d18_27 : decode prog_89_method_2_code 27 = .ok (.putfield 36, 3) := by decide +kernel
theorem d18_30 : decode prog_89_method_2_code 30 = .ok (.return_, 1) := by decide +kernel
def Q18 (Z : State) (r : Addr) (u2 : Value) (u3 : Value) (aI : Addr) (b : Addr) (w0 : Value) (w1 : Value) (w2 : Value) (w3 : Value) (w4 : Value) (h0 : Heap) (n0 : Nat) (v : Option Value) (h : Heap) (L : List Loc) : Prop := v = none ∧ Fr n0 L ∧ Keep h0 h [r] ∧ Exa Z h r "beanforge/core/Recipe" ∧ Fld Z h r "beanforge/core/Recipe" "calls" "Ljava/util/List;" (.ref b) ∧ Fld Z h r "beanforge/core/Recipe" "construction" "Lbeanforge/core/Overloads$Chosen;" u2 ∧ ∃ v1 v2 v3 v4 : Value, Fld Z h r "beanforge/core/Recipe" "constructionPlace" "Lbeanforge/core/Preparation$Place;" v1 ∧ Fld Z h r "beanforge/core/Recipe" "factory" "Ljava/lang/Object;" v2 ∧ Fld Z h r "beanforge/core/Recipe" "maker" "Lbeanforge/core/Preparation$Maker;" v3 ∧ Fld Z h r "beanforge/core/Recipe" "type" "Ljava/lang/Class;" v4
set_option maxRecDepth 65536 in
set_option maxHeartbeats 40000000 in
theorem rm18 (l : Launch) (Z : State) (a0 : Array Value) (hw : ∀ d ∈ tables_1, d.before a0 Z = true) (ws : List Jvm.Cond) (r : Addr) (u2 : Value) (u3 : Value) (aI : Addr) (b : Addr) (w0 : Value) (w1 : Value) (w2 : Value) (w3 : Value) (w4 : Value) (h0 : Heap) (n0 : Nat) (Z0 : n0 ≤ h0.size) (hu2 : u2.isRef = true) (hu3 : u3.isRef = true) (hM : MirrorMade Z "java/lang/Integer") (EI : Exa Z h0 aI "java/lang/Integer") (E1 : Exa Z h0 r "beanforge/core/Recipe") (Fc : Fld Z h0 r "beanforge/core/Recipe" "calls" "Ljava/util/List;" (.ref b)) (F1 : Fld Z h0 r "beanforge/core/Recipe" "construction" "Lbeanforge/core/Overloads$Chosen;" w0) (F2 : Fld Z h0 r "beanforge/core/Recipe" "constructionPlace" "Lbeanforge/core/Preparation$Place;" w1) (F3 : Fld Z h0 r "beanforge/core/Recipe" "factory" "Ljava/lang/Object;" w2) (F4 : Fld Z h0 r "beanforge/core/Recipe" "maker" "Lbeanforge/core/Preparation$Maker;" w3) (F5 : Fld Z h0 r "beanforge/core/Recipe" "type" "Ljava/lang/Class;" w4) (g1 : n0 ≤ r) :
    MetFree l (⟨"beanforge/core/Recipe", "constructed", "(Lbeanforge/core/Preparation$Place;Lbeanforge/core/Overloads$Chosen;Ljava/lang/Object;Lbeanforge/core/Preparation$Maker;Ljava/lang/Object;)V"⟩ : MethodName) (head1 (Jvm.Cond.code (⟨"beanforge/core/Recipe", "constructed", "(Lbeanforge/core/Preparation$Place;Lbeanforge/core/Overloads$Chosen;Ljava/lang/Object;Lbeanforge/core/Preparation$Maker;Ljava/lang/Object;)V"⟩ : MethodName) prog_89_method_2_code 6 none :: ws) ({ frames := 1, cells := 0, slots := 0, locals := 40 } : Room)) (fun a U => a = #[(.ref r), .null, u2, u3, .null, (.ref aI)] ∧ Z.Warmed39 U.vm ∧ U.heap = h0) (fun _ _ _ _ _ => True) (fun _ U o U' => ∃ v L, o = .returned v ∧ Q18 Z r u2 u3 aI b w0 w1 w2 w3 w4 h0 n0 v U'.heap L ∧ FrameEnd U o U' L ({ frames := 1, cells := 0, slots := 0, locals := 40 } : Room).cells ({ frames := 1, cells := 0, slots := 0, locals := 40 } : Room).slots) := by
  refine MetFree.of_bodySF (plainFor_of_name pn_3) hisR ?_
  intro p e s m args below meth c s₁ Bd hml0 hP hK
  obtain ⟨rfl, hZ, hh⟩ := hP
  have hx := Bd.exec
  have hby := Bd.bytes
  have hml : c.maxLocals = 6 := hml0
  have hown : s.vm.findClass "beanforge/core/Recipe" = some m.cls := findClass_of_methodNamed Bd.named
  have hnm := (name_of_methodNamed Bd.named Bd.method).1
  have X0 : Stand p l e ({ frames := 1, cells := 0, slots := 0, locals := 40 } : Room) s m #[(.ref r), .null, u2, u3, .null, (.ref aI)] below meth c s₁ [] 0 0 := Stand.of_body Bd
  have e0 : s₁.heap = h0 := by rw [← hh, Bd.state]; rfl
  have N0 := Fr.nil n0
  have K0 : Keep h0 h0 [r] := Keep.refl _ _
  have pre0 : ∀ t, Steps p.tables e below (s₁.setTop (mkF m 0 #[.val (.ref r), .val .null, .val u2, .val u3, .val .null, .val (.ref aI)] [])) t → Steps p.tables e below (s₁.setTop (entryFrame m #[(.ref r), .null, u2, u3, .null, (.ref aI)] 6)) t := fun t k => castTop (ef_18 m r u2 u3 aI hu2 hu3) k
  have pre1 : ∀ t, Steps p.tables e below (s₁.setTop (mkF m 2 #[.val (.ref r), .val .null, .val u2, .val u3, .val .null, .val (.ref aI)] [.null, (.ref r)])) t → Steps p.tables e below (s₁.setTop (entryFrame m #[(.ref r), .null, u2, u3, .null, (.ref aI)] 6)) t := fun t kt => by
    refine pre0 _ ?_
    show Steps p.tables e below (s₁.setTop (mkF m 0 #[.val (.ref r), .val .null, .val u2, .val u3, .val .null, .val (.ref aI)] [])) _
    refine XS.aloadN X0.here hx rfl (hb hby d18_0) rfl rfl ?_
    show Steps p.tables e below (s₁.setTop (mkF m 1 #[.val (.ref r), .val .null, .val u2, .val u3, .val .null, .val (.ref aI)] [(.ref r)])) _
    refine XS.aloadN X0.here hx rfl (hb hby d18_1) rfl rfl ?_
    exact kt
  obtain ⟨T2, h2, X2, e2, W2, st2⟩ := putF X0 hx hZ hown (host := "") (Or.inl (hw _ (List.mem_of_getElem? (i := 126) rfl))) Via.refl e0 F2 E1 (Or.inl (hw _ (List.mem_of_getElem? (i := 127) rfl))) (hw _ (List.mem_of_getElem? (i := 1) rfl)) (ty := (.object "beanforge/core/Preparation$Place")) (by decide) rfl rfl (g := (mkF m 2 #[.val (.ref r), .val .null, .val u2, .val u3, .val .null, .val (.ref aI)] [.null, (.ref r)])) rfl rfl (hb hby d18_2)
  have Fw2 := F2.same W2
  have N2 := Fr.snoc X2 N0 g1
  have pre3 : ∀ t, Steps p.tables e below (T2.setTop (mkF m 5 #[.val (.ref r), .val .null, .val u2, .val u3, .val .null, .val (.ref aI)] [])) t → Steps p.tables e below (s₁.setTop (entryFrame m #[(.ref r), .null, u2, u3, .null, (.ref aI)] 6)) t := fun t kt => pre1 _ (st2 _ kt)
  have f4 := (F1.other W2 (Or.inr (slot_ne (Or.inl (hw _ (List.mem_of_getElem? (i := 66) rfl))) (Or.inl (hw _ (List.mem_of_getElem? (i := 127) rfl))) (by decide) (t := (.object "beanforge/core/Overloads$Chosen")) (t' := (.object "beanforge/core/Preparation$Place")) (by decide) (by decide))))
  have f5 := (E1.wr W2)
  have pre6 : ∀ t, Steps p.tables e below (T2.setTop (mkF m 7 #[.val (.ref r), .val .null, .val u2, .val u3, .val .null, .val (.ref aI)] [u2, (.ref r)])) t → Steps p.tables e below (s₁.setTop (entryFrame m #[(.ref r), .null, u2, u3, .null, (.ref aI)] 6)) t := fun t kt => by
    refine pre3 _ ?_
    show Steps p.tables e below (T2.setTop (mkF m 5 #[.val (.ref r), .val .null, .val u2, .val u3, .val .null, .val (.ref aI)] [])) _
    refine XS.aloadN X2.here hx rfl (hb hby d18_5) rfl rfl ?_
    show Steps p.tables e below (T2.setTop (mkF m 6 #[.val (.ref r), .val .null, .val u2, .val u3, .val .null, .val (.ref aI)] [(.ref r)])) _
    refine XS.aloadN X2.here hx rfl (hb hby d18_6) rfl hu2 ?_
    exact kt
  obtain ⟨T7, h7, X7, e7, W7, st7⟩ := putF X2 hx hZ hown (host := "") (Or.inl (hw _ (List.mem_of_getElem? (i := 65) rfl))) Via.refl e2 f4 f5 (Or.inl (hw _ (List.mem_of_getElem? (i := 66) rfl))) (hw _ (List.mem_of_getElem? (i := 1) rfl)) (ty := (.object "beanforge/core/Overloads$Chosen")) (by decide) (own_nar hu2) (own_fit hu2) (g := (mkF m 7 #[.val (.ref r), .val .null, .val u2, .val u3, .val .null, .val (.ref aI)] [u2, (.ref r)])) rfl rfl (hb hby d18_7)
  have Fw7 := f4.same W7
  have N7 := Fr.snoc X7 N2 g1
  have pre8 : ∀ t, Steps p.tables e below (T7.setTop (mkF m 10 #[.val (.ref r), .val .null, .val u2, .val u3, .val .null, .val (.ref aI)] [])) t → Steps p.tables e below (s₁.setTop (entryFrame m #[(.ref r), .null, u2, u3, .null, (.ref aI)] 6)) t := fun t kt => pre6 _ (st7 _ kt)
  have f9 := ((F3.other W2 (Or.inr (slot_ne (Or.inl (hw _ (List.mem_of_getElem? (i := 129) rfl))) (Or.inl (hw _ (List.mem_of_getElem? (i := 127) rfl))) (by decide) (t := (.object "java/lang/Object")) (t' := (.object "beanforge/core/Preparation$Place")) (by decide) (by decide)))).other W7 (Or.inr (slot_ne (Or.inl (hw _ (List.mem_of_getElem? (i := 129) rfl))) (Or.inl (hw _ (List.mem_of_getElem? (i := 66) rfl))) (by decide) (t := (.object "java/lang/Object")) (t' := (.object "beanforge/core/Overloads$Chosen")) (by decide) (by decide))))
  have f10 := (f5.wr W7)
  have pre11 : ∀ t, Steps p.tables e below (T7.setTop (mkF m 12 #[.val (.ref r), .val .null, .val u2, .val u3, .val .null, .val (.ref aI)] [u3, (.ref r)])) t → Steps p.tables e below (s₁.setTop (entryFrame m #[(.ref r), .null, u2, u3, .null, (.ref aI)] 6)) t := fun t kt => by
    refine pre8 _ ?_
    show Steps p.tables e below (T7.setTop (mkF m 10 #[.val (.ref r), .val .null, .val u2, .val u3, .val .null, .val (.ref aI)] [])) _
    refine XS.aloadN X7.here hx rfl (hb hby d18_10) rfl rfl ?_
    show Steps p.tables e below (T7.setTop (mkF m 11 #[.val (.ref r), .val .null, .val u2, .val u3, .val .null, .val (.ref aI)] [(.ref r)])) _
    refine XS.aloadN X7.here hx rfl (hb hby d18_11) rfl hu3 ?_
    exact kt
  obtain ⟨T12, h12, X12, e12, W12, st12⟩ := putF X7 hx hZ hown (host := "") (Or.inl (hw _ (List.mem_of_getElem? (i := 128) rfl))) Via.refl e7 f9 f10 (Or.inl (hw _ (List.mem_of_getElem? (i := 129) rfl))) (hw _ (List.mem_of_getElem? (i := 1) rfl)) (ty := (.object "java/lang/Object")) (by decide) (own_nar hu3) (own_fit hu3) (g := (mkF m 12 #[.val (.ref r), .val .null, .val u2, .val u3, .val .null, .val (.ref aI)] [u3, (.ref r)])) rfl rfl (hb hby d18_12)
  have Fw12 := f9.same W12
  have N12 := Fr.snoc X12 N7 g1
  have pre13 : ∀ t, Steps p.tables e below (T12.setTop (mkF m 15 #[.val (.ref r), .val .null, .val u2, .val u3, .val .null, .val (.ref aI)] [])) t → Steps p.tables e below (s₁.setTop (entryFrame m #[(.ref r), .null, u2, u3, .null, (.ref aI)] 6)) t := fun t kt => pre11 _ (st12 _ kt)
  have f14 := (((F4.other W2 (Or.inr (slot_ne (Or.inl (hw _ (List.mem_of_getElem? (i := 131) rfl))) (Or.inl (hw _ (List.mem_of_getElem? (i := 127) rfl))) (by decide) (t := (.object "beanforge/core/Preparation$Maker")) (t' := (.object "beanforge/core/Preparation$Place")) (by decide) (by decide)))).other W7 (Or.inr (slot_ne (Or.inl (hw _ (List.mem_of_getElem? (i := 131) rfl))) (Or.inl (hw _ (List.mem_of_getElem? (i := 66) rfl))) (by decide) (t := (.object "beanforge/core/Preparation$Maker")) (t' := (.object "beanforge/core/Overloads$Chosen")) (by decide) (by decide)))).other W12 (Or.inr (slot_ne (Or.inl (hw _ (List.mem_of_getElem? (i := 131) rfl))) (Or.inl (hw _ (List.mem_of_getElem? (i := 129) rfl))) (by decide) (t := (.object "beanforge/core/Preparation$Maker")) (t' := (.object "java/lang/Object")) (by decide) (by decide))))
  have f15 := (f10.wr W12)
  have pre16 : ∀ t, Steps p.tables e below (T12.setTop (mkF m 18 #[.val (.ref r), .val .null, .val u2, .val u3, .val .null, .val (.ref aI)] [.null, (.ref r)])) t → Steps p.tables e below (s₁.setTop (entryFrame m #[(.ref r), .null, u2, u3, .null, (.ref aI)] 6)) t := fun t kt => by
    refine pre13 _ ?_
    show Steps p.tables e below (T12.setTop (mkF m 15 #[.val (.ref r), .val .null, .val u2, .val u3, .val .null, .val (.ref aI)] [])) _
    refine XS.aloadN X12.here hx rfl (hb hby d18_15) rfl rfl ?_
    show Steps p.tables e below (T12.setTop (mkF m 16 #[.val (.ref r), .val .null, .val u2, .val u3, .val .null, .val (.ref aI)] [(.ref r)])) _
    refine XS.aload X12.here hx rfl (hb hby d18_16) rfl rfl ?_
    exact kt
  obtain ⟨T17, h17, X17, e17, W17, st17⟩ := putF X12 hx hZ hown (host := "") (Or.inl (hw _ (List.mem_of_getElem? (i := 130) rfl))) Via.refl e12 f14 f15 (Or.inl (hw _ (List.mem_of_getElem? (i := 131) rfl))) (hw _ (List.mem_of_getElem? (i := 1) rfl)) (ty := (.object "beanforge/core/Preparation$Maker")) (by decide) rfl rfl (g := (mkF m 18 #[.val (.ref r), .val .null, .val u2, .val u3, .val .null, .val (.ref aI)] [.null, (.ref r)])) rfl rfl (hb hby d18_18)
  have Fw17 := f14.same W17
  have N17 := Fr.snoc X17 N12 g1
  have pre18 : ∀ t, Steps p.tables e below (T17.setTop (mkF m 21 #[.val (.ref r), .val .null, .val u2, .val u3, .val .null, .val (.ref aI)] [])) t → Steps p.tables e below (s₁.setTop (entryFrame m #[(.ref r), .null, u2, u3, .null, (.ref aI)] 6)) t := fun t kt => pre16 _ (st17 _ kt)
  have pre19 : ∀ t, Steps p.tables e below (T17.setTop (mkF m 24 #[.val (.ref r), .val .null, .val u2, .val u3, .val .null, .val (.ref aI)] [(.ref aI), (.ref r)])) t → Steps p.tables e below (s₁.setTop (entryFrame m #[(.ref r), .null, u2, u3, .null, (.ref aI)] 6)) t := fun t kt => by
    refine pre18 _ ?_
    show Steps p.tables e below (T17.setTop (mkF m 21 #[.val (.ref r), .val .null, .val u2, .val u3, .val .null, .val (.ref aI)] [])) _
    refine XS.aloadN X17.here hx rfl (hb hby d18_21) rfl rfl ?_
    show Steps p.tables e below (T17.setTop (mkF m 22 #[.val (.ref r), .val .null, .val u2, .val u3, .val .null, .val (.ref aI)] [(.ref r)])) _
    refine XS.aload X17.here hx rfl (hb hby d18_22) rfl rfl ?_
    exact kt
  have f20 := ((((EI.wr W2).wr W7).wr W12).wr W17)
  obtain ⟨cq, kq, qa, qb, qc⟩ := isOf hZ e17 f20
  obtain ⟨cM, kM, mir, m1, m2, m3, -⟩ := hM
  have cE : cq = cM := Option.some.inj (qa.symm.trans (by rw [hZ.alike.findClass]; exact m1))
  subst cE
  have hmir : kq.mirror = some mir := by obtain ⟨k', e1, e2⟩ := hZ.alike.2.2 _ _ m2; cases qb.symm.trans e1; rw [e2]; exact m3
  obtain ⟨vm21, X21, st21⟩ := X17.getClassOf hx hown (mvT hZ (hw _ (List.mem_of_getElem? (i := 132) rfl))) (mvT hZ (hw _ (List.mem_of_getElem? (i := 133) rfl))) (notFace_of_selects (args := #[]) (mvT hZ (hw _ (List.mem_of_getElem? (i := 135) rfl)))) (mvT hZ (hw _ (List.mem_of_getElem? (i := 135) rfl))) (mvT hZ (hw _ (List.mem_of_getElem? (i := 134) rfl))) (mvT hZ (hw _ (List.mem_of_getElem? (i := 136) rfl))) qa qc qb hmir (g := (mkF m 24 #[.val (.ref r), .val .null, .val u2, .val u3, .val .null, .val (.ref aI)] [(.ref aI), (.ref r)])) rfl (by rw [hml]; rfl) (rest := [(.ref r)]) rfl (hb hby d18_24) (by decide) (by show 2 * 0 + 1 + (nativeFrameWords "java/lang/Object" "getClass" 1 + 11) ≤ 40; decide)
  have e21 : (T17.setVm vm21).heap = h17 := e17
  have pre22 : ∀ t, Steps p.tables e below ((T17.setVm vm21).setTop (mkF m 27 #[.val (.ref r), .val .null, .val u2, .val u3, .val .null, .val (.ref aI)] [(.ref mir), (.ref r)])) t → Steps p.tables e below (s₁.setTop (entryFrame m #[(.ref r), .null, u2, u3, .null, (.ref aI)] 6)) t := fun t kt => pre19 _ (st21 _ kt)
  have f23 := ((((F5.other W2 (Or.inr (slot_ne (Or.inl (hw _ (List.mem_of_getElem? (i := 139) rfl))) (Or.inl (hw _ (List.mem_of_getElem? (i := 127) rfl))) (by decide) (t := (.object "java/lang/Class")) (t' := (.object "beanforge/core/Preparation$Place")) (by decide) (by decide)))).other W7 (Or.inr (slot_ne (Or.inl (hw _ (List.mem_of_getElem? (i := 139) rfl))) (Or.inl (hw _ (List.mem_of_getElem? (i := 66) rfl))) (by decide) (t := (.object "java/lang/Class")) (t' := (.object "beanforge/core/Overloads$Chosen")) (by decide) (by decide)))).other W12 (Or.inr (slot_ne (Or.inl (hw _ (List.mem_of_getElem? (i := 139) rfl))) (Or.inl (hw _ (List.mem_of_getElem? (i := 129) rfl))) (by decide) (t := (.object "java/lang/Class")) (t' := (.object "java/lang/Object")) (by decide) (by decide)))).other W17 (Or.inr (slot_ne (Or.inl (hw _ (List.mem_of_getElem? (i := 139) rfl))) (Or.inl (hw _ (List.mem_of_getElem? (i := 131) rfl))) (by decide) (t := (.object "java/lang/Class")) (t' := (.object "beanforge/core/Preparation$Maker")) (by decide) (by decide))))
  have f24 := (f15.wr W17)
  obtain ⟨T25, h25, X25, e25, W25, st25⟩ := putF X21 hx hZ hown (host := "") (Or.inl (hw _ (List.mem_of_getElem? (i := 138) rfl))) Via.refl e21 f23 f24 (Or.inl (hw _ (List.mem_of_getElem? (i := 139) rfl))) (hw _ (List.mem_of_getElem? (i := 1) rfl)) (ty := (.object "java/lang/Class")) (by decide) rfl rfl (g := (mkF m 27 #[.val (.ref r), .val .null, .val u2, .val u3, .val .null, .val (.ref aI)] [(.ref mir), (.ref r)])) rfl rfl (hb hby d18_27)
  have Fw25 := f23.same W25
  have N25 := Fr.snoc X25 N17 g1
  have pre26 : ∀ t, Steps p.tables e below (T25.setTop (mkF m 30 #[.val (.ref r), .val .null, .val u2, .val u3, .val .null, .val (.ref aI)] [])) t → Steps p.tables e below (s₁.setTop (entryFrame m #[(.ref r), .null, u2, u3, .null, (.ref aI)] 6)) t := fun t kt => pre22 _ (st25 _ kt)
  have k27 : Keep h0 h25 [r] := (((((K0.wr W2 (Or.inl (List.mem_of_getElem? (i := 0) rfl))).wr W7 (Or.inl (List.mem_of_getElem? (i := 0) rfl))).wr W12 (Or.inl (List.mem_of_getElem? (i := 0) rfl))).wr W17 (Or.inl (List.mem_of_getElem? (i := 0) rfl))).wr W25 (Or.inl (List.mem_of_getElem? (i := 0) rfl)))
  have f28 := (f24.wr W25)
  have f29 := (((((Fc.other W2 (Or.inr (slot_ne (Or.inr (hw _ (List.mem_of_getElem? (i := 34) rfl))) (Or.inl (hw _ (List.mem_of_getElem? (i := 127) rfl))) (by decide) (t := (.object "java/util/List")) (t' := (.object "beanforge/core/Preparation$Place")) (by decide) (by decide)))).other W7 (Or.inr (slot_ne (Or.inr (hw _ (List.mem_of_getElem? (i := 34) rfl))) (Or.inl (hw _ (List.mem_of_getElem? (i := 66) rfl))) (by decide) (t := (.object "java/util/List")) (t' := (.object "beanforge/core/Overloads$Chosen")) (by decide) (by decide)))).other W12 (Or.inr (slot_ne (Or.inr (hw _ (List.mem_of_getElem? (i := 34) rfl))) (Or.inl (hw _ (List.mem_of_getElem? (i := 129) rfl))) (by decide) (t := (.object "java/util/List")) (t' := (.object "java/lang/Object")) (by decide) (by decide)))).other W17 (Or.inr (slot_ne (Or.inr (hw _ (List.mem_of_getElem? (i := 34) rfl))) (Or.inl (hw _ (List.mem_of_getElem? (i := 131) rfl))) (by decide) (t := (.object "java/util/List")) (t' := (.object "beanforge/core/Preparation$Maker")) (by decide) (by decide)))).other W25 (Or.inr (slot_ne (Or.inr (hw _ (List.mem_of_getElem? (i := 34) rfl))) (Or.inl (hw _ (List.mem_of_getElem? (i := 139) rfl))) (by decide) (t := (.object "java/util/List")) (t' := (.object "java/lang/Class")) (by decide) (by decide))))
  have f30 := (((Fw7.other W12 (Or.inr (slot_ne (Or.inl (hw _ (List.mem_of_getElem? (i := 66) rfl))) (Or.inl (hw _ (List.mem_of_getElem? (i := 129) rfl))) (by decide) (t := (.object "beanforge/core/Overloads$Chosen")) (t' := (.object "java/lang/Object")) (by decide) (by decide)))).other W17 (Or.inr (slot_ne (Or.inl (hw _ (List.mem_of_getElem? (i := 66) rfl))) (Or.inl (hw _ (List.mem_of_getElem? (i := 131) rfl))) (by decide) (t := (.object "beanforge/core/Overloads$Chosen")) (t' := (.object "beanforge/core/Preparation$Maker")) (by decide) (by decide)))).other W25 (Or.inr (slot_ne (Or.inl (hw _ (List.mem_of_getElem? (i := 66) rfl))) (Or.inl (hw _ (List.mem_of_getElem? (i := 139) rfl))) (by decide) (t := (.object "beanforge/core/Overloads$Chosen")) (t' := (.object "java/lang/Class")) (by decide) (by decide))))
  have f31 := ((((Fw2.other W7 (Or.inr (slot_ne (Or.inl (hw _ (List.mem_of_getElem? (i := 127) rfl))) (Or.inl (hw _ (List.mem_of_getElem? (i := 66) rfl))) (by decide) (t := (.object "beanforge/core/Preparation$Place")) (t' := (.object "beanforge/core/Overloads$Chosen")) (by decide) (by decide)))).other W12 (Or.inr (slot_ne (Or.inl (hw _ (List.mem_of_getElem? (i := 127) rfl))) (Or.inl (hw _ (List.mem_of_getElem? (i := 129) rfl))) (by decide) (t := (.object "beanforge/core/Preparation$Place")) (t' := (.object "java/lang/Object")) (by decide) (by decide)))).other W17 (Or.inr (slot_ne (Or.inl (hw _ (List.mem_of_getElem? (i := 127) rfl))) (Or.inl (hw _ (List.mem_of_getElem? (i := 131) rfl))) (by decide) (t := (.object "beanforge/core/Preparation$Place")) (t' := (.object "beanforge/core/Preparation$Maker")) (by decide) (by decide)))).other W25 (Or.inr (slot_ne (Or.inl (hw _ (List.mem_of_getElem? (i := 127) rfl))) (Or.inl (hw _ (List.mem_of_getElem? (i := 139) rfl))) (by decide) (t := (.object "beanforge/core/Preparation$Place")) (t' := (.object "java/lang/Class")) (by decide) (by decide))))
  have f32 := ((Fw12.other W17 (Or.inr (slot_ne (Or.inl (hw _ (List.mem_of_getElem? (i := 129) rfl))) (Or.inl (hw _ (List.mem_of_getElem? (i := 131) rfl))) (by decide) (t := (.object "java/lang/Object")) (t' := (.object "beanforge/core/Preparation$Maker")) (by decide) (by decide)))).other W25 (Or.inr (slot_ne (Or.inl (hw _ (List.mem_of_getElem? (i := 129) rfl))) (Or.inl (hw _ (List.mem_of_getElem? (i := 139) rfl))) (by decide) (t := (.object "java/lang/Object")) (t' := (.object "java/lang/Class")) (by decide) (by decide))))
  have f33 := (Fw17.other W25 (Or.inr (slot_ne (Or.inl (hw _ (List.mem_of_getElem? (i := 131) rfl))) (Or.inl (hw _ (List.mem_of_getElem? (i := 139) rfl))) (by decide) (t := (.object "beanforge/core/Preparation$Maker")) (t' := (.object "java/lang/Class")) (by decide) (by decide))))
  obtain ⟨fs, hr, hrun, hended, hW, hsame⟩ := X25.leave (v := none) (fun _ => rfl)
  refine ⟨_, _, pre26 _ ?_, hrun, hended, _, _, rfl, ?_, ⟨_, rfl⟩, hW, hsame.mono (by decide) (by decide)⟩
  · show Steps p.tables e below (T25.setTop (mkF m 30 #[.val (.ref r), .val .null, .val u2, .val u3, .val .null, .val (.ref aI)] [])) _
    exact X25.returnOut hx Bd.returns (hb hby d18_30) hr
  · show Q18 Z r u2 u3 aI b w0 w1 w2 w3 w4 h0 n0 _ T25.heap _
    rw [e25]
    exact ⟨rfl, N25, k27, f28, f29, f30, _, _, _, _, f31, f32, f33, Fw25⟩
theorem ef_9 (m : MethodId) (r : Addr) : entryFrame m #[(.ref r)] 1 = (mkF m 0 #[.val (.ref r)] []) := by first | (simp [entryFrame, mkF, argsToLocals, Value.category]; done) | rfl
theorem d9_0 : decode prog_89_method_4_code 0 = .ok (.aload_n 0, 1) := by decide +kernel
theorem d9_1 : decode prog_89_method_4_code 1 = .ok (.getfield 20, 3) := by decide +kernel
theorem d9_4 : decode prog_89_method_4_code 4 = .ok (.ifnull 7, 3) := by decide +kernel
theorem d9_11 : decode prog_89_method_4_code 11 = .ok (.iconst 0, 1) := by decide +kernel
theorem d9_12 : decode prog_89_method_4_code 12 = .ok (.ireturn, 1) := by decide +kernel
theorem d9_7 : decode prog_89_method_4_code 7 = .ok (.iconst 1, 1) := by decide +kernel
theorem d9_8 : decode prog_89_method_4_code 8 = .ok (.goto 4, 3) := by decide +kernel
def Q9 (Z : State) (r : Addr) (u : Value) (h0 : Heap) (n0 : Nat) (v : Option Value) (h : Heap) (L : List Loc) : Prop := v = some (.int (own_fl u)) ∧ Fr n0 L ∧ h = h0
set_option maxRecDepth 65536 in
set_option maxHeartbeats 40000000 in
theorem rm9 (l : Launch) (Z : State) (a0 : Array Value) (hw : ∀ d ∈ tables_1, d.before a0 Z = true) (ws : List Jvm.Cond) (r : Addr) (u : Value) (h0 : Heap) (n0 : Nat) (Z0 : n0 ≤ h0.size) (hu : u.isRef = true) (Fu : Fld Z h0 r "beanforge/core/Recipe" "construction" "Lbeanforge/core/Overloads$Chosen;" u) :
    MetFree l (⟨"beanforge/core/Recipe", "constructs", "()Z"⟩ : MethodName) (head1 (Jvm.Cond.code (⟨"beanforge/core/Recipe", "constructs", "()Z"⟩ : MethodName) prog_89_method_4_code 1 (some .boolean) :: ws) ({ frames := 0, cells := 0, slots := 0, locals := 0 } : Room)) (fun a U => a = #[(.ref r)] ∧ Z.Warmed39 U.vm ∧ U.heap = h0) (fun _ _ _ _ _ => True) (fun _ U o U' => ∃ v L, o = .returned v ∧ Q9 Z r u h0 n0 v U'.heap L ∧ FrameEnd U o U' L ({ frames := 0, cells := 0, slots := 0, locals := 0 } : Room).cells ({ frames := 0, cells := 0, slots := 0, locals := 0 } : Room).slots) := by
  refine MetFree.of_bodySF (plainFor_of_name pn_3) hisR ?_
  intro p e s m args below meth c s₁ Bd hml0 hP hK
  obtain ⟨rfl, hZ, hh⟩ := hP
  have hx := Bd.exec
  have hby := Bd.bytes
  have hml : c.maxLocals = 1 := hml0
  have hown : s.vm.findClass "beanforge/core/Recipe" = some m.cls := findClass_of_methodNamed Bd.named
  have hnm := (name_of_methodNamed Bd.named Bd.method).1
  have X0 : Stand p l e ({ frames := 0, cells := 0, slots := 0, locals := 0 } : Room) s m #[(.ref r)] below meth c s₁ [] 0 0 := Stand.of_body Bd
  have e0 : s₁.heap = h0 := by rw [← hh, Bd.state]; rfl
  have N0 := Fr.nil n0
  have pre0 : ∀ t, Steps p.tables e below (s₁.setTop (mkF m 0 #[.val (.ref r)] [])) t → Steps p.tables e below (s₁.setTop (entryFrame m #[(.ref r)] 1)) t := fun t k => castTop (ef_9 m r) k
  have pre1 : ∀ t, Steps p.tables e below (s₁.setTop (mkF m 1 #[.val (.ref r)] [(.ref r)])) t → Steps p.tables e below (s₁.setTop (entryFrame m #[(.ref r)] 1)) t := fun t kt => by
    refine pre0 _ ?_
    show Steps p.tables e below (s₁.setTop (mkF m 0 #[.val (.ref r)] [])) _
    refine XS.aloadN X0.here hx rfl (hb hby d9_0) rfl rfl ?_
    exact kt
  obtain ⟨T2, X2, e2, st2⟩ := getF X0 hx hZ hown (host := "") (Or.inl (hw _ (List.mem_of_getElem? (i := 65) rfl))) Via.refl e0 Fu (g := (mkF m 1 #[.val (.ref r)] [(.ref r)])) rfl rfl (hb hby d9_1)
  have pre3 : ∀ t, Steps p.tables e below (T2.setTop (mkF m 4 #[.val (.ref r)] [u])) t → Steps p.tables e below (s₁.setTop (entryFrame m #[(.ref r)] 1)) t := fun t kt => pre1 _ (st2 _ kt)
  rcases ref_cases hu with hq | ⟨z, hq⟩
  · have pre4 : ∀ t, Steps p.tables e below (T2.setTop (mkF m 12 #[.val (.ref r)] [(.int (0 : Int32))])) t → Steps p.tables e below (s₁.setTop (entryFrame m #[(.ref r)] 1)) t := fun t kt => by
      refine pre3 _ ?_
      show Steps p.tables e below (T2.setTop (mkF m 4 #[.val (.ref r)] [u])) _
      rw [hq]
      show Steps p.tables e below (T2.setTop (mkF m 4 #[.val (.ref r)] [.null])) _
      refine XS.ifnullYes X2.here hx rfl (pc0 := 4) (pc' := 11) rfl (hb hby d9_4) rfl (by decide) (by decide) ?_
      show Steps p.tables e below (T2.setTop (mkF m 11 #[.val (.ref r)] [])) _
      refine XS.iconst X2.here hx rfl (hb hby d9_11) ?_
      exact kt
    have ev : own_fl u = (0 : Int32) := by rw [hq]; rfl
    obtain ⟨fs, hr, hrun, hended, hW, hsame⟩ := X2.leave (v := (some (.int (0 : Int32)))) (fun h => by rw [Bd.returns] at h; cases h)
    refine ⟨_, _, pre4 _ ?_, hrun, hended, _, _, rfl, ?_, ⟨_, rfl⟩, hW, hsame.mono (by decide) (by decide)⟩
    · show Steps p.tables e below (T2.setTop (mkF m 12 #[.val (.ref r)] [(.int (0 : Int32))])) _
      exact retN X2 hx (t := .boolean) Bd.returns (by simp) (hb hby d9_12) hr
    · show Q9 Z r u h0 n0 _ T2.heap _
      rw [e2]
      exact ⟨by rw [ev], N0, rfl⟩
  · have pre5 : ∀ t, Steps p.tables e below (T2.setTop (mkF m 12 #[.val (.ref r)] [(.int (1 : Int32))])) t → Steps p.tables e below (s₁.setTop (entryFrame m #[(.ref r)] 1)) t := fun t kt => by
      refine pre3 _ ?_
      show Steps p.tables e below (T2.setTop (mkF m 4 #[.val (.ref r)] [u])) _
      rw [hq]
      show Steps p.tables e below (T2.setTop (mkF m 4 #[.val (.ref r)] [(.ref z)])) _
      refine XS.ifnullNo X2.here hx rfl (hb hby d9_4) rfl ?_
      show Steps p.tables e below (T2.setTop (mkF m 7 #[.val (.ref r)] [])) _
      refine XS.iconst X2.here hx rfl (hb hby d9_7) ?_
      show Steps p.tables e below (T2.setTop (mkF m 8 #[.val (.ref r)] [(.int (1 : Int32))])) _
      refine XS.goto X2.here hx rfl (pc0 := 8) (pc' := 12) rfl (hb hby d9_8) (by decide) (by decide) ?_
      exact kt
    have ev : own_fl u = (1 : Int32) := by rw [hq]; rfl
    obtain ⟨fs, hr, hrun, hended, hW, hsame⟩ := X2.leave (v := (some (.int (1 : Int32)))) (fun h => by rw [Bd.returns] at h; cases h)
    refine ⟨_, _, pre5 _ ?_, hrun, hended, _, _, rfl, ?_, ⟨_, rfl⟩, hW, hsame.mono (by decide) (by decide)⟩
    · show Steps p.tables e below (T2.setTop (mkF m 12 #[.val (.ref r)] [(.int (1 : Int32))])) _
      exact retN X2 hx (t := .boolean) Bd.returns (by simp) (hb hby d9_12) hr
    · show Q9 Z r u h0 n0 _ T2.heap _
      rw [e2]
      exact ⟨by rw [ev], N0, rfl⟩
theorem pn_10 : plainName "beanforge/core/RecipeConstructsPinLaw" = true := by first | (simp [plainName, overriddenIn]; done) | decide +kernel
theorem ef_10 (m : MethodId) (r : Addr) (p2 : Int32) (ch : Addr) (aI : Addr) : entryFrame m #[(.ref r), (.int p2), (.ref ch), (.int (own_fl u)), (.ref aI)] 6 = (mkF m 0 #[.val (.ref r), .val (.int p2), .val (.ref ch), .val (.int (own_fl u)), .val (.ref aI), .unset] []) := by first | (simp [entryFrame, mkF, argsToLocals, Value.category]; done) | rfl
theorem d10_0 : decode method_2_code 0 = .ok (.iload_n 1, 1) := by decide +kernel
theorem d10_1 : decode method_2_code 1 = .ok (.iconst 3, 1) := by decide +kernel
theorem d10_2 : decode method_2_code 2 = .ok (.iand, 1) := by decide +kernel
theorem d10_3 : decode method_2_code 3 = .ok (.istore 5, 2) := by decide +kernel
theorem d10_5 : decode method_2_code 5 = .ok (.iload 5, 2) := by decide +kernel
theorem d10_7 : decode method_2_code 7 = .ok (.ifCond .ne 11, 3) := by decide +kernel
theorem d10_10 : decode method_2_code 10 = .ok (.aload_n 0, 1) := by decide +kernel
theorem d10_11 : decode method_2_code 11 = .ok (.aconst_null, 1) := by decide +kernel
theorem d10_12 : decode method_2_code 12 = .ok (.aload_n 2, 1) := by decide +kernel
theorem d10_13 : decode method_2_code 13 = .ok (.invokevirtual 7, 3) := by decide +kernel
theorem d10_16 : decode method_2_code 16 = .ok (.iload_n 3, 1) := by decide +kernel
theorem d10_17 : decode method_2_code 17 = .ok (.ireturn, 1) := by decide +kernel
theorem d10_18 : decode method_2_code 18 = .ok (.iload 5, 2) := by decide +kernel
theorem d10_20 : decode method_2_code 20 = .ok (.iconst 1, 1) := by decide +kernel
theorem d10_21 : decode method_2_code 21 = .ok (.if_icmp .ne 15, 3) := by decide +kernel
theorem d10_24 : decode method_2_code 24 = .ok (.aload_n 0, 1) := by decide +kernel
theorem d10_25 : decode method_2_code 25 = .ok (.aconst_null, 1) := by decide +kernel
theorem d10_26 : decode method_2_code 26 = .ok (.aload_n 2, 1) := by decide +kernel
theorem d10_27 : decode method_2_code 27 = .ok (.aconst_null, 1) := by decide +kernel
theorem d10_28 : decode method_2_code 28 = .ok (.aconst_null, 1) := by decide +kernel
theorem d10_29 : decode method_2_code 29 = .ok (.aload 4, 2) := by decide +kernel
theorem pd_8 : parseMethodDescriptor "(Lbeanforge/core/Preparation$Place;Lbeanforge/core/Overloads$Chosen;Ljava/lang/Object;Lbeanforge/core/Preparation$Maker;Ljava/lang/Object;)V" = some ⟨[(.object "beanforge/core/Preparation$Place"), (.object "beanforge/core/Overloads$Chosen"), (.object "java/lang/Object"), (.object "beanforge/core/Preparation$Maker"), (.object "java/lang/Object")], none⟩ := by decide +kernel
theorem d10_31 : decode method_2_code 31 = .ok (.invokevirtual 13, 3) := by decide +kernel
theorem d10_34 : decode method_2_code 34 = .ok (.iconst 1, 1) := by decide +kernel
theorem d10_35 : decode method_2_code 35 = .ok (.ireturn, 1) := by decide +kernel
theorem d10_36 : decode method_2_code 36 = .ok (.iload 5, 2) := by decide +kernel
theorem d10_38 : decode method_2_code 38 = .ok (.iconst 2, 1) := by decide +kernel
theorem d10_39 : decode method_2_code 39 = .ok (.if_icmp .ne 16, 3) := by decide +kernel
theorem d10_42 : decode method_2_code 42 = .ok (.aload_n 0, 1) := by decide +kernel
theorem d10_43 : decode method_2_code 43 = .ok (.aconst_null, 1) := by decide +kernel
theorem d10_44 : decode method_2_code 44 = .ok (.aconst_null, 1) := by decide +kernel
theorem d10_45 : decode method_2_code 45 = .ok (.aload 4, 2) := by decide +kernel
theorem d10_47 : decode method_2_code 47 = .ok (.aconst_null, 1) := by decide +kernel
theorem d10_48 : decode method_2_code 48 = .ok (.aload 4, 2) := by decide +kernel
theorem d10_50 : decode method_2_code 50 = .ok (.invokevirtual 13, 3) := by decide +kernel
theorem d10_53 : decode method_2_code 53 = .ok (.iconst 0, 1) := by decide +kernel
theorem d10_54 : decode method_2_code 54 = .ok (.ireturn, 1) := by decide +kernel
theorem d10_55 : decode method_2_code 55 = .ok (.aload_n 0, 1) := by decide +kernel
theorem d10_56 : decode method_2_code 56 = .ok (.aconst_null, 1) := by decide +kernel
theorem d10_57 : decode method_2_code 57 = .ok (.aconst_null, 1) := by decide +kernel
theorem d10_58 : decode method_2_code 58 = .ok (.invokevirtual 7, 3) := by decide +kernel
theorem d10_61 : decode method_2_code 61 = .ok (.iload_n 3, 1) := by decide +kernel
theorem d10_62 : decode method_2_code 62 = .ok (.ireturn, 1) := by decide +kernel
def Q10 (Z : State) (r : Addr) (p2 : Int32) (ch : Addr) (aI : Addr) (b : Addr) (aE : Addr) (kE : ClassId) (cc : Nat) (u : Value) (h0 : Heap) (n0 : Nat) (v : Option Value) (h : Heap) (L : List Loc) : Prop := ∃ (cc' : Nat) (u' : Value), cc' ≤ cc + 1 ∧ u'.isRef = true ∧ v = some (.int (own_fl u')) ∧ Fr n0 L ∧ own_ST Z h n0 r b aE aI cc' u'
set_option maxRecDepth 65536 in
set_option maxHeartbeats 40000000 in
theorem rm10 (l : Launch) (Z : State) (a0 : Array Value) (hw : ∀ d ∈ tables_1, d.before a0 Z = true) (ws : List Jvm.Cond) (r : Addr) (p2 : Int32) (ch : Addr) (aI : Addr) (b : Addr) (aE : Addr) (kE : ClassId) (cc : Nat) (u : Value) (h0 : Heap) (n0 : Nat) (O0 : Old Z n0 h0) (SE : Sta Z Z.heap "java/util/ArrayList" "DEFAULTCAPACITY_EMPTY_ELEMENTDATA" "[Ljava/lang/Object;" (.ref aE)) (VZ : Arv Z Z.heap aE kE (.object "java/lang/Object") (0 : Int32) [] .null) (hM : MirrorMade Z "java/lang/Integer") (hc : cc ≤ 8) (hu : u.isRef = true) (ST : own_ST Z h0 n0 r b aE aI cc u) :
    MetFree l (⟨"beanforge/core/RecipeConstructsPinLaw", "step", "(Lbeanforge/core/Recipe;ILbeanforge/core/Overloads$Chosen;ZLjava/lang/Object;)Z"⟩ : MethodName) (head1 (Jvm.Cond.code (⟨"beanforge/core/RecipeConstructsPinLaw", "step", "(Lbeanforge/core/Recipe;ILbeanforge/core/Overloads$Chosen;ZLjava/lang/Object;)Z"⟩ : MethodName) method_2_code 6 (some .boolean) :: ws) ({ frames := 6, cells := 2, slots := 12, locals := 83 } : Room)) (fun a U => a = #[(.ref r), (.int p2), (.ref ch), (.int (own_fl u)), (.ref aI)] ∧ Z.Warmed39 U.vm ∧ U.heap = h0) (fun _ _ _ _ _ => True) (fun _ U o U' => ∃ v L, o = .returned v ∧ Q10 Z r p2 ch aI b aE kE cc u h0 n0 v U'.heap L ∧ FrameEnd U o U' L ({ frames := 6, cells := 2, slots := 12, locals := 83 } : Room).cells ({ frames := 6, cells := 2, slots := 12, locals := 83 } : Room).slots) := by
  refine MetFree.of_bodySF (plainFor_of_name pn_10) hisR ?_
  intro p e s m args below meth c s₁ Bd hml0 hP hK
  obtain ⟨rfl, hZ, hh⟩ := hP
  have hx := Bd.exec
  have hby := Bd.bytes
  have hml : c.maxLocals = 6 := hml0
  have hown : s.vm.findClass "beanforge/core/RecipeConstructsPinLaw" = some m.cls := findClass_of_methodNamed Bd.named
  have hnm := (name_of_methodNamed Bd.named Bd.method).1
  have X0 : Stand p l e ({ frames := 6, cells := 2, slots := 12, locals := 83 } : Room) s m #[(.ref r), (.int p2), (.ref ch), (.int (own_fl u)), (.ref aI)] below meth c s₁ [] 0 0 := Stand.of_body Bd
  have e0 : s₁.heap = h0 := by rw [← hh, Bd.state]; rfl
  have N0 := Fr.nil n0
  have Z0 : n0 ≤ h0.size := O0.1 ▸ O0.2.1
  have pre0 : ∀ t, Steps p.tables e below (s₁.setTop (mkF m 0 #[.val (.ref r), .val (.int p2), .val (.ref ch), .val (.int (own_fl u)), .val (.ref aI), .unset] [])) t → Steps p.tables e below (s₁.setTop (entryFrame m #[(.ref r), (.int p2), (.ref ch), (.int (own_fl u)), (.ref aI)] 6)) t := fun t k => castTop (ef_10 m r p2 ch aI) k
  obtain ⟨Er, Fc, Fu, ⟨v1, v2, v3, v4, G1, G2, G3, G4⟩, hAL, EI, gr, -⟩ := ST
  obtain ⟨Eb, ⟨mc, Fm⟩, Fs, gb, hcase⟩ := hAL
  have VE := VZ.ext O0.2
  have nae : b ≠ aE := (O0.ne VZ.lt gb).symm
  have nrb : r ≠ b := Er.ne Eb (by decide)
  have nre : r ≠ aE := (O0.ne VZ.lt gr).symm
  have pre1 : ∀ t, Steps p.tables e below (s₁.setTop (mkF m 7 #[.val (.ref r), .val (.int p2), .val (.ref ch), .val (.int (own_fl u)), .val (.ref aI), .val (.int (p2 &&& (3 : Int32)))] [(.int (p2 &&& (3 : Int32)))])) t → Steps p.tables e below (s₁.setTop (entryFrame m #[(.ref r), (.int p2), (.ref ch), (.int (own_fl u)), (.ref aI)] 6)) t := fun t kt => by
    refine pre0 _ ?_
    show Steps p.tables e below (s₁.setTop (mkF m 0 #[.val (.ref r), .val (.int p2), .val (.ref ch), .val (.int (own_fl u)), .val (.ref aI), .unset] [])) _
    refine XS.iloadN X0.here hx rfl (hb hby d10_0) rfl ?_
    show Steps p.tables e below (s₁.setTop (mkF m 1 #[.val (.ref r), .val (.int p2), .val (.ref ch), .val (.int (own_fl u)), .val (.ref aI), .unset] [(.int p2)])) _
    refine XS.iconst X0.here hx rfl (hb hby d10_1) ?_
    show Steps p.tables e below (s₁.setTop (mkF m 2 #[.val (.ref r), .val (.int p2), .val (.ref ch), .val (.int (own_fl u)), .val (.ref aI), .unset] [(.int (3 : Int32)), (.int p2)])) _
    refine XS.iand X0.here hx rfl (hb hby d10_2) rfl ?_
    show Steps p.tables e below (s₁.setTop (mkF m 3 #[.val (.ref r), .val (.int p2), .val (.ref ch), .val (.int (own_fl u)), .val (.ref aI), .unset] [(.int (p2 &&& (3 : Int32)))])) _
    refine XS.istore X0.here hx rfl (hb hby d10_3) rfl (l' := #[.val (.ref r), .val (.int p2), .val (.ref ch), .val (.int (own_fl u)), .val (.ref aI), .val (.int (p2 &&& (3 : Int32)))]) rfl ?_
    show Steps p.tables e below (s₁.setTop (mkF m 5 #[.val (.ref r), .val (.int p2), .val (.ref ch), .val (.int (own_fl u)), .val (.ref aI), .val (.int (p2 &&& (3 : Int32)))] [])) _
    refine XS.iload X0.here hx rfl (hb hby d10_5) rfl ?_
    exact kt
  by_cases c0 : (p2 &&& (3 : Int32)) = (0 : Int32)
  · have pre2 : ∀ t, Steps p.tables e below (s₁.setTop (mkF m 13 #[.val (.ref r), .val (.int p2), .val (.ref ch), .val (.int (own_fl u)), .val (.ref aI), .val (.int (p2 &&& (3 : Int32)))] [(.ref ch), .null, (.ref r)])) t → Steps p.tables e below (s₁.setTop (entryFrame m #[(.ref r), (.int p2), (.ref ch), (.int (own_fl u)), (.ref aI)] 6)) t := fun t kt => by
      refine pre1 _ ?_
      show Steps p.tables e below (s₁.setTop (mkF m 7 #[.val (.ref r), .val (.int p2), .val (.ref ch), .val (.int (own_fl u)), .val (.ref aI), .val (.int (p2 &&& (3 : Int32)))] [(.int (p2 &&& (3 : Int32)))])) _
      refine XS.ifNo X0.here hx rfl (hb hby d10_7) rfl ((if0 _ _).trans (teq (c0 : (p2 &&& (3 : Int32)) = (0 : Int32))).2) ?_
      show Steps p.tables e below (s₁.setTop (mkF m 10 #[.val (.ref r), .val (.int p2), .val (.ref ch), .val (.int (own_fl u)), .val (.ref aI), .val (.int (p2 &&& (3 : Int32)))] [])) _
      refine XS.aloadN X0.here hx rfl (hb hby d10_10) rfl rfl ?_
      show Steps p.tables e below (s₁.setTop (mkF m 11 #[.val (.ref r), .val (.int p2), .val (.ref ch), .val (.int (own_fl u)), .val (.ref aI), .val (.int (p2 &&& (3 : Int32)))] [(.ref r)])) _
      refine XS.aconstNull X0.here hx rfl (hb hby d10_11) ?_
      show Steps p.tables e below (s₁.setTop (mkF m 12 #[.val (.ref r), .val (.int p2), .val (.ref ch), .val (.int (own_fl u)), .val (.ref aI), .val (.int (p2 &&& (3 : Int32)))] [.null, (.ref r)])) _
      refine XS.aloadN X0.here hx rfl (hb hby d10_12) rfl rfl ?_
      exact kt
    rcases hcase with ⟨hc0, Fe⟩ | ⟨hc1, d, kd, vs, Fe, Vd, Od, gd, nbd⟩
    · have Fs0 : Fld Z h0 b "java/util/ArrayList" "size" "I" (.int (0 : Int32)) := by rw [hc0] at Fs; exact Fs
      obtain ⟨cq3, kq3, q3a, q3b, q3c⟩ := isOf hZ e0 Er
      obtain ⟨_, _, ⟨T4, L4, kc4, nc4⟩, -, X4, ⟨Lc4, hQ4, l4, y4, z4⟩, st4⟩ := X0.virtualBack hx (y := (⟨"beanforge/core/Recipe", "called", "(Lbeanforge/core/Preparation$Place;Lbeanforge/core/Overloads$Chosen;)V"⟩ : MethodName)) (z := (⟨"beanforge/core/Recipe", "called", "(Lbeanforge/core/Preparation$Place;Lbeanforge/core/Overloads$Chosen;)V"⟩ : MethodName)) hown (mvT hZ (hw _ (List.mem_of_getElem? (i := 71) rfl))) (mvT hZ (hw _ (List.mem_of_getElem? (i := 72) rfl))) (notFace_of_selects (args := #[]) (mvT hZ (hw _ (List.mem_of_getElem? (i := 74) rfl)))) (mvT hZ (hw _ (List.mem_of_getElem? (i := 74) rfl))) (mvT hZ (hw _ (List.mem_of_getElem? (i := 73) rfl))) (by decide) (backOf (W := 0) (rm11a l Z a0 hw [] r (.ref ch) b aE kE mc h0 n0 O0 rfl Fc SE VE Eb Fm Fe Fs0 gb nae) hZ (hw _ (List.mem_of_getElem? (i := 75) rfl)) (hw _ (List.mem_of_getElem? (i := 2) rfl)) (by decide) (by decide)) q3a q3c (g := (mkF m 13 #[.val (.ref r), .val (.int p2), .val (.ref ch), .val (.int (own_fl u)), .val (.ref aI), .val (.int (p2 &&& (3 : Int32)))] [(.ref ch), .null, (.ref r)])) rfl (by rw [hml]; rfl) (Steps.refl _) (argsL := [.null, (.ref ch)]) (rest := []) (lenOf pd_6 rfl) rfl (by show 2 * 0 + _ ≤ _; exact Nat.le_of_eq rfl) (hb hby d10_13) (fun _ _ => ⟨rfl, e0, (by decide : 0 + 2 ≤ _), (by decide : 0 + 12 ≤ _)⟩)
      dsimp only [Pt.U, Pt.locs, Pt.cells, Pt.slots] at X4 l4 y4 z4 st4 hQ4
      subst l4 y4 z4
      obtain ⟨rfl, N4q, K4, AL4⟩ := hQ4
      have N4 := Fr.app N0 N4q
      have pre5 : ∀ t, Steps p.tables e below (T4.setTop (mkF m 16 #[.val (.ref r), .val (.int p2), .val (.ref ch), .val (.int (own_fl u)), .val (.ref aI), .val (.int (p2 &&& (3 : Int32)))] [])) t → Steps p.tables e below (s₁.setTop (entryFrame m #[(.ref r), (.int p2), (.ref ch), (.int (own_fl u)), (.ref aI)] 6)) t := fun t kt => pre2 _ (st4.trans kt)
      have f6 := (Er.keep K4)
      have f7 := (Fc.keep K4 (ninS nrb nin0))
      have f8 := (Fu.keep K4 (ninS nrb nin0))
      have f9 := (G1.keep K4 (ninS nrb nin0))
      have f10 := (G2.keep K4 (ninS nrb nin0))
      have f11 := (G3.keep K4 (ninS nrb nin0))
      have f12 := (G4.keep K4 (ninS nrb nin0))
      have f13 := (EI.keep K4)
      have o14 : Old Z n0 T4.heap := (O0.keep K4 (allS gb all0))
      have pre15 : ∀ t, Steps p.tables e below (T4.setTop (mkF m 17 #[.val (.ref r), .val (.int p2), .val (.ref ch), .val (.int (own_fl u)), .val (.ref aI), .val (.int (p2 &&& (3 : Int32)))] [(.int (own_fl u))])) t → Steps p.tables e below (s₁.setTop (entryFrame m #[(.ref r), (.int p2), (.ref ch), (.int (own_fl u)), (.ref aI)] 6)) t := fun t kt => by
        refine pre5 _ ?_
        show Steps p.tables e below (T4.setTop (mkF m 16 #[.val (.ref r), .val (.int p2), .val (.ref ch), .val (.int (own_fl u)), .val (.ref aI), .val (.int (p2 &&& (3 : Int32)))] [])) _
        refine XS.iloadN X4.here hx rfl (hb hby d10_16) rfl ?_
        exact kt
      obtain ⟨fs, hr, hrun, hended, hW, hsame⟩ := X4.leave (v := (some (.int (nar .boolean (own_fl u))))) (fun h => by rw [Bd.returns] at h; cases h)
      refine ⟨_, _, pre15 _ ?_, hrun, hended, _, _, rfl, ?_, ⟨_, rfl⟩, hW, hsame.mono (by decide) (by decide)⟩
      · show Steps p.tables e below (T4.setTop (mkF m 17 #[.val (.ref r), .val (.int p2), .val (.ref ch), .val (.int (own_fl u)), .val (.ref aI), .val (.int (p2 &&& (3 : Int32)))] [(.int (own_fl u))])) _
        exact retN X4 hx (t := .boolean) Bd.returns (by simp) (hb hby d10_17) hr
      · show Q10 Z r p2 ch aI b aE kE cc u h0 n0 _ T4.heap _
        exact ⟨_, _, (by omega), hu, congrArg some (congrArg Value.int (by first | exact own_fln _ | rfl | simp [own_fl, nar])), N4, f6, f7, f8, ⟨_, _, _, _, f9, f10, f11, f12⟩, AL4, f13, gr, o14⟩
    · have nrd : r ≠ d := Er.neArv Vd (hw _ (List.mem_of_getElem? (i := 1) rfl))
      have nId : aI ≠ d := EI.neArv Vd (hw _ (List.mem_of_getElem? (i := 141) rfl))
      obtain ⟨cq16, kq16, q16a, q16b, q16c⟩ := isOf hZ e0 Er
      obtain ⟨_, _, ⟨T17, L17, kc17, nc17⟩, -, X17, ⟨Lc17, hQ17, l17, y17, z17⟩, st17⟩ := X0.virtualBack hx (y := (⟨"beanforge/core/Recipe", "called", "(Lbeanforge/core/Preparation$Place;Lbeanforge/core/Overloads$Chosen;)V"⟩ : MethodName)) (z := (⟨"beanforge/core/Recipe", "called", "(Lbeanforge/core/Preparation$Place;Lbeanforge/core/Overloads$Chosen;)V"⟩ : MethodName)) hown (mvT hZ (hw _ (List.mem_of_getElem? (i := 71) rfl))) (mvT hZ (hw _ (List.mem_of_getElem? (i := 72) rfl))) (notFace_of_selects (args := #[]) (mvT hZ (hw _ (List.mem_of_getElem? (i := 74) rfl)))) (mvT hZ (hw _ (List.mem_of_getElem? (i := 74) rfl))) (mvT hZ (hw _ (List.mem_of_getElem? (i := 73) rfl))) (by decide) (backOf (W := 0) (rm11b l Z a0 hw [] r (.ref ch) b aE d kd vs mc cc h0 n0 Z0 rfl Fc hc1 (by omega) Vd Od gd nbd Eb Fm Fe Fs gb) hZ (hw _ (List.mem_of_getElem? (i := 75) rfl)) (hw _ (List.mem_of_getElem? (i := 2) rfl)) (by decide) (by decide)) q16a q16c (g := (mkF m 13 #[.val (.ref r), .val (.int p2), .val (.ref ch), .val (.int (own_fl u)), .val (.ref aI), .val (.int (p2 &&& (3 : Int32)))] [(.ref ch), .null, (.ref r)])) rfl (by rw [hml]; rfl) (Steps.refl _) (argsL := [.null, (.ref ch)]) (rest := []) (lenOf pd_6 rfl) rfl (by show 2 * 0 + _ ≤ _; exact Nat.le_of_eq rfl) (hb hby d10_13) (fun _ _ => ⟨rfl, e0, (by decide : 0 + 2 ≤ _), (by decide : 0 + 12 ≤ _)⟩)
      dsimp only [Pt.U, Pt.locs, Pt.cells, Pt.slots] at X17 l17 y17 z17 st17 hQ17
      subst l17 y17 z17
      obtain ⟨rfl, N17q, K17, AL17⟩ := hQ17
      have N17 := Fr.app N0 N17q
      have pre18 : ∀ t, Steps p.tables e below (T17.setTop (mkF m 16 #[.val (.ref r), .val (.int p2), .val (.ref ch), .val (.int (own_fl u)), .val (.ref aI), .val (.int (p2 &&& (3 : Int32)))] [])) t → Steps p.tables e below (s₁.setTop (entryFrame m #[(.ref r), (.int p2), (.ref ch), (.int (own_fl u)), (.ref aI)] 6)) t := fun t kt => pre2 _ (st17.trans kt)
      have f19 := (Er.keep K17)
      have f20 := (Fc.keep K17 (ninS nrb (ninS nrd nin0)))
      have f21 := (Fu.keep K17 (ninS nrb (ninS nrd nin0)))
      have f22 := (G1.keep K17 (ninS nrb (ninS nrd nin0)))
      have f23 := (G2.keep K17 (ninS nrb (ninS nrd nin0)))
      have f24 := (G3.keep K17 (ninS nrb (ninS nrd nin0)))
      have f25 := (G4.keep K17 (ninS nrb (ninS nrd nin0)))
      have f26 := (EI.keep K17)
      have o27 : Old Z n0 T17.heap := (O0.keep K17 (allS gb (allS gd all0)))
      have pre28 : ∀ t, Steps p.tables e below (T17.setTop (mkF m 17 #[.val (.ref r), .val (.int p2), .val (.ref ch), .val (.int (own_fl u)), .val (.ref aI), .val (.int (p2 &&& (3 : Int32)))] [(.int (own_fl u))])) t → Steps p.tables e below (s₁.setTop (entryFrame m #[(.ref r), (.int p2), (.ref ch), (.int (own_fl u)), (.ref aI)] 6)) t := fun t kt => by
        refine pre18 _ ?_
        show Steps p.tables e below (T17.setTop (mkF m 16 #[.val (.ref r), .val (.int p2), .val (.ref ch), .val (.int (own_fl u)), .val (.ref aI), .val (.int (p2 &&& (3 : Int32)))] [])) _
        refine XS.iloadN X17.here hx rfl (hb hby d10_16) rfl ?_
        exact kt
      obtain ⟨fs, hr, hrun, hended, hW, hsame⟩ := X17.leave (v := (some (.int (nar .boolean (own_fl u))))) (fun h => by rw [Bd.returns] at h; cases h)
      refine ⟨_, _, pre28 _ ?_, hrun, hended, _, _, rfl, ?_, ⟨_, rfl⟩, hW, hsame.mono (by decide) (by decide)⟩
      · show Steps p.tables e below (T17.setTop (mkF m 17 #[.val (.ref r), .val (.int p2), .val (.ref ch), .val (.int (own_fl u)), .val (.ref aI), .val (.int (p2 &&& (3 : Int32)))] [(.int (own_fl u))])) _
        exact retN X17 hx (t := .boolean) Bd.returns (by simp) (hb hby d10_17) hr
      · show Q10 Z r p2 ch aI b aE kE cc u h0 n0 _ T17.heap _
        exact ⟨_, _, (by omega), hu, congrArg some (congrArg Value.int (by first | exact own_fln _ | rfl | simp [own_fl, nar])), N17, f19, f20, f21, ⟨_, _, _, _, f22, f23, f24, f25⟩, AL17, f26, gr, o27⟩
  · have pre29 : ∀ t, Steps p.tables e below (s₁.setTop (mkF m 21 #[.val (.ref r), .val (.int p2), .val (.ref ch), .val (.int (own_fl u)), .val (.ref aI), .val (.int (p2 &&& (3 : Int32)))] [(.int (1 : Int32)), (.int (p2 &&& (3 : Int32)))])) t → Steps p.tables e below (s₁.setTop (entryFrame m #[(.ref r), (.int p2), (.ref ch), (.int (own_fl u)), (.ref aI)] 6)) t := fun t kt => by
      refine pre1 _ ?_
      show Steps p.tables e below (s₁.setTop (mkF m 7 #[.val (.ref r), .val (.int p2), .val (.ref ch), .val (.int (own_fl u)), .val (.ref aI), .val (.int (p2 &&& (3 : Int32)))] [(.int (p2 &&& (3 : Int32)))])) _
      refine XS.ifYes X0.here hx rfl (pc0 := 7) (pc' := 18) rfl (hb hby d10_7) rfl ((if0 _ _).trans (feq (c0 : ¬ ((p2 &&& (3 : Int32)) = (0 : Int32)))).2) (by decide) (by decide) ?_
      show Steps p.tables e below (s₁.setTop (mkF m 18 #[.val (.ref r), .val (.int p2), .val (.ref ch), .val (.int (own_fl u)), .val (.ref aI), .val (.int (p2 &&& (3 : Int32)))] [])) _
      refine XS.iload X0.here hx rfl (hb hby d10_18) rfl ?_
      show Steps p.tables e below (s₁.setTop (mkF m 20 #[.val (.ref r), .val (.int p2), .val (.ref ch), .val (.int (own_fl u)), .val (.ref aI), .val (.int (p2 &&& (3 : Int32)))] [(.int (p2 &&& (3 : Int32)))])) _
      refine XS.iconst X0.here hx rfl (hb hby d10_20) ?_
      exact kt
    by_cases c1 : (p2 &&& (3 : Int32)) = (1 : Int32)
    · have pre30 : ∀ t, Steps p.tables e below (s₁.setTop (mkF m 31 #[.val (.ref r), .val (.int p2), .val (.ref ch), .val (.int (own_fl u)), .val (.ref aI), .val (.int (p2 &&& (3 : Int32)))] [(.ref aI), .null, .null, (.ref ch), .null, (.ref r)])) t → Steps p.tables e below (s₁.setTop (entryFrame m #[(.ref r), (.int p2), (.ref ch), (.int (own_fl u)), (.ref aI)] 6)) t := fun t kt => by
        refine pre29 _ ?_
        show Steps p.tables e below (s₁.setTop (mkF m 21 #[.val (.ref r), .val (.int p2), .val (.ref ch), .val (.int (own_fl u)), .val (.ref aI), .val (.int (p2 &&& (3 : Int32)))] [(.int (1 : Int32)), (.int (p2 &&& (3 : Int32)))])) _
        refine XS.icmpNo X0.here hx rfl (hb hby d10_21) rfl (teq (c1 : (p2 &&& (3 : Int32)) = (1 : Int32))).2 ?_
        show Steps p.tables e below (s₁.setTop (mkF m 24 #[.val (.ref r), .val (.int p2), .val (.ref ch), .val (.int (own_fl u)), .val (.ref aI), .val (.int (p2 &&& (3 : Int32)))] [])) _
        refine XS.aloadN X0.here hx rfl (hb hby d10_24) rfl rfl ?_
        show Steps p.tables e below (s₁.setTop (mkF m 25 #[.val (.ref r), .val (.int p2), .val (.ref ch), .val (.int (own_fl u)), .val (.ref aI), .val (.int (p2 &&& (3 : Int32)))] [(.ref r)])) _
        refine XS.aconstNull X0.here hx rfl (hb hby d10_25) ?_
        show Steps p.tables e below (s₁.setTop (mkF m 26 #[.val (.ref r), .val (.int p2), .val (.ref ch), .val (.int (own_fl u)), .val (.ref aI), .val (.int (p2 &&& (3 : Int32)))] [.null, (.ref r)])) _
        refine XS.aloadN X0.here hx rfl (hb hby d10_26) rfl rfl ?_
        show Steps p.tables e below (s₁.setTop (mkF m 27 #[.val (.ref r), .val (.int p2), .val (.ref ch), .val (.int (own_fl u)), .val (.ref aI), .val (.int (p2 &&& (3 : Int32)))] [(.ref ch), .null, (.ref r)])) _
        refine XS.aconstNull X0.here hx rfl (hb hby d10_27) ?_
        show Steps p.tables e below (s₁.setTop (mkF m 28 #[.val (.ref r), .val (.int p2), .val (.ref ch), .val (.int (own_fl u)), .val (.ref aI), .val (.int (p2 &&& (3 : Int32)))] [.null, (.ref ch), .null, (.ref r)])) _
        refine XS.aconstNull X0.here hx rfl (hb hby d10_28) ?_
        show Steps p.tables e below (s₁.setTop (mkF m 29 #[.val (.ref r), .val (.int p2), .val (.ref ch), .val (.int (own_fl u)), .val (.ref aI), .val (.int (p2 &&& (3 : Int32)))] [.null, .null, (.ref ch), .null, (.ref r)])) _
        refine XS.aload X0.here hx rfl (hb hby d10_29) rfl rfl ?_
        exact kt
      have hAL0 : own_AL Z h0 n0 b aE cc := ⟨Eb, ⟨mc, Fm⟩, Fs, gb, hcase⟩
      obtain ⟨cq31, kq31, q31a, q31b, q31c⟩ := isOf hZ e0 Er
      obtain ⟨_, _, ⟨T32, L32, kc32, nc32⟩, -, X32, ⟨Lc32, hQ32, l32, y32, z32⟩, st32⟩ := X0.virtualBack hx (y := (⟨"beanforge/core/Recipe", "constructed", "(Lbeanforge/core/Preparation$Place;Lbeanforge/core/Overloads$Chosen;Ljava/lang/Object;Lbeanforge/core/Preparation$Maker;Ljava/lang/Object;)V"⟩ : MethodName)) (z := (⟨"beanforge/core/Recipe", "constructed", "(Lbeanforge/core/Preparation$Place;Lbeanforge/core/Overloads$Chosen;Ljava/lang/Object;Lbeanforge/core/Preparation$Maker;Ljava/lang/Object;)V"⟩ : MethodName)) hown (mvT hZ (hw _ (List.mem_of_getElem? (i := 121) rfl))) (mvT hZ (hw _ (List.mem_of_getElem? (i := 122) rfl))) (notFace_of_selects (args := #[]) (mvT hZ (hw _ (List.mem_of_getElem? (i := 124) rfl)))) (mvT hZ (hw _ (List.mem_of_getElem? (i := 124) rfl))) (mvT hZ (hw _ (List.mem_of_getElem? (i := 123) rfl))) (by decide) (backOf (W := 0) (rm18 l Z a0 hw [] r (.ref ch) .null aI b u v1 v2 v3 v4 h0 n0 Z0 rfl rfl hM EI Er Fc Fu G1 G2 G3 G4 gr) hZ (hw _ (List.mem_of_getElem? (i := 125) rfl)) (hw _ (List.mem_of_getElem? (i := 2) rfl)) (by decide) (by decide)) q31a q31c (g := (mkF m 31 #[.val (.ref r), .val (.int p2), .val (.ref ch), .val (.int (own_fl u)), .val (.ref aI), .val (.int (p2 &&& (3 : Int32)))] [(.ref aI), .null, .null, (.ref ch), .null, (.ref r)])) rfl (by rw [hml]; rfl) (Steps.refl _) (argsL := [.null, (.ref ch), .null, .null, (.ref aI)]) (rest := []) (lenOf pd_8 rfl) rfl (by show 2 * 0 + _ ≤ _; exact Nat.le_of_eq rfl) (hb hby d10_31) (fun _ _ => ⟨rfl, e0, (by decide : 0 + 0 ≤ _), (by decide : 0 + 0 ≤ _)⟩)
      dsimp only [Pt.U, Pt.locs, Pt.cells, Pt.slots] at X32 l32 y32 z32 st32 hQ32
      subst l32 y32 z32
      obtain ⟨rfl, N32q, K32, Ea32, Fc32, Fu32, v132, v232, v332, v432, G132, G232, G332, G432⟩ := hQ32
      have N32 := Fr.app N0 N32q
      have pre33 : ∀ t, Steps p.tables e below (T32.setTop (mkF m 34 #[.val (.ref r), .val (.int p2), .val (.ref ch), .val (.int (own_fl u)), .val (.ref aI), .val (.int (p2 &&& (3 : Int32)))] [])) t → Steps p.tables e below (s₁.setTop (entryFrame m #[(.ref r), (.int p2), (.ref ch), (.int (own_fl u)), (.ref aI)] 6)) t := fun t kt => pre30 _ (st32.trans kt)
      have pre34 : ∀ t, Steps p.tables e below (T32.setTop (mkF m 35 #[.val (.ref r), .val (.int p2), .val (.ref ch), .val (.int (own_fl u)), .val (.ref aI), .val (.int (p2 &&& (3 : Int32)))] [(.int (1 : Int32))])) t → Steps p.tables e below (s₁.setTop (entryFrame m #[(.ref r), (.int p2), (.ref ch), (.int (own_fl u)), (.ref aI)] 6)) t := fun t kt => by
        refine pre33 _ ?_
        show Steps p.tables e below (T32.setTop (mkF m 34 #[.val (.ref r), .val (.int p2), .val (.ref ch), .val (.int (own_fl u)), .val (.ref aI), .val (.int (p2 &&& (3 : Int32)))] [])) _
        refine XS.iconst X32.here hx rfl (hb hby d10_34) ?_
        exact kt
      have f35 := (Eb.keep K32)
      have f36 := (Fm.keep K32 (ninS (Ne.symm nrb) nin0))
      have f37 := (Fs.keep K32 (ninS (Ne.symm nrb) nin0))
      have AL' : own_AL Z T32.heap n0 b aE cc := ⟨f35, ⟨mc, f36⟩, f37, gb, hcase.imp (fun q => ⟨q.1, q.2.keep K32 (ninS nrb.symm nin0)⟩) (fun ⟨q1, d, kd, vs, q2, q3, q4, q5, q6⟩ => ⟨q1, d, kd, vs, q2.keep K32 (ninS nrb.symm nin0), q3.keep K32 (ninS (Er.neArv q3 (hw _ (List.mem_of_getElem? (i := 1) rfl))).symm nin0), q4, q5, q6⟩)⟩
      have f38 := (EI.keep K32)
      have o39 : Old Z n0 T32.heap := (O0.keep K32 (allS gr all0))
      obtain ⟨fs, hr, hrun, hended, hW, hsame⟩ := X32.leave (v := (some (.int (nar .boolean (1 : Int32))))) (fun h => by rw [Bd.returns] at h; cases h)
      refine ⟨_, _, pre34 _ ?_, hrun, hended, _, _, rfl, ?_, ⟨_, rfl⟩, hW, hsame.mono (by decide) (by decide)⟩
      · show Steps p.tables e below (T32.setTop (mkF m 35 #[.val (.ref r), .val (.int p2), .val (.ref ch), .val (.int (own_fl u)), .val (.ref aI), .val (.int (p2 &&& (3 : Int32)))] [(.int (1 : Int32))])) _
        exact retN X32 hx (t := .boolean) Bd.returns (by simp) (hb hby d10_35) hr
      · show Q10 Z r p2 ch aI b aE kE cc u h0 n0 _ T32.heap _
        exact ⟨cc, (.ref ch), Nat.le_succ cc, rfl, congrArg some (congrArg Value.int (by first | exact own_fln _ | rfl | simp [own_fl, nar])), N32, Ea32, Fc32, Fu32, ⟨_, _, _, _, G132, G232, G332, G432⟩, AL', f38, gr, o39⟩
    · have pre40 : ∀ t, Steps p.tables e below (s₁.setTop (mkF m 39 #[.val (.ref r), .val (.int p2), .val (.ref ch), .val (.int (own_fl u)), .val (.ref aI), .val (.int (p2 &&& (3 : Int32)))] [(.int (2 : Int32)), (.int (p2 &&& (3 : Int32)))])) t → Steps p.tables e below (s₁.setTop (entryFrame m #[(.ref r), (.int p2), (.ref ch), (.int (own_fl u)), (.ref aI)] 6)) t := fun t kt => by
        refine pre29 _ ?_
        show Steps p.tables e below (s₁.setTop (mkF m 21 #[.val (.ref r), .val (.int p2), .val (.ref ch), .val (.int (own_fl u)), .val (.ref aI), .val (.int (p2 &&& (3 : Int32)))] [(.int (1 : Int32)), (.int (p2 &&& (3 : Int32)))])) _
        refine XS.icmpYes X0.here hx rfl (pc0 := 21) (pc' := 36) rfl (hb hby d10_21) rfl (feq (c1 : ¬ ((p2 &&& (3 : Int32)) = (1 : Int32)))).2 (by decide) (by decide) ?_
        show Steps p.tables e below (s₁.setTop (mkF m 36 #[.val (.ref r), .val (.int p2), .val (.ref ch), .val (.int (own_fl u)), .val (.ref aI), .val (.int (p2 &&& (3 : Int32)))] [])) _
        refine XS.iload X0.here hx rfl (hb hby d10_36) rfl ?_
        show Steps p.tables e below (s₁.setTop (mkF m 38 #[.val (.ref r), .val (.int p2), .val (.ref ch), .val (.int (own_fl u)), .val (.ref aI), .val (.int (p2 &&& (3 : Int32)))] [(.int (p2 &&& (3 : Int32)))])) _
        refine XS.iconst X0.here hx rfl (hb hby d10_38) ?_
        exact kt
      by_cases c2 : (p2 &&& (3 : Int32)) = (2 : Int32)
      · have pre41 : ∀ t, Steps p.tables e below (s₁.setTop (mkF m 50 #[.val (.ref r), .val (.int p2), .val (.ref ch), .val (.int (own_fl u)), .val (.ref aI), .val (.int (p2 &&& (3 : Int32)))] [(.ref aI), .null, (.ref aI), .null, .null, (.ref r)])) t → Steps p.tables e below (s₁.setTop (entryFrame m #[(.ref r), (.int p2), (.ref ch), (.int (own_fl u)), (.ref aI)] 6)) t := fun t kt => by
          refine pre40 _ ?_
          show Steps p.tables e below (s₁.setTop (mkF m 39 #[.val (.ref r), .val (.int p2), .val (.ref ch), .val (.int (own_fl u)), .val (.ref aI), .val (.int (p2 &&& (3 : Int32)))] [(.int (2 : Int32)), (.int (p2 &&& (3 : Int32)))])) _
          refine XS.icmpNo X0.here hx rfl (hb hby d10_39) rfl (teq (c2 : (p2 &&& (3 : Int32)) = (2 : Int32))).2 ?_
          show Steps p.tables e below (s₁.setTop (mkF m 42 #[.val (.ref r), .val (.int p2), .val (.ref ch), .val (.int (own_fl u)), .val (.ref aI), .val (.int (p2 &&& (3 : Int32)))] [])) _
          refine XS.aloadN X0.here hx rfl (hb hby d10_42) rfl rfl ?_
          show Steps p.tables e below (s₁.setTop (mkF m 43 #[.val (.ref r), .val (.int p2), .val (.ref ch), .val (.int (own_fl u)), .val (.ref aI), .val (.int (p2 &&& (3 : Int32)))] [(.ref r)])) _
          refine XS.aconstNull X0.here hx rfl (hb hby d10_43) ?_
          show Steps p.tables e below (s₁.setTop (mkF m 44 #[.val (.ref r), .val (.int p2), .val (.ref ch), .val (.int (own_fl u)), .val (.ref aI), .val (.int (p2 &&& (3 : Int32)))] [.null, (.ref r)])) _
          refine XS.aconstNull X0.here hx rfl (hb hby d10_44) ?_
          show Steps p.tables e below (s₁.setTop (mkF m 45 #[.val (.ref r), .val (.int p2), .val (.ref ch), .val (.int (own_fl u)), .val (.ref aI), .val (.int (p2 &&& (3 : Int32)))] [.null, .null, (.ref r)])) _
          refine XS.aload X0.here hx rfl (hb hby d10_45) rfl rfl ?_
          show Steps p.tables e below (s₁.setTop (mkF m 47 #[.val (.ref r), .val (.int p2), .val (.ref ch), .val (.int (own_fl u)), .val (.ref aI), .val (.int (p2 &&& (3 : Int32)))] [(.ref aI), .null, .null, (.ref r)])) _
          refine XS.aconstNull X0.here hx rfl (hb hby d10_47) ?_
          show Steps p.tables e below (s₁.setTop (mkF m 48 #[.val (.ref r), .val (.int p2), .val (.ref ch), .val (.int (own_fl u)), .val (.ref aI), .val (.int (p2 &&& (3 : Int32)))] [.null, (.ref aI), .null, .null, (.ref r)])) _
          refine XS.aload X0.here hx rfl (hb hby d10_48) rfl rfl ?_
          exact kt
        have hAL0 : own_AL Z h0 n0 b aE cc := ⟨Eb, ⟨mc, Fm⟩, Fs, gb, hcase⟩
        obtain ⟨cq42, kq42, q42a, q42b, q42c⟩ := isOf hZ e0 Er
        obtain ⟨_, _, ⟨T43, L43, kc43, nc43⟩, -, X43, ⟨Lc43, hQ43, l43, y43, z43⟩, st43⟩ := X0.virtualBack hx (y := (⟨"beanforge/core/Recipe", "constructed", "(Lbeanforge/core/Preparation$Place;Lbeanforge/core/Overloads$Chosen;Ljava/lang/Object;Lbeanforge/core/Preparation$Maker;Ljava/lang/Object;)V"⟩ : MethodName)) (z := (⟨"beanforge/core/Recipe", "constructed", "(Lbeanforge/core/Preparation$Place;Lbeanforge/core/Overloads$Chosen;Ljava/lang/Object;Lbeanforge/core/Preparation$Maker;Ljava/lang/Object;)V"⟩ : MethodName)) hown (mvT hZ (hw _ (List.mem_of_getElem? (i := 121) rfl))) (mvT hZ (hw _ (List.mem_of_getElem? (i := 122) rfl))) (notFace_of_selects (args := #[]) (mvT hZ (hw _ (List.mem_of_getElem? (i := 124) rfl)))) (mvT hZ (hw _ (List.mem_of_getElem? (i := 124) rfl))) (mvT hZ (hw _ (List.mem_of_getElem? (i := 123) rfl))) (by decide) (backOf (W := 0) (rm18 l Z a0 hw [] r .null (.ref aI) aI b u v1 v2 v3 v4 h0 n0 Z0 rfl rfl hM EI Er Fc Fu G1 G2 G3 G4 gr) hZ (hw _ (List.mem_of_getElem? (i := 125) rfl)) (hw _ (List.mem_of_getElem? (i := 2) rfl)) (by decide) (by decide)) q42a q42c (g := (mkF m 50 #[.val (.ref r), .val (.int p2), .val (.ref ch), .val (.int (own_fl u)), .val (.ref aI), .val (.int (p2 &&& (3 : Int32)))] [(.ref aI), .null, (.ref aI), .null, .null, (.ref r)])) rfl (by rw [hml]; rfl) (Steps.refl _) (argsL := [.null, .null, (.ref aI), .null, (.ref aI)]) (rest := []) (lenOf pd_8 rfl) rfl (by show 2 * 0 + _ ≤ _; exact Nat.le_of_eq rfl) (hb hby d10_50) (fun _ _ => ⟨rfl, e0, (by decide : 0 + 0 ≤ _), (by decide : 0 + 0 ≤ _)⟩)
        dsimp only [Pt.U, Pt.locs, Pt.cells, Pt.slots] at X43 l43 y43 z43 st43 hQ43
        subst l43 y43 z43
        obtain ⟨rfl, N43q, K43, Ea43, Fc43, Fu43, v143, v243, v343, v443, G143, G243, G343, G443⟩ := hQ43
        have N43 := Fr.app N0 N43q
        have pre44 : ∀ t, Steps p.tables e below (T43.setTop (mkF m 53 #[.val (.ref r), .val (.int p2), .val (.ref ch), .val (.int (own_fl u)), .val (.ref aI), .val (.int (p2 &&& (3 : Int32)))] [])) t → Steps p.tables e below (s₁.setTop (entryFrame m #[(.ref r), (.int p2), (.ref ch), (.int (own_fl u)), (.ref aI)] 6)) t := fun t kt => pre41 _ (st43.trans kt)
        have pre45 : ∀ t, Steps p.tables e below (T43.setTop (mkF m 54 #[.val (.ref r), .val (.int p2), .val (.ref ch), .val (.int (own_fl u)), .val (.ref aI), .val (.int (p2 &&& (3 : Int32)))] [(.int (0 : Int32))])) t → Steps p.tables e below (s₁.setTop (entryFrame m #[(.ref r), (.int p2), (.ref ch), (.int (own_fl u)), (.ref aI)] 6)) t := fun t kt => by
          refine pre44 _ ?_
          show Steps p.tables e below (T43.setTop (mkF m 53 #[.val (.ref r), .val (.int p2), .val (.ref ch), .val (.int (own_fl u)), .val (.ref aI), .val (.int (p2 &&& (3 : Int32)))] [])) _
          refine XS.iconst X43.here hx rfl (hb hby d10_53) ?_
          exact kt
        have f46 := (Eb.keep K43)
        have f47 := (Fm.keep K43 (ninS (Ne.symm nrb) nin0))
        have f48 := (Fs.keep K43 (ninS (Ne.symm nrb) nin0))
        have AL' : own_AL Z T43.heap n0 b aE cc := ⟨f46, ⟨mc, f47⟩, f48, gb, hcase.imp (fun q => ⟨q.1, q.2.keep K43 (ninS nrb.symm nin0)⟩) (fun ⟨q1, d, kd, vs, q2, q3, q4, q5, q6⟩ => ⟨q1, d, kd, vs, q2.keep K43 (ninS nrb.symm nin0), q3.keep K43 (ninS (Er.neArv q3 (hw _ (List.mem_of_getElem? (i := 1) rfl))).symm nin0), q4, q5, q6⟩)⟩
        have f49 := (EI.keep K43)
        have o50 : Old Z n0 T43.heap := (O0.keep K43 (allS gr all0))
        obtain ⟨fs, hr, hrun, hended, hW, hsame⟩ := X43.leave (v := (some (.int (nar .boolean (0 : Int32))))) (fun h => by rw [Bd.returns] at h; cases h)
        refine ⟨_, _, pre45 _ ?_, hrun, hended, _, _, rfl, ?_, ⟨_, rfl⟩, hW, hsame.mono (by decide) (by decide)⟩
        · show Steps p.tables e below (T43.setTop (mkF m 54 #[.val (.ref r), .val (.int p2), .val (.ref ch), .val (.int (own_fl u)), .val (.ref aI), .val (.int (p2 &&& (3 : Int32)))] [(.int (0 : Int32))])) _
          exact retN X43 hx (t := .boolean) Bd.returns (by simp) (hb hby d10_54) hr
        · show Q10 Z r p2 ch aI b aE kE cc u h0 n0 _ T43.heap _
          exact ⟨cc, .null, Nat.le_succ cc, rfl, congrArg some (congrArg Value.int (by first | exact own_fln _ | rfl | simp [own_fl, nar])), N43, Ea43, Fc43, Fu43, ⟨_, _, _, _, G143, G243, G343, G443⟩, AL', f49, gr, o50⟩
      · have pre51 : ∀ t, Steps p.tables e below (s₁.setTop (mkF m 58 #[.val (.ref r), .val (.int p2), .val (.ref ch), .val (.int (own_fl u)), .val (.ref aI), .val (.int (p2 &&& (3 : Int32)))] [.null, .null, (.ref r)])) t → Steps p.tables e below (s₁.setTop (entryFrame m #[(.ref r), (.int p2), (.ref ch), (.int (own_fl u)), (.ref aI)] 6)) t := fun t kt => by
          refine pre40 _ ?_
          show Steps p.tables e below (s₁.setTop (mkF m 39 #[.val (.ref r), .val (.int p2), .val (.ref ch), .val (.int (own_fl u)), .val (.ref aI), .val (.int (p2 &&& (3 : Int32)))] [(.int (2 : Int32)), (.int (p2 &&& (3 : Int32)))])) _
          refine XS.icmpYes X0.here hx rfl (pc0 := 39) (pc' := 55) rfl (hb hby d10_39) rfl (feq (c2 : ¬ ((p2 &&& (3 : Int32)) = (2 : Int32)))).2 (by decide) (by decide) ?_
          show Steps p.tables e below (s₁.setTop (mkF m 55 #[.val (.ref r), .val (.int p2), .val (.ref ch), .val (.int (own_fl u)), .val (.ref aI), .val (.int (p2 &&& (3 : Int32)))] [])) _
          refine XS.aloadN X0.here hx rfl (hb hby d10_55) rfl rfl ?_
          show Steps p.tables e below (s₁.setTop (mkF m 56 #[.val (.ref r), .val (.int p2), .val (.ref ch), .val (.int (own_fl u)), .val (.ref aI), .val (.int (p2 &&& (3 : Int32)))] [(.ref r)])) _
          refine XS.aconstNull X0.here hx rfl (hb hby d10_56) ?_
          show Steps p.tables e below (s₁.setTop (mkF m 57 #[.val (.ref r), .val (.int p2), .val (.ref ch), .val (.int (own_fl u)), .val (.ref aI), .val (.int (p2 &&& (3 : Int32)))] [.null, (.ref r)])) _
          refine XS.aconstNull X0.here hx rfl (hb hby d10_57) ?_
          exact kt
        rcases hcase with ⟨hc0, Fe⟩ | ⟨hc1, d, kd, vs, Fe, Vd, Od, gd, nbd⟩
        · have Fs0 : Fld Z h0 b "java/util/ArrayList" "size" "I" (.int (0 : Int32)) := by rw [hc0] at Fs; exact Fs
          obtain ⟨cq52, kq52, q52a, q52b, q52c⟩ := isOf hZ e0 Er
          obtain ⟨_, _, ⟨T53, L53, kc53, nc53⟩, -, X53, ⟨Lc53, hQ53, l53, y53, z53⟩, st53⟩ := X0.virtualBack hx (y := (⟨"beanforge/core/Recipe", "called", "(Lbeanforge/core/Preparation$Place;Lbeanforge/core/Overloads$Chosen;)V"⟩ : MethodName)) (z := (⟨"beanforge/core/Recipe", "called", "(Lbeanforge/core/Preparation$Place;Lbeanforge/core/Overloads$Chosen;)V"⟩ : MethodName)) hown (mvT hZ (hw _ (List.mem_of_getElem? (i := 71) rfl))) (mvT hZ (hw _ (List.mem_of_getElem? (i := 72) rfl))) (notFace_of_selects (args := #[]) (mvT hZ (hw _ (List.mem_of_getElem? (i := 74) rfl)))) (mvT hZ (hw _ (List.mem_of_getElem? (i := 74) rfl))) (mvT hZ (hw _ (List.mem_of_getElem? (i := 73) rfl))) (by decide) (backOf (W := 0) (rm11a l Z a0 hw [] r .null b aE kE mc h0 n0 O0 rfl Fc SE VE Eb Fm Fe Fs0 gb nae) hZ (hw _ (List.mem_of_getElem? (i := 75) rfl)) (hw _ (List.mem_of_getElem? (i := 2) rfl)) (by decide) (by decide)) q52a q52c (g := (mkF m 58 #[.val (.ref r), .val (.int p2), .val (.ref ch), .val (.int (own_fl u)), .val (.ref aI), .val (.int (p2 &&& (3 : Int32)))] [.null, .null, (.ref r)])) rfl (by rw [hml]; rfl) (Steps.refl _) (argsL := [.null, .null]) (rest := []) (lenOf pd_6 rfl) rfl (by show 2 * 0 + _ ≤ _; exact Nat.le_of_eq rfl) (hb hby d10_58) (fun _ _ => ⟨rfl, e0, (by decide : 0 + 2 ≤ _), (by decide : 0 + 12 ≤ _)⟩)
          dsimp only [Pt.U, Pt.locs, Pt.cells, Pt.slots] at X53 l53 y53 z53 st53 hQ53
          subst l53 y53 z53
          obtain ⟨rfl, N53q, K53, AL53⟩ := hQ53
          have N53 := Fr.app N0 N53q
          have pre54 : ∀ t, Steps p.tables e below (T53.setTop (mkF m 61 #[.val (.ref r), .val (.int p2), .val (.ref ch), .val (.int (own_fl u)), .val (.ref aI), .val (.int (p2 &&& (3 : Int32)))] [])) t → Steps p.tables e below (s₁.setTop (entryFrame m #[(.ref r), (.int p2), (.ref ch), (.int (own_fl u)), (.ref aI)] 6)) t := fun t kt => pre51 _ (st53.trans kt)
          have f55 := (Er.keep K53)
          have f56 := (Fc.keep K53 (ninS nrb nin0))
          have f57 := (Fu.keep K53 (ninS nrb nin0))
          have f58 := (G1.keep K53 (ninS nrb nin0))
          have f59 := (G2.keep K53 (ninS nrb nin0))
          have f60 := (G3.keep K53 (ninS nrb nin0))
          have f61 := (G4.keep K53 (ninS nrb nin0))
          have f62 := (EI.keep K53)
          have o63 : Old Z n0 T53.heap := (O0.keep K53 (allS gb all0))
          have pre64 : ∀ t, Steps p.tables e below (T53.setTop (mkF m 62 #[.val (.ref r), .val (.int p2), .val (.ref ch), .val (.int (own_fl u)), .val (.ref aI), .val (.int (p2 &&& (3 : Int32)))] [(.int (own_fl u))])) t → Steps p.tables e below (s₁.setTop (entryFrame m #[(.ref r), (.int p2), (.ref ch), (.int (own_fl u)), (.ref aI)] 6)) t := fun t kt => by
            refine pre54 _ ?_
            show Steps p.tables e below (T53.setTop (mkF m 61 #[.val (.ref r), .val (.int p2), .val (.ref ch), .val (.int (own_fl u)), .val (.ref aI), .val (.int (p2 &&& (3 : Int32)))] [])) _
            refine XS.iloadN X53.here hx rfl (hb hby d10_61) rfl ?_
            exact kt
          obtain ⟨fs, hr, hrun, hended, hW, hsame⟩ := X53.leave (v := (some (.int (nar .boolean (own_fl u))))) (fun h => by rw [Bd.returns] at h; cases h)
          refine ⟨_, _, pre64 _ ?_, hrun, hended, _, _, rfl, ?_, ⟨_, rfl⟩, hW, hsame.mono (by decide) (by decide)⟩
          · show Steps p.tables e below (T53.setTop (mkF m 62 #[.val (.ref r), .val (.int p2), .val (.ref ch), .val (.int (own_fl u)), .val (.ref aI), .val (.int (p2 &&& (3 : Int32)))] [(.int (own_fl u))])) _
            exact retN X53 hx (t := .boolean) Bd.returns (by simp) (hb hby d10_62) hr
          · show Q10 Z r p2 ch aI b aE kE cc u h0 n0 _ T53.heap _
            exact ⟨_, _, (by omega), hu, congrArg some (congrArg Value.int (by first | exact own_fln _ | rfl | simp [own_fl, nar])), N53, f55, f56, f57, ⟨_, _, _, _, f58, f59, f60, f61⟩, AL53, f62, gr, o63⟩
        · have nrd : r ≠ d := Er.neArv Vd (hw _ (List.mem_of_getElem? (i := 1) rfl))
          have nId : aI ≠ d := EI.neArv Vd (hw _ (List.mem_of_getElem? (i := 141) rfl))
          obtain ⟨cq65, kq65, q65a, q65b, q65c⟩ := isOf hZ e0 Er
          obtain ⟨_, _, ⟨T66, L66, kc66, nc66⟩, -, X66, ⟨Lc66, hQ66, l66, y66, z66⟩, st66⟩ := X0.virtualBack hx (y := (⟨"beanforge/core/Recipe", "called", "(Lbeanforge/core/Preparation$Place;Lbeanforge/core/Overloads$Chosen;)V"⟩ : MethodName)) (z := (⟨"beanforge/core/Recipe", "called", "(Lbeanforge/core/Preparation$Place;Lbeanforge/core/Overloads$Chosen;)V"⟩ : MethodName)) hown (mvT hZ (hw _ (List.mem_of_getElem? (i := 71) rfl))) (mvT hZ (hw _ (List.mem_of_getElem? (i := 72) rfl))) (notFace_of_selects (args := #[]) (mvT hZ (hw _ (List.mem_of_getElem? (i := 74) rfl)))) (mvT hZ (hw _ (List.mem_of_getElem? (i := 74) rfl))) (mvT hZ (hw _ (List.mem_of_getElem? (i := 73) rfl))) (by decide) (backOf (W := 0) (rm11b l Z a0 hw [] r .null b aE d kd vs mc cc h0 n0 Z0 rfl Fc hc1 (by omega) Vd Od gd nbd Eb Fm Fe Fs gb) hZ (hw _ (List.mem_of_getElem? (i := 75) rfl)) (hw _ (List.mem_of_getElem? (i := 2) rfl)) (by decide) (by decide)) q65a q65c (g := (mkF m 58 #[.val (.ref r), .val (.int p2), .val (.ref ch), .val (.int (own_fl u)), .val (.ref aI), .val (.int (p2 &&& (3 : Int32)))] [.null, .null, (.ref r)])) rfl (by rw [hml]; rfl) (Steps.refl _) (argsL := [.null, .null]) (rest := []) (lenOf pd_6 rfl) rfl (by show 2 * 0 + _ ≤ _; exact Nat.le_of_eq rfl) (hb hby d10_58) (fun _ _ => ⟨rfl, e0, (by decide : 0 + 2 ≤ _), (by decide : 0 + 12 ≤ _)⟩)
          dsimp only [Pt.U, Pt.locs, Pt.cells, Pt.slots] at X66 l66 y66 z66 st66 hQ66
          subst l66 y66 z66
          obtain ⟨rfl, N66q, K66, AL66⟩ := hQ66
          have N66 := Fr.app N0 N66q
          have pre67 : ∀ t, Steps p.tables e below (T66.setTop (mkF m 61 #[.val (.ref r), .val (.int p2), .val (.ref ch), .val (.int (own_fl u)), .val (.ref aI), .val (.int (p2 &&& (3 : Int32)))] [])) t → Steps p.tables e below (s₁.setTop (entryFrame m #[(.ref r), (.int p2), (.ref ch), (.int (own_fl u)), (.ref aI)] 6)) t := fun t kt => pre51 _ (st66.trans kt)
          have f68 := (Er.keep K66)
          have f69 := (Fc.keep K66 (ninS nrb (ninS nrd nin0)))
          have f70 := (Fu.keep K66 (ninS nrb (ninS nrd nin0)))
          have f71 := (G1.keep K66 (ninS nrb (ninS nrd nin0)))
          have f72 := (G2.keep K66 (ninS nrb (ninS nrd nin0)))
          have f73 := (G3.keep K66 (ninS nrb (ninS nrd nin0)))
          have f74 := (G4.keep K66 (ninS nrb (ninS nrd nin0)))
          have f75 := (EI.keep K66)
          have o76 : Old Z n0 T66.heap := (O0.keep K66 (allS gb (allS gd all0)))
          have pre77 : ∀ t, Steps p.tables e below (T66.setTop (mkF m 62 #[.val (.ref r), .val (.int p2), .val (.ref ch), .val (.int (own_fl u)), .val (.ref aI), .val (.int (p2 &&& (3 : Int32)))] [(.int (own_fl u))])) t → Steps p.tables e below (s₁.setTop (entryFrame m #[(.ref r), (.int p2), (.ref ch), (.int (own_fl u)), (.ref aI)] 6)) t := fun t kt => by
            refine pre67 _ ?_
            show Steps p.tables e below (T66.setTop (mkF m 61 #[.val (.ref r), .val (.int p2), .val (.ref ch), .val (.int (own_fl u)), .val (.ref aI), .val (.int (p2 &&& (3 : Int32)))] [])) _
            refine XS.iloadN X66.here hx rfl (hb hby d10_61) rfl ?_
            exact kt
          obtain ⟨fs, hr, hrun, hended, hW, hsame⟩ := X66.leave (v := (some (.int (nar .boolean (own_fl u))))) (fun h => by rw [Bd.returns] at h; cases h)
          refine ⟨_, _, pre77 _ ?_, hrun, hended, _, _, rfl, ?_, ⟨_, rfl⟩, hW, hsame.mono (by decide) (by decide)⟩
          · show Steps p.tables e below (T66.setTop (mkF m 62 #[.val (.ref r), .val (.int p2), .val (.ref ch), .val (.int (own_fl u)), .val (.ref aI), .val (.int (p2 &&& (3 : Int32)))] [(.int (own_fl u))])) _
            exact retN X66 hx (t := .boolean) Bd.returns (by simp) (hb hby d10_62) hr
          · show Q10 Z r p2 ch aI b aE kE cc u h0 n0 _ T66.heap _
            exact ⟨_, _, (by omega), hu, congrArg some (congrArg Value.int (by first | exact own_fln _ | rfl | simp [own_fl, nar])), N66, f68, f69, f70, ⟨_, _, _, _, f71, f72, f73, f74⟩, AL66, f75, gr, o76⟩
theorem ef_0 (m : MethodId) (p0 : Int32) (p1 : Int32) (p2 : Int32) (p3 : Int32) : entryFrame m #[(.int p0), (.int p1), (.int p2), (.int p3)] maxLocals = (mkF m 0 #[.val (.int p0), .val (.int p1), .val (.int p2), .val (.int p3), .unset, .unset, .unset, .unset, .unset] []) := by first | (simp [entryFrame, mkF, argsToLocals, Value.category, maxLocals]; done) | rfl
theorem pd_9 : parseMethodDescriptor "(Ljava/lang/reflect/Executable;[Ljava/lang/Object;)V" = some ⟨[(.object "java/lang/reflect/Executable"), (.array (.object "java/lang/Object"))], none⟩ := by decide +kernel
theorem pd_10 : parseMethodDescriptor "(I)Ljava/lang/Integer;" = some ⟨[.int], some (.object "java/lang/Integer")⟩ := by decide +kernel
theorem pd_11 : parseMethodDescriptor "()Z" = some ⟨[], some .boolean⟩ := by decide +kernel
theorem pd_12 : parseMethodDescriptor "(Lbeanforge/core/Recipe;ILbeanforge/core/Overloads$Chosen;ZLjava/lang/Object;)Z" = some ⟨[(.object "beanforge/core/Recipe"), .int, (.object "beanforge/core/Overloads$Chosen"), .boolean, (.object "java/lang/Object")], some .boolean⟩ := by decide +kernel
def Q0 (Z : State) (p0 : Int32) (p1 : Int32) (p2 : Int32) (p3 : Int32) (aE : Addr) (kE : ClassId) (aC : Addr) (clC : Cell) (h0 : Heap) (n0 : Nat) (v : Option Value) (h : Heap) (L : List Loc) : Prop := v = some (.int (1 : Int32)) ∧ Fr n0 L
set_option maxRecDepth 65536 in
set_option maxHeartbeats 40000000 in
theorem rm0 (l : Launch) (Z : State) (a0 : Array Value) (hw : ∀ d ∈ tables_1, d.before a0 Z = true) (ws : List Jvm.Cond) (p0 : Int32) (p1 : Int32) (p2 : Int32) (p3 : Int32) (aE : Addr) (kE : ClassId) (aC : Addr) (clC : Cell) (h0 : Heap) (n0 : Nat) (O0 : Old Z n0 h0) (SE : Sta Z Z.heap "java/util/ArrayList" "DEFAULTCAPACITY_EMPTY_ELEMENTDATA" "[Ljava/lang/Object;" (.ref aE)) (VZ : Arv Z Z.heap aE kE (.object "java/lang/Object") (0 : Int32) [] .null) (hM : MirrorMade Z "java/lang/Integer") (SHi : Sta Z Z.heap "java/lang/Integer$IntegerCache" "high" "I" (.int (127 : Int32))) (SCa : Sta Z Z.heap "java/lang/Integer$IntegerCache" "cache" "[Ljava/lang/Integer;" (.ref aC)) (ArC : Arr Z Z.heap aC clC (.object "java/lang/Integer")) (hC : ∀ w : Int32, ¬ w < (-128 : Int32) → ¬ ((127 : Int32) < w) → ∃ box : Addr, ¬ ((w + (128 : Int32)) < 0 ∨ clC.slots.size ≤ (w + (128 : Int32)).toNatClampNeg) ∧ clC.slots[(w + (128 : Int32)).toNatClampNeg]? = some (.ref box) ∧ Exa Z Z.heap box "java/lang/Integer") :
    MetFree l x (head1 (Jvm.Cond.code x code maxLocals ret :: ws) room_1) (fun a U => a = #[(.int p0), (.int p1), (.int p2), (.int p3)] ∧ Z.Warmed39 U.vm ∧ U.heap = h0) (fun _ _ _ _ _ => True) (fun _ U o U' => ∃ v L, o = .returned v ∧ Q0 Z p0 p1 p2 p3 aE kE aC clC h0 n0 v U'.heap L ∧ FrameEnd U o U' L room_1.cells room_1.slots) := by
  refine MetFree.of_bodySF (plainFor_of_name pn_10) hisR ?_
  intro p e s m args below meth c s₁ Bd hml0 hP hK
  obtain ⟨rfl, hZ, hh⟩ := hP
  have hx := Bd.exec
  have hby := Bd.bytes
  have hml : c.maxLocals = 9 := hml0
  have hown : s.vm.findClass "beanforge/core/RecipeConstructsPinLaw" = some m.cls := findClass_of_methodNamed Bd.named
  have hnm := (name_of_methodNamed Bd.named Bd.method).1
  have X0 : Stand p l e room_1 s m #[(.int p0), (.int p1), (.int p2), (.int p3)] below meth c s₁ [] 0 0 := Stand.of_body Bd
  have e0 : s₁.heap = h0 := by rw [← hh, Bd.state]; rfl
  have N0 := Fr.nil n0
  have Z0 : n0 ≤ h0.size := O0.1 ▸ O0.2.1
  have pre0 : ∀ t, Steps p.tables e below (s₁.setTop (mkF m 0 #[.val (.int p0), .val (.int p1), .val (.int p2), .val (.int p3), .unset, .unset, .unset, .unset, .unset] [])) t → Steps p.tables e below (s₁.setTop (entryFrame m #[(.int p0), (.int p1), (.int p2), (.int p3)] maxLocals)) t := fun t k => castTop (ef_0 m p0 p1 p2 p3) k
  obtain ⟨T1, h1, X1, e1, E1, A1, D1, -, st1⟩ := newO X0 hx hZ hown (hw _ (List.mem_of_getElem? (i := 0) rfl)) (hw _ (List.mem_of_getElem? (i := 1) rfl)) (hw _ (List.mem_of_getElem? (i := 2) rfl)) e0 (g := (mkF m 0 #[.val (.int p0), .val (.int p1), .val (.int p2), .val (.int p3), .unset, .unset, .unset, .unset, .unset] [])) rfl (hb hby at_0) (by decide) (by decide)
  obtain ⟨b1, gq1⟩ : ∃ z, z = h0.size := ⟨_, rfl⟩
  rw [← gq1] at A1 D1 st1
  have gg_b1 : n0 ≤ b1 := Nat.le_trans Z0 (Nat.le_of_eq gq1.symm)
  have F1_calls : Fld Z h1 b1 "beanforge/core/Recipe" "calls" "Ljava/util/List;" .null := D1 (Or.inr (hw _ (List.mem_of_getElem? (i := 34) rfl))) (ty := (.object "java/util/List")) (by decide)
  have F1_construction : Fld Z h1 b1 "beanforge/core/Recipe" "construction" "Lbeanforge/core/Overloads$Chosen;" .null := D1 (Or.inl (hw _ (List.mem_of_getElem? (i := 66) rfl))) (ty := (.object "beanforge/core/Overloads$Chosen")) (by decide)
  have F1_constructionPlace : Fld Z h1 b1 "beanforge/core/Recipe" "constructionPlace" "Lbeanforge/core/Preparation$Place;" .null := D1 (Or.inl (hw _ (List.mem_of_getElem? (i := 127) rfl))) (ty := (.object "beanforge/core/Preparation$Place")) (by decide)
  have F1_factory : Fld Z h1 b1 "beanforge/core/Recipe" "factory" "Ljava/lang/Object;" .null := D1 (Or.inl (hw _ (List.mem_of_getElem? (i := 129) rfl))) (ty := (.object "java/lang/Object")) (by decide)
  have F1_maker : Fld Z h1 b1 "beanforge/core/Recipe" "maker" "Lbeanforge/core/Preparation$Maker;" .null := D1 (Or.inl (hw _ (List.mem_of_getElem? (i := 131) rfl))) (ty := (.object "beanforge/core/Preparation$Maker")) (by decide)
  have F1_type : Fld Z h1 b1 "beanforge/core/Recipe" "type" "Ljava/lang/Class;" .null := D1 (Or.inl (hw _ (List.mem_of_getElem? (i := 139) rfl))) (ty := (.object "java/lang/Class")) (by decide)
  have pre2 : ∀ t, Steps p.tables e below (T1.setTop (mkF m 3 #[.val (.int p0), .val (.int p1), .val (.int p2), .val (.int p3), .unset, .unset, .unset, .unset, .unset] [(.ref b1)])) t → Steps p.tables e below (s₁.setTop (entryFrame m #[(.int p0), (.int p1), (.int p2), (.int p3)] maxLocals)) t := fun t kt => pre0 _ (st1 _ kt)
  have o3 : Old Z n0 h1 := (O0.ext E1)
  have pre4 : ∀ t, Steps p.tables e below (T1.setTop (mkF m 4 #[.val (.int p0), .val (.int p1), .val (.int p2), .val (.int p3), .unset, .unset, .unset, .unset, .unset] [(.ref b1), (.ref b1)])) t → Steps p.tables e below (s₁.setTop (entryFrame m #[(.int p0), (.int p1), (.int p2), (.int p3)] maxLocals)) t := fun t kt => by
    refine pre2 _ ?_
    show Steps p.tables e below (T1.setTop (mkF m 3 #[.val (.int p0), .val (.int p1), .val (.int p2), .val (.int p3), .unset, .unset, .unset, .unset, .unset] [(.ref b1)])) _
    refine XS.dup X1.here hx rfl (hb hby at_3) rfl rfl ?_
    exact kt
  have z5 : n0 ≤ h1.size := (Nat.le_trans Z0 E1.1)
  obtain ⟨_, _, ⟨T6, L6, kc6, nc6⟩, -, X6, ⟨Lc6, hQ6, l6, y6, z6⟩, st6⟩ := X1.specialBack hx (y := (⟨"beanforge/core/Recipe", "<init>", "()V"⟩ : MethodName)) rfl hown (mvT hZ (hw _ (List.mem_of_getElem? (i := 3) rfl))) (mvT hZ (hw _ (List.mem_of_getElem? (i := 4) rfl))) (mvT hZ (hw _ (List.mem_of_getElem? (i := 5) rfl))) (by decide) (backOf (W := 1) (rm1 l Z a0 hw [] b1 aE h1 n0 o3 SE A1 F1_calls F1_construction F1_constructionPlace F1_factory F1_maker F1_type gg_b1) hZ (hw _ (List.mem_of_getElem? (i := 5) rfl)) (hw _ (List.mem_of_getElem? (i := 2) rfl)) (by decide) (by decide)) (g := (mkF m 4 #[.val (.int p0), .val (.int p1), .val (.int p2), .val (.int p3), .unset, .unset, .unset, .unset, .unset] [(.ref b1), (.ref b1)])) rfl (by rw [hml]; rfl) (Steps.refl _) (a := b1) (argsL := []) (rest := [(.ref b1)]) (lenOf pd_0 rfl) rfl (by show 2 * 0 + _ ≤ _; exact Nat.le_of_eq rfl) (hb hby at_4) (fun _ _ => ⟨rfl, e1, (by decide : 1 + 1 ≤ _), (by decide : 6 + 3 ≤ _)⟩)
  dsimp only [Pt.U, Pt.locs, Pt.cells, Pt.slots] at X6 l6 y6 z6 st6 hQ6
  subst l6 y6 z6
  obtain ⟨rfl, N6q, K6, F0_6, F1_6, F2_6, F3_6, F4_6, F5_6, AL6⟩ := hQ6
  have N6 := Fr.app N0 N6q
  obtain ⟨b6, gq6⟩ : ∃ z, z = h1.size := ⟨_, rfl⟩
  rw [← gq6] at F0_6 AL6
  have gg_b6 : n0 ≤ b6 := Nat.le_trans z5 (Nat.le_of_eq gq6.symm)
  have pre7 : ∀ t, Steps p.tables e below (T6.setTop (mkF m 7 #[.val (.int p0), .val (.int p1), .val (.int p2), .val (.int p3), .unset, .unset, .unset, .unset, .unset] [(.ref b1)])) t → Steps p.tables e below (s₁.setTop (entryFrame m #[(.int p0), (.int p1), (.int p2), (.int p3)] maxLocals)) t := fun t kt => pre4 _ (st6.trans kt)
  obtain ⟨Eb, ⟨mc, Fm⟩, Fs, gb, hcase⟩ := AL6
  obtain ⟨-, Fe⟩ : 0 = 0 ∧ Fld Z T6.heap b6 "java/util/ArrayList" "elementData" "[Ljava/lang/Object;" (.ref aE) := hcase.resolve_right (fun q => absurd q.1 (by decide))
  have pre8 : ∀ t, Steps p.tables e below (T6.setTop (mkF m 9 #[.val (.int p0), .val (.int p1), .val (.int p2), .val (.int p3), .val (.ref b1), .unset, .unset, .unset, .unset] [])) t → Steps p.tables e below (s₁.setTop (entryFrame m #[(.int p0), (.int p1), (.int p2), (.int p3)] maxLocals)) t := fun t kt => by
    refine pre7 _ ?_
    show Steps p.tables e below (T6.setTop (mkF m 7 #[.val (.int p0), .val (.int p1), .val (.int p2), .val (.int p3), .unset, .unset, .unset, .unset, .unset] [(.ref b1)])) _
    refine XS.astore X6.here hx rfl (hb hby at_7) rfl rfl (l' := #[.val (.int p0), .val (.int p1), .val (.int p2), .val (.int p3), .val (.ref b1), .unset, .unset, .unset, .unset]) rfl ?_
    exact kt
  obtain ⟨T9, h9, X9, e9, E9, A9, D9, -, st9⟩ := newO X6 hx hZ hown (hw _ (List.mem_of_getElem? (i := 35) rfl)) (hw _ (List.mem_of_getElem? (i := 36) rfl)) (hw _ (List.mem_of_getElem? (i := 37) rfl)) rfl (g := (mkF m 9 #[.val (.int p0), .val (.int p1), .val (.int p2), .val (.int p3), .val (.ref b1), .unset, .unset, .unset, .unset] [])) rfl (hb hby at_9) (by decide) (by decide)
  obtain ⟨b9, gq9⟩ : ∃ z, z = T6.heap.size := ⟨_, rfl⟩
  rw [← gq9] at A9 D9 st9
  have z10 : n0 ≤ T6.heap.size := (Nat.le_trans z5 K6.1)
  have gg_b9 : n0 ≤ b9 := Nat.le_trans z10 (Nat.le_of_eq gq9.symm)
  have F9_executable : Fld Z h9 b9 "beanforge/core/Overloads$Chosen" "executable" "Ljava/lang/reflect/Executable;" .null := D9 (Or.inr (hw _ (List.mem_of_getElem? (i := 50) rfl))) (ty := (.object "java/lang/reflect/Executable")) (by decide)
  have F9_arguments : Fld Z h9 b9 "beanforge/core/Overloads$Chosen" "arguments" "[Ljava/lang/Object;" .null := D9 (Or.inr (hw _ (List.mem_of_getElem? (i := 52) rfl))) (ty := (.array (.object "java/lang/Object"))) (by decide)
  have pre11 : ∀ t, Steps p.tables e below (T9.setTop (mkF m 12 #[.val (.int p0), .val (.int p1), .val (.int p2), .val (.int p3), .val (.ref b1), .unset, .unset, .unset, .unset] [(.ref b9)])) t → Steps p.tables e below (s₁.setTop (entryFrame m #[(.int p0), (.int p1), (.int p2), (.int p3)] maxLocals)) t := fun t kt => pre8 _ (st9 _ kt)
  have pre12 : ∀ t, Steps p.tables e below (T9.setTop (mkF m 15 #[.val (.int p0), .val (.int p1), .val (.int p2), .val (.int p3), .val (.ref b1), .unset, .unset, .unset, .unset] [(.int (0 : Int32)), .null, (.ref b9), (.ref b9)])) t → Steps p.tables e below (s₁.setTop (entryFrame m #[(.int p0), (.int p1), (.int p2), (.int p3)] maxLocals)) t := fun t kt => by
    refine pre11 _ ?_
    show Steps p.tables e below (T9.setTop (mkF m 12 #[.val (.int p0), .val (.int p1), .val (.int p2), .val (.int p3), .val (.ref b1), .unset, .unset, .unset, .unset] [(.ref b9)])) _
    refine XS.dup X9.here hx rfl (hb hby at_12) rfl rfl ?_
    show Steps p.tables e below (T9.setTop (mkF m 13 #[.val (.int p0), .val (.int p1), .val (.int p2), .val (.int p3), .val (.ref b1), .unset, .unset, .unset, .unset] [(.ref b9), (.ref b9)])) _
    refine XS.aconstNull X9.here hx rfl (hb hby at_13) ?_
    show Steps p.tables e below (T9.setTop (mkF m 14 #[.val (.int p0), .val (.int p1), .val (.int p2), .val (.int p3), .val (.ref b1), .unset, .unset, .unset, .unset] [.null, (.ref b9), (.ref b9)])) _
    refine XS.iconst X9.here hx rfl (hb hby at_14) ?_
    exact kt
  obtain ⟨T13, h13, k13, X13, e13, E13, A13, O13, st13⟩ := newR X9 hx hZ hown (hw _ (List.mem_of_getElem? (i := 38) rfl)) (hw _ (List.mem_of_getElem? (i := 39) rfl)) e9 (g := (mkF m 15 #[.val (.int p0), .val (.int p1), .val (.int p2), .val (.int p3), .val (.ref b1), .unset, .unset, .unset, .unset] [(.int (0 : Int32)), .null, (.ref b9), (.ref b9)])) rfl (hb hby at_15) rfl (by decide) (cap := 0) (by decide) (by decide) (by decide) (by decide)
  obtain ⟨b13, gq13⟩ : ∃ z, z = h9.size := ⟨_, rfl⟩
  rw [← gq13] at A13 st13
  have z14 : n0 ≤ h9.size := (Nat.le_trans z10 E9.1)
  have gg_b13 : n0 ≤ b13 := Nat.le_trans z14 (Nat.le_of_eq gq13.symm)
  have V13 : Arv Z h13 b13 k13 (.object "java/lang/Object") (0 : Int32) [] .null := Arv.new A13 (by decide)
  have pre15 : ∀ t, Steps p.tables e below (T13.setTop (mkF m 18 #[.val (.int p0), .val (.int p1), .val (.int p2), .val (.int p3), .val (.ref b1), .unset, .unset, .unset, .unset] [(.ref b13), .null, (.ref b9), (.ref b9)])) t → Steps p.tables e below (s₁.setTop (entryFrame m #[(.int p0), (.int p1), (.int p2), (.int p3)] maxLocals)) t := fun t kt => pre12 _ (st13 _ kt)
  have z16 : n0 ≤ h13.size := (Nat.le_trans z14 E13.1)
  have f17 := (A9.ext E13)
  have f18 := (F9_executable.ext E13)
  have f19 := (F9_arguments.ext E13)
  obtain ⟨_, _, ⟨T20, L20, kc20, nc20⟩, -, X20, ⟨Lc20, hQ20, l20, y20, z20⟩, st20⟩ := X13.specialBack hx (y := (⟨"beanforge/core/Overloads$Chosen", "<init>", "(Ljava/lang/reflect/Executable;[Ljava/lang/Object;)V"⟩ : MethodName)) rfl hown (mvT hZ (hw _ (List.mem_of_getElem? (i := 40) rfl))) (mvT hZ (hw _ (List.mem_of_getElem? (i := 41) rfl))) (mvT hZ (hw _ (List.mem_of_getElem? (i := 42) rfl))) (by decide) (backOf (W := 1) (rm6 l Z a0 hw [] b9 b13 h13 n0 z16 f17 f18 f19 gg_b9) hZ (hw _ (List.mem_of_getElem? (i := 42) rfl)) (hw _ (List.mem_of_getElem? (i := 37) rfl)) (by decide) (by decide)) (g := (mkF m 18 #[.val (.int p0), .val (.int p1), .val (.int p2), .val (.int p3), .val (.ref b1), .unset, .unset, .unset, .unset] [(.ref b13), .null, (.ref b9), (.ref b9)])) rfl (by rw [hml]; rfl) (Steps.refl _) (a := b9) (argsL := [.null, (.ref b13)]) (rest := [(.ref b9)]) (lenOf pd_9 rfl) rfl (by show 2 * 0 + _ ≤ _; exact Nat.le_of_eq rfl) (hb hby at_18) (fun _ _ => ⟨rfl, e13, (by decide : 4 + 0 ≤ _), (by decide : 11 + 0 ≤ _)⟩)
  dsimp only [Pt.U, Pt.locs, Pt.cells, Pt.slots] at X20 l20 y20 z20 st20 hQ20
  subst l20 y20 z20
  obtain ⟨rfl, N20q, K20⟩ := hQ20
  have N20 := Fr.app N6 N20q
  have pre21 : ∀ t, Steps p.tables e below (T20.setTop (mkF m 21 #[.val (.int p0), .val (.int p1), .val (.int p2), .val (.int p3), .val (.ref b1), .unset, .unset, .unset, .unset] [(.ref b9)])) t → Steps p.tables e below (s₁.setTop (entryFrame m #[(.int p0), (.int p1), (.int p2), (.int p3)] maxLocals)) t := fun t kt => pre15 _ (st20.trans kt)
  have o22 : Old Z n0 T20.heap := ((((o3.keep K6 (allS gg_b1 all0)).ext E9).ext E13).keep K20 (allS gg_b9 all0))
  have pre23 : ∀ t, Steps p.tables e below (T20.setTop (mkF m 24 #[.val (.int p0), .val (.int p1), .val (.int p2), .val (.int p3), .val (.ref b1), .val (.ref b9), .unset, .unset, .unset] [(.int p3)])) t → Steps p.tables e below (s₁.setTop (entryFrame m #[(.int p0), (.int p1), (.int p2), (.int p3)] maxLocals)) t := fun t kt => by
    refine pre21 _ ?_
    show Steps p.tables e below (T20.setTop (mkF m 21 #[.val (.int p0), .val (.int p1), .val (.int p2), .val (.int p3), .val (.ref b1), .unset, .unset, .unset, .unset] [(.ref b9)])) _
    refine XS.astore X20.here hx rfl (hb hby at_21) rfl rfl (l' := #[.val (.int p0), .val (.int p1), .val (.int p2), .val (.int p3), .val (.ref b1), .val (.ref b9), .unset, .unset, .unset]) rfl ?_
    show Steps p.tables e below (T20.setTop (mkF m 23 #[.val (.int p0), .val (.int p1), .val (.int p2), .val (.int p3), .val (.ref b1), .val (.ref b9), .unset, .unset, .unset] [])) _
    refine XS.iloadN X20.here hx rfl (hb hby at_23) rfl ?_
    exact kt
  obtain ⟨_, _, ⟨T24, L24, kc24, nc24⟩, -, X24, ⟨Lc24, hQ24, l24, y24, z24⟩, st24⟩ := Jvm.LawKit.callS X20 hx (y := (⟨"java/lang/Integer", "valueOf", "(I)Ljava/lang/Integer;"⟩ : MethodName)) hown (mvT hZ (hw _ (List.mem_of_getElem? (i := 53) rfl))) (mvT hZ (hw _ (List.mem_of_getElem? (i := 54) rfl))) (mvT hZ (hw _ (List.mem_of_getElem? (i := 55) rfl))) (mvT hZ (hw _ (List.mem_of_getElem? (i := 56) rfl))) (by decide) (backOf (W := 0) (rm8 l Z a0 hw [] p3 aC clC T20.heap n0 o22 SHi SCa ArC hC) hZ (hw _ (List.mem_of_getElem? (i := 56) rfl)) (hw _ (List.mem_of_getElem? (i := 55) rfl)) (by decide) (by decide)) (g := (mkF m 24 #[.val (.int p0), .val (.int p1), .val (.int p2), .val (.int p3), .val (.ref b1), .val (.ref b9), .unset, .unset, .unset] [(.int p3)])) rfl (by rw [hml]; rfl) (argsL := [(.int p3)]) (rest := []) (lenOf pd_10 rfl) rfl (by show 2 * 0 + _ ≤ _; exact Nat.le_of_eq rfl) (hb hby at_24) (fun _ _ => ⟨rfl, rfl, (by decide : 4 + 1 ≤ _), (by decide : 11 + 1 ≤ _)⟩)
  dsimp only [Pt.U, Pt.locs, Pt.cells, Pt.slots] at X24 l24 y24 z24 st24 hQ24
  subst l24 y24 z24
  obtain ⟨aI24, rfl, N24q, K24, EI24⟩ := hQ24
  have N24 := Fr.app N20 N24q
  have pre25 : ∀ t, Steps p.tables e below (T24.setTop (mkF m 27 #[.val (.int p0), .val (.int p1), .val (.int p2), .val (.int p3), .val (.ref b1), .val (.ref b9), .unset, .unset, .unset] [(.ref aI24)])) t → Steps p.tables e below (s₁.setTop (entryFrame m #[(.int p0), (.int p1), (.int p2), (.int p3)] maxLocals)) t := fun t kt => pre23 _ (st24 _ kt)
  have z26 : n0 ≤ T24.heap.size := (Nat.le_trans (Nat.le_trans z16 K20.1) K24.1)
  have f27 := ((((F1_6.ext E9).ext E13).keep K20 (ninS (Nat.ne_of_lt (Nat.lt_of_lt_of_le (A1.keep K6).lt (Nat.le_of_eq gq9.symm))) nin0)).keep K24 nin0)
  have pre28 : ∀ t, Steps p.tables e below (T24.setTop (mkF m 31 #[.val (.int p0), .val (.int p1), .val (.int p2), .val (.int p3), .val (.ref b1), .val (.ref b9), .val (.ref aI24), .unset, .unset] [(.ref b1)])) t → Steps p.tables e below (s₁.setTop (entryFrame m #[(.int p0), (.int p1), (.int p2), (.int p3)] maxLocals)) t := fun t kt => by
    refine pre25 _ ?_
    show Steps p.tables e below (T24.setTop (mkF m 27 #[.val (.int p0), .val (.int p1), .val (.int p2), .val (.int p3), .val (.ref b1), .val (.ref b9), .unset, .unset, .unset] [(.ref aI24)])) _
    refine XS.astore X24.here hx rfl (hb hby at_27) rfl rfl (l' := #[.val (.int p0), .val (.int p1), .val (.int p2), .val (.int p3), .val (.ref b1), .val (.ref b9), .val (.ref aI24), .unset, .unset]) rfl ?_
    show Steps p.tables e below (T24.setTop (mkF m 29 #[.val (.int p0), .val (.int p1), .val (.int p2), .val (.int p3), .val (.ref b1), .val (.ref b9), .val (.ref aI24), .unset, .unset] [])) _
    refine XS.aload X24.here hx rfl (hb hby at_29) rfl rfl ?_
    exact kt
  have f30 := (((((A1.keep K6).ext E9).ext E13).keep K20).keep K24)
  obtain ⟨cq29, kq29, q29a, q29b, q29c⟩ := isOf hZ rfl f30
  obtain ⟨_, _, ⟨T31, L31, kc31, nc31⟩, -, X31, ⟨Lc31, hQ31, l31, y31, z31⟩, st31⟩ := X24.virtualBack hx (y := (⟨"beanforge/core/Recipe", "constructs", "()Z"⟩ : MethodName)) (z := (⟨"beanforge/core/Recipe", "constructs", "()Z"⟩ : MethodName)) hown (mvT hZ (hw _ (List.mem_of_getElem? (i := 60) rfl))) (mvT hZ (hw _ (List.mem_of_getElem? (i := 61) rfl))) (notFace_of_selects (args := #[]) (mvT hZ (hw _ (List.mem_of_getElem? (i := 63) rfl)))) (mvT hZ (hw _ (List.mem_of_getElem? (i := 63) rfl))) (mvT hZ (hw _ (List.mem_of_getElem? (i := 62) rfl))) (by decide) (backOf (W := 0) (rm9 l Z a0 hw [] b1 .null T24.heap n0 z26 rfl f27) hZ (hw _ (List.mem_of_getElem? (i := 64) rfl)) (hw _ (List.mem_of_getElem? (i := 2) rfl)) (by decide) (by decide)) q29a q29c (g := (mkF m 31 #[.val (.int p0), .val (.int p1), .val (.int p2), .val (.int p3), .val (.ref b1), .val (.ref b9), .val (.ref aI24), .unset, .unset] [(.ref b1)])) rfl (by rw [hml]; rfl) (Steps.refl _) (argsL := []) (rest := []) (lenOf pd_11 rfl) rfl (by show 2 * 0 + _ ≤ _; exact Nat.le_of_eq rfl) (hb hby at_31) (fun _ _ => ⟨rfl, rfl, (by decide : 5 + 0 ≤ _), (by decide : 12 + 0 ≤ _)⟩)
  dsimp only [Pt.U, Pt.locs, Pt.cells, Pt.slots] at X31 l31 y31 z31 st31 hQ31
  subst l31 y31 z31
  obtain ⟨rfl, N31q, he31⟩ := hQ31
  have N31 := Fr.app N24 N31q
  have pre32 : ∀ t, Steps p.tables e below (T31.setTop (mkF m 34 #[.val (.int p0), .val (.int p1), .val (.int p2), .val (.int p3), .val (.ref b1), .val (.ref b9), .val (.ref aI24), .unset, .unset] [(.int (own_fl .null))])) t → Steps p.tables e below (s₁.setTop (entryFrame m #[(.int p0), (.int p1), (.int p2), (.int p3)] maxLocals)) t := fun t kt => pre28 _ (st31.trans kt)
  have pre33 : ∀ t, Steps p.tables e below (T31.setTop (mkF m 52 #[.val (.int p0), .val (.int p1), .val (.int p2), .val (.int p3), .val (.ref b1), .val (.ref b9), .val (.ref aI24), .val (.int (1 : Int32)), .unset] [(.ref aI24), (.int (0 : Int32)), (.ref b9), (.int p0), (.ref b1)])) t → Steps p.tables e below (s₁.setTop (entryFrame m #[(.int p0), (.int p1), (.int p2), (.int p3)] maxLocals)) t := fun t kt => by
    refine pre32 _ ?_
    show Steps p.tables e below (T31.setTop (mkF m 34 #[.val (.int p0), .val (.int p1), .val (.int p2), .val (.int p3), .val (.ref b1), .val (.ref b9), .val (.ref aI24), .unset, .unset] [(.int (own_fl .null))])) _
    refine XS.ifNo X31.here hx rfl (hb hby at_34) rfl ((if0 _ _).trans (teq (rfl : (own_fl .null) = (0 : Int32))).2) ?_
    show Steps p.tables e below (T31.setTop (mkF m 37 #[.val (.int p0), .val (.int p1), .val (.int p2), .val (.int p3), .val (.ref b1), .val (.ref b9), .val (.ref aI24), .unset, .unset] [])) _
    refine XS.iconst X31.here hx rfl (hb hby at_37) ?_
    show Steps p.tables e below (T31.setTop (mkF m 38 #[.val (.int p0), .val (.int p1), .val (.int p2), .val (.int p3), .val (.ref b1), .val (.ref b9), .val (.ref aI24), .unset, .unset] [(.int (1 : Int32))])) _
    refine XS.goto X31.here hx rfl (pc0 := 38) (pc' := 42) rfl (hb hby at_38) (by decide) (by decide) ?_
    show Steps p.tables e below (T31.setTop (mkF m 42 #[.val (.int p0), .val (.int p1), .val (.int p2), .val (.int p3), .val (.ref b1), .val (.ref b9), .val (.ref aI24), .unset, .unset] [(.int (1 : Int32))])) _
    refine XS.istore X31.here hx rfl (hb hby at_42) rfl (l' := #[.val (.int p0), .val (.int p1), .val (.int p2), .val (.int p3), .val (.ref b1), .val (.ref b9), .val (.ref aI24), .val (.int (1 : Int32)), .unset]) rfl ?_
    show Steps p.tables e below (T31.setTop (mkF m 44 #[.val (.int p0), .val (.int p1), .val (.int p2), .val (.int p3), .val (.ref b1), .val (.ref b9), .val (.ref aI24), .val (.int (1 : Int32)), .unset] [])) _
    refine XS.aload X31.here hx rfl (hb hby at_44) rfl rfl ?_
    show Steps p.tables e below (T31.setTop (mkF m 46 #[.val (.int p0), .val (.int p1), .val (.int p2), .val (.int p3), .val (.ref b1), .val (.ref b9), .val (.ref aI24), .val (.int (1 : Int32)), .unset] [(.ref b1)])) _
    refine XS.iloadN X31.here hx rfl (hb hby at_46) rfl ?_
    show Steps p.tables e below (T31.setTop (mkF m 47 #[.val (.int p0), .val (.int p1), .val (.int p2), .val (.int p3), .val (.ref b1), .val (.ref b9), .val (.ref aI24), .val (.int (1 : Int32)), .unset] [(.int p0), (.ref b1)])) _
    refine XS.aload X31.here hx rfl (hb hby at_47) rfl rfl ?_
    show Steps p.tables e below (T31.setTop (mkF m 49 #[.val (.int p0), .val (.int p1), .val (.int p2), .val (.int p3), .val (.ref b1), .val (.ref b9), .val (.ref aI24), .val (.int (1 : Int32)), .unset] [(.ref b9), (.int p0), (.ref b1)])) _
    refine XS.iconst X31.here hx rfl (hb hby at_49) ?_
    show Steps p.tables e below (T31.setTop (mkF m 50 #[.val (.int p0), .val (.int p1), .val (.int p2), .val (.int p3), .val (.ref b1), .val (.ref b9), .val (.ref aI24), .val (.int (1 : Int32)), .unset] [(.int (0 : Int32)), (.ref b9), (.int p0), (.ref b1)])) _
    refine XS.aload X31.here hx rfl (hb hby at_50) rfl rfl ?_
    exact kt
  have f34 := ((((F0_6.ext E9).ext E13).keep K20 (ninS (Nat.ne_of_lt (Nat.lt_of_lt_of_le (A1.keep K6).lt (Nat.le_of_eq gq9.symm))) nin0)).keep K24 nin0)
  have f35 := ((((F2_6.ext E9).ext E13).keep K20 (ninS (Nat.ne_of_lt (Nat.lt_of_lt_of_le (A1.keep K6).lt (Nat.le_of_eq gq9.symm))) nin0)).keep K24 nin0)
  have f36 := ((((F3_6.ext E9).ext E13).keep K20 (ninS (Nat.ne_of_lt (Nat.lt_of_lt_of_le (A1.keep K6).lt (Nat.le_of_eq gq9.symm))) nin0)).keep K24 nin0)
  have f37 := ((((F4_6.ext E9).ext E13).keep K20 (ninS (Nat.ne_of_lt (Nat.lt_of_lt_of_le (A1.keep K6).lt (Nat.le_of_eq gq9.symm))) nin0)).keep K24 nin0)
  have f38 := ((((F5_6.ext E9).ext E13).keep K20 (ninS (Nat.ne_of_lt (Nat.lt_of_lt_of_le (A1.keep K6).lt (Nat.le_of_eq gq9.symm))) nin0)).keep K24 nin0)
  have f39 := ((((Eb.ext E9).ext E13).keep K20).keep K24)
  have f40 := ((((Fm.ext E9).ext E13).keep K20 (ninS (Nat.ne_of_lt (Nat.lt_of_lt_of_le Eb.lt (Nat.le_of_eq gq9.symm))) nin0)).keep K24 nin0)
  have f41 := ((((Fs.ext E9).ext E13).keep K20 (ninS (Nat.ne_of_lt (Nat.lt_of_lt_of_le Eb.lt (Nat.le_of_eq gq9.symm))) nin0)).keep K24 nin0)
  have f42 := ((((Fe.ext E9).ext E13).keep K20 (ninS (Nat.ne_of_lt (Nat.lt_of_lt_of_le Eb.lt (Nat.le_of_eq gq9.symm))) nin0)).keep K24 nin0)
  have o43 : Old Z n0 T24.heap := (o22.keep K24 all0)
  have ST0 : own_ST Z T24.heap n0 b1 b6 aE aI24 0 .null := ⟨f30, f34, f27, ⟨_, _, _, _, f35, f36, f37, f38⟩, ⟨f39, ⟨_, f40⟩, f41, gg_b6, Or.inl ⟨rfl, f42⟩⟩, EI24, gg_b1, o43⟩
  obtain ⟨_, _, ⟨T44, L44, kc44, nc44⟩, -, X44, ⟨Lc44, hQ44, l44, y44, z44⟩, st44⟩ := Jvm.LawKit.callS X31 hx (y := (⟨"beanforge/core/RecipeConstructsPinLaw", "step", "(Lbeanforge/core/Recipe;ILbeanforge/core/Overloads$Chosen;ZLjava/lang/Object;)Z"⟩ : MethodName)) hown (mvT hZ (hw _ (List.mem_of_getElem? (i := 67) rfl))) (mvT hZ (hw _ (List.mem_of_getElem? (i := 68) rfl))) (mvT hZ (hw _ (List.mem_of_getElem? (i := 69) rfl))) (mvT hZ (hw _ (List.mem_of_getElem? (i := 70) rfl))) (by decide) (backOf (W := 0) (rm10 l Z a0 hw [] b1 p0 b9 aI24 b6 aE kE 0 .null T24.heap n0 o43 SE VZ hM (by decide) rfl ST0) hZ (hw _ (List.mem_of_getElem? (i := 70) rfl)) (hw _ (List.mem_of_getElem? (i := 69) rfl)) (by decide) (by decide)) (g := (mkF m 52 #[.val (.int p0), .val (.int p1), .val (.int p2), .val (.int p3), .val (.ref b1), .val (.ref b9), .val (.ref aI24), .val (.int (1 : Int32)), .unset] [(.ref aI24), (.int (0 : Int32)), (.ref b9), (.int p0), (.ref b1)])) rfl (by rw [hml]; rfl) (argsL := [(.ref b1), (.int p0), (.ref b9), (.int (0 : Int32)), (.ref aI24)]) (rest := []) (lenOf pd_12 rfl) rfl (by show 2 * 0 + _ ≤ _; exact Nat.le_of_eq rfl) (hb hby at_52) (fun _ _ => ⟨rfl, he31, (by decide : 5 + 2 ≤ _), (by decide : 12 + 12 ≤ _)⟩)
  dsimp only [Pt.U, Pt.locs, Pt.cells, Pt.slots] at X44 l44 y44 z44 st44 hQ44
  subst l44 y44 z44
  obtain ⟨c44, u44, hc44, hu44, rfl, N44q, ST44⟩ := hQ44
  have N44 := Fr.app N31 N44q
  have pre45 : ∀ t, Steps p.tables e below (T44.setTop (mkF m 55 #[.val (.int p0), .val (.int p1), .val (.int p2), .val (.int p3), .val (.ref b1), .val (.ref b9), .val (.ref aI24), .val (.int (1 : Int32)), .unset] [(.int (own_fl u44))])) t → Steps p.tables e below (s₁.setTop (entryFrame m #[(.int p0), (.int p1), (.int p2), (.int p3)] maxLocals)) t := fun t kt => pre33 _ (st44 _ kt)
  have O1 := ST44.2.2.2.2.2.2.2
  have Zs1 : n0 ≤ T44.heap.size := O1.1 ▸ O1.2.1
  have pre46 : ∀ t, Steps p.tables e below (T44.setTop (mkF m 61 #[.val (.int p0), .val (.int p1), .val (.int p2), .val (.int p3), .val (.ref b1), .val (.ref b9), .val (.ref aI24), .val (.int (1 : Int32)), .val (.int (own_fl u44))] [(.ref b1), (.int (1 : Int32))])) t → Steps p.tables e below (s₁.setTop (entryFrame m #[(.int p0), (.int p1), (.int p2), (.int p3)] maxLocals)) t := fun t kt => by
    refine pre45 _ ?_
    show Steps p.tables e below (T44.setTop (mkF m 55 #[.val (.int p0), .val (.int p1), .val (.int p2), .val (.int p3), .val (.ref b1), .val (.ref b9), .val (.ref aI24), .val (.int (1 : Int32)), .unset] [(.int (own_fl u44))])) _
    refine XS.istore X44.here hx rfl (hb hby at_55) rfl (l' := #[.val (.int p0), .val (.int p1), .val (.int p2), .val (.int p3), .val (.ref b1), .val (.ref b9), .val (.ref aI24), .val (.int (1 : Int32)), .val (.int (own_fl u44))]) rfl ?_
    show Steps p.tables e below (T44.setTop (mkF m 57 #[.val (.int p0), .val (.int p1), .val (.int p2), .val (.int p3), .val (.ref b1), .val (.ref b9), .val (.ref aI24), .val (.int (1 : Int32)), .val (.int (own_fl u44))] [])) _
    refine XS.iload X44.here hx rfl (hb hby at_57) rfl ?_
    show Steps p.tables e below (T44.setTop (mkF m 59 #[.val (.int p0), .val (.int p1), .val (.int p2), .val (.int p3), .val (.ref b1), .val (.ref b9), .val (.ref aI24), .val (.int (1 : Int32)), .val (.int (own_fl u44))] [(.int (1 : Int32))])) _
    refine XS.aload X44.here hx rfl (hb hby at_59) rfl rfl ?_
    exact kt
  obtain ⟨cq47, kq47, q47a, q47b, q47c⟩ := isOf hZ rfl ST44.1
  obtain ⟨_, _, ⟨T48, L48, kc48, nc48⟩, -, X48, ⟨Lc48, hQ48, l48, y48, z48⟩, st48⟩ := X44.virtualBack hx (y := (⟨"beanforge/core/Recipe", "constructs", "()Z"⟩ : MethodName)) (z := (⟨"beanforge/core/Recipe", "constructs", "()Z"⟩ : MethodName)) hown (mvT hZ (hw _ (List.mem_of_getElem? (i := 60) rfl))) (mvT hZ (hw _ (List.mem_of_getElem? (i := 61) rfl))) (notFace_of_selects (args := #[]) (mvT hZ (hw _ (List.mem_of_getElem? (i := 63) rfl)))) (mvT hZ (hw _ (List.mem_of_getElem? (i := 63) rfl))) (mvT hZ (hw _ (List.mem_of_getElem? (i := 62) rfl))) (by decide) (backOf (W := 1) (rm9 l Z a0 hw [] b1 u44 T44.heap n0 Zs1 hu44 ST44.2.2.1) hZ (hw _ (List.mem_of_getElem? (i := 64) rfl)) (hw _ (List.mem_of_getElem? (i := 2) rfl)) (by decide) (by decide)) q47a q47c (g := (mkF m 61 #[.val (.int p0), .val (.int p1), .val (.int p2), .val (.int p3), .val (.ref b1), .val (.ref b9), .val (.ref aI24), .val (.int (1 : Int32)), .val (.int (own_fl u44))] [(.ref b1), (.int (1 : Int32))])) rfl (by rw [hml]; rfl) (Steps.refl _) (argsL := []) (rest := [(.int (1 : Int32))]) (lenOf pd_11 rfl) rfl (by show 2 * 0 + _ ≤ _; exact Nat.le_of_eq rfl) (hb hby at_61) (fun _ _ => ⟨rfl, rfl, (by decide : 7 + 0 ≤ _), (by decide : 24 + 0 ≤ _)⟩)
  dsimp only [Pt.U, Pt.locs, Pt.cells, Pt.slots] at X48 l48 y48 z48 st48 hQ48
  subst l48 y48 z48
  obtain ⟨rfl, N48q, he48⟩ := hQ48
  have N48 := Fr.app N44 N48q
  have pre49 : ∀ t, Steps p.tables e below (T48.setTop (mkF m 64 #[.val (.int p0), .val (.int p1), .val (.int p2), .val (.int p3), .val (.ref b1), .val (.ref b9), .val (.ref aI24), .val (.int (1 : Int32)), .val (.int (own_fl u44))] [(.int (own_fl u44)), (.int (1 : Int32))])) t → Steps p.tables e below (s₁.setTop (entryFrame m #[(.int p0), (.int p1), (.int p2), (.int p3)] maxLocals)) t := fun t kt => pre46 _ (st48.trans kt)
  have pre50 : ∀ t, Steps p.tables e below (T48.setTop (mkF m 86 #[.val (.int p0), .val (.int p1), .val (.int p2), .val (.int p3), .val (.ref b1), .val (.ref b9), .val (.ref aI24), .val (.int (1 : Int32)), .val (.int (own_fl u44))] [(.ref aI24), (.int (own_fl u44)), (.ref b9), (.int p1), (.ref b1)])) t → Steps p.tables e below (s₁.setTop (entryFrame m #[(.int p0), (.int p1), (.int p2), (.int p3)] maxLocals)) t := fun t kt => by
    refine pre49 _ ?_
    show Steps p.tables e below (T48.setTop (mkF m 64 #[.val (.int p0), .val (.int p1), .val (.int p2), .val (.int p3), .val (.ref b1), .val (.ref b9), .val (.ref aI24), .val (.int (1 : Int32)), .val (.int (own_fl u44))] [(.int (own_fl u44)), (.int (1 : Int32))])) _
    refine XS.iload X48.here hx rfl (hb hby at_64) rfl ?_
    show Steps p.tables e below (T48.setTop (mkF m 66 #[.val (.int p0), .val (.int p1), .val (.int p2), .val (.int p3), .val (.ref b1), .val (.ref b9), .val (.ref aI24), .val (.int (1 : Int32)), .val (.int (own_fl u44))] [(.int (own_fl u44)), (.int (own_fl u44)), (.int (1 : Int32))])) _
    refine XS.icmpNo X48.here hx rfl (hb hby at_66) rfl (teq (rfl : (own_fl u44) = (own_fl u44))).2 ?_
    show Steps p.tables e below (T48.setTop (mkF m 69 #[.val (.int p0), .val (.int p1), .val (.int p2), .val (.int p3), .val (.ref b1), .val (.ref b9), .val (.ref aI24), .val (.int (1 : Int32)), .val (.int (own_fl u44))] [(.int (1 : Int32))])) _
    refine XS.iconst X48.here hx rfl (hb hby at_69) ?_
    show Steps p.tables e below (T48.setTop (mkF m 70 #[.val (.int p0), .val (.int p1), .val (.int p2), .val (.int p3), .val (.ref b1), .val (.ref b9), .val (.ref aI24), .val (.int (1 : Int32)), .val (.int (own_fl u44))] [(.int (1 : Int32)), (.int (1 : Int32))])) _
    refine XS.goto X48.here hx rfl (pc0 := 70) (pc' := 74) rfl (hb hby at_70) (by decide) (by decide) ?_
    show Steps p.tables e below (T48.setTop (mkF m 74 #[.val (.int p0), .val (.int p1), .val (.int p2), .val (.int p3), .val (.ref b1), .val (.ref b9), .val (.ref aI24), .val (.int (1 : Int32)), .val (.int (own_fl u44))] [(.int (1 : Int32)), (.int (1 : Int32))])) _
    refine XS.iand X48.here hx rfl (hb hby at_74) rfl ?_
    show Steps p.tables e below (T48.setTop (mkF m 75 #[.val (.int p0), .val (.int p1), .val (.int p2), .val (.int p3), .val (.ref b1), .val (.ref b9), .val (.ref aI24), .val (.int (1 : Int32)), .val (.int (own_fl u44))] [(.int ((1 : Int32) &&& (1 : Int32)))])) _
    show Steps p.tables e below (T48.setTop (mkF m 75 #[.val (.int p0), .val (.int p1), .val (.int p2), .val (.int p3), .val (.ref b1), .val (.ref b9), .val (.ref aI24), .val (.int (1 : Int32)), .val (.int (own_fl u44))] [(.int (1 : Int32))])) _
    refine XS.istore X48.here hx rfl (hb hby at_75) rfl (l' := #[.val (.int p0), .val (.int p1), .val (.int p2), .val (.int p3), .val (.ref b1), .val (.ref b9), .val (.ref aI24), .val (.int (1 : Int32)), .val (.int (own_fl u44))]) rfl ?_
    show Steps p.tables e below (T48.setTop (mkF m 77 #[.val (.int p0), .val (.int p1), .val (.int p2), .val (.int p3), .val (.ref b1), .val (.ref b9), .val (.ref aI24), .val (.int (1 : Int32)), .val (.int (own_fl u44))] [])) _
    refine XS.aload X48.here hx rfl (hb hby at_77) rfl rfl ?_
    show Steps p.tables e below (T48.setTop (mkF m 79 #[.val (.int p0), .val (.int p1), .val (.int p2), .val (.int p3), .val (.ref b1), .val (.ref b9), .val (.ref aI24), .val (.int (1 : Int32)), .val (.int (own_fl u44))] [(.ref b1)])) _
    refine XS.iloadN X48.here hx rfl (hb hby at_79) rfl ?_
    show Steps p.tables e below (T48.setTop (mkF m 80 #[.val (.int p0), .val (.int p1), .val (.int p2), .val (.int p3), .val (.ref b1), .val (.ref b9), .val (.ref aI24), .val (.int (1 : Int32)), .val (.int (own_fl u44))] [(.int p1), (.ref b1)])) _
    refine XS.aload X48.here hx rfl (hb hby at_80) rfl rfl ?_
    show Steps p.tables e below (T48.setTop (mkF m 82 #[.val (.int p0), .val (.int p1), .val (.int p2), .val (.int p3), .val (.ref b1), .val (.ref b9), .val (.ref aI24), .val (.int (1 : Int32)), .val (.int (own_fl u44))] [(.ref b9), (.int p1), (.ref b1)])) _
    refine XS.iload X48.here hx rfl (hb hby at_82) rfl ?_
    show Steps p.tables e below (T48.setTop (mkF m 84 #[.val (.int p0), .val (.int p1), .val (.int p2), .val (.int p3), .val (.ref b1), .val (.ref b9), .val (.ref aI24), .val (.int (1 : Int32)), .val (.int (own_fl u44))] [(.int (own_fl u44)), (.ref b9), (.int p1), (.ref b1)])) _
    refine XS.aload X48.here hx rfl (hb hby at_84) rfl rfl ?_
    exact kt
  obtain ⟨_, _, ⟨T51, L51, kc51, nc51⟩, -, X51, ⟨Lc51, hQ51, l51, y51, z51⟩, st51⟩ := Jvm.LawKit.callS X48 hx (y := (⟨"beanforge/core/RecipeConstructsPinLaw", "step", "(Lbeanforge/core/Recipe;ILbeanforge/core/Overloads$Chosen;ZLjava/lang/Object;)Z"⟩ : MethodName)) hown (mvT hZ (hw _ (List.mem_of_getElem? (i := 67) rfl))) (mvT hZ (hw _ (List.mem_of_getElem? (i := 68) rfl))) (mvT hZ (hw _ (List.mem_of_getElem? (i := 69) rfl))) (mvT hZ (hw _ (List.mem_of_getElem? (i := 70) rfl))) (by decide) (backOf (W := 0) (rm10 l Z a0 hw [] b1 p1 b9 aI24 b6 aE kE c44 u44 T44.heap n0 O1 SE VZ hM (by omega) hu44 ST44) hZ (hw _ (List.mem_of_getElem? (i := 70) rfl)) (hw _ (List.mem_of_getElem? (i := 69) rfl)) (by decide) (by decide)) (g := (mkF m 86 #[.val (.int p0), .val (.int p1), .val (.int p2), .val (.int p3), .val (.ref b1), .val (.ref b9), .val (.ref aI24), .val (.int (1 : Int32)), .val (.int (own_fl u44))] [(.ref aI24), (.int (own_fl u44)), (.ref b9), (.int p1), (.ref b1)])) rfl (by rw [hml]; rfl) (argsL := [(.ref b1), (.int p1), (.ref b9), (.int (own_fl u44)), (.ref aI24)]) (rest := []) (lenOf pd_12 rfl) rfl (by show 2 * 0 + _ ≤ _; exact Nat.le_of_eq rfl) (hb hby at_86) (fun _ _ => ⟨rfl, he48, (by decide : 7 + 2 ≤ _), (by decide : 24 + 12 ≤ _)⟩)
  dsimp only [Pt.U, Pt.locs, Pt.cells, Pt.slots] at X51 l51 y51 z51 st51 hQ51
  subst l51 y51 z51
  obtain ⟨c51, u51, hc51, hu51, rfl, N51q, ST51⟩ := hQ51
  have N51 := Fr.app N48 N51q
  have pre52 : ∀ t, Steps p.tables e below (T51.setTop (mkF m 89 #[.val (.int p0), .val (.int p1), .val (.int p2), .val (.int p3), .val (.ref b1), .val (.ref b9), .val (.ref aI24), .val (.int (1 : Int32)), .val (.int (own_fl u44))] [(.int (own_fl u51))])) t → Steps p.tables e below (s₁.setTop (entryFrame m #[(.int p0), (.int p1), (.int p2), (.int p3)] maxLocals)) t := fun t kt => pre50 _ (st51 _ kt)
  have O2 := ST51.2.2.2.2.2.2.2
  have Zs2 : n0 ≤ T51.heap.size := O2.1 ▸ O2.2.1
  have pre53 : ∀ t, Steps p.tables e below (T51.setTop (mkF m 95 #[.val (.int p0), .val (.int p1), .val (.int p2), .val (.int p3), .val (.ref b1), .val (.ref b9), .val (.ref aI24), .val (.int (1 : Int32)), .val (.int (own_fl u51))] [(.ref b1), (.int (1 : Int32))])) t → Steps p.tables e below (s₁.setTop (entryFrame m #[(.int p0), (.int p1), (.int p2), (.int p3)] maxLocals)) t := fun t kt => by
    refine pre52 _ ?_
    show Steps p.tables e below (T51.setTop (mkF m 89 #[.val (.int p0), .val (.int p1), .val (.int p2), .val (.int p3), .val (.ref b1), .val (.ref b9), .val (.ref aI24), .val (.int (1 : Int32)), .val (.int (own_fl u44))] [(.int (own_fl u51))])) _
    refine XS.istore X51.here hx rfl (hb hby at_89) rfl (l' := #[.val (.int p0), .val (.int p1), .val (.int p2), .val (.int p3), .val (.ref b1), .val (.ref b9), .val (.ref aI24), .val (.int (1 : Int32)), .val (.int (own_fl u51))]) rfl ?_
    show Steps p.tables e below (T51.setTop (mkF m 91 #[.val (.int p0), .val (.int p1), .val (.int p2), .val (.int p3), .val (.ref b1), .val (.ref b9), .val (.ref aI24), .val (.int (1 : Int32)), .val (.int (own_fl u51))] [])) _
    refine XS.iload X51.here hx rfl (hb hby at_91) rfl ?_
    show Steps p.tables e below (T51.setTop (mkF m 93 #[.val (.int p0), .val (.int p1), .val (.int p2), .val (.int p3), .val (.ref b1), .val (.ref b9), .val (.ref aI24), .val (.int (1 : Int32)), .val (.int (own_fl u51))] [(.int (1 : Int32))])) _
    refine XS.aload X51.here hx rfl (hb hby at_93) rfl rfl ?_
    exact kt
  obtain ⟨cq54, kq54, q54a, q54b, q54c⟩ := isOf hZ rfl ST51.1
  obtain ⟨_, _, ⟨T55, L55, kc55, nc55⟩, -, X55, ⟨Lc55, hQ55, l55, y55, z55⟩, st55⟩ := X51.virtualBack hx (y := (⟨"beanforge/core/Recipe", "constructs", "()Z"⟩ : MethodName)) (z := (⟨"beanforge/core/Recipe", "constructs", "()Z"⟩ : MethodName)) hown (mvT hZ (hw _ (List.mem_of_getElem? (i := 60) rfl))) (mvT hZ (hw _ (List.mem_of_getElem? (i := 61) rfl))) (notFace_of_selects (args := #[]) (mvT hZ (hw _ (List.mem_of_getElem? (i := 63) rfl)))) (mvT hZ (hw _ (List.mem_of_getElem? (i := 63) rfl))) (mvT hZ (hw _ (List.mem_of_getElem? (i := 62) rfl))) (by decide) (backOf (W := 1) (rm9 l Z a0 hw [] b1 u51 T51.heap n0 Zs2 hu51 ST51.2.2.1) hZ (hw _ (List.mem_of_getElem? (i := 64) rfl)) (hw _ (List.mem_of_getElem? (i := 2) rfl)) (by decide) (by decide)) q54a q54c (g := (mkF m 95 #[.val (.int p0), .val (.int p1), .val (.int p2), .val (.int p3), .val (.ref b1), .val (.ref b9), .val (.ref aI24), .val (.int (1 : Int32)), .val (.int (own_fl u51))] [(.ref b1), (.int (1 : Int32))])) rfl (by rw [hml]; rfl) (Steps.refl _) (argsL := []) (rest := [(.int (1 : Int32))]) (lenOf pd_11 rfl) rfl (by show 2 * 0 + _ ≤ _; exact Nat.le_of_eq rfl) (hb hby at_95) (fun _ _ => ⟨rfl, rfl, (by decide : 9 + 0 ≤ _), (by decide : 36 + 0 ≤ _)⟩)
  dsimp only [Pt.U, Pt.locs, Pt.cells, Pt.slots] at X55 l55 y55 z55 st55 hQ55
  subst l55 y55 z55
  obtain ⟨rfl, N55q, he55⟩ := hQ55
  have N55 := Fr.app N51 N55q
  have pre56 : ∀ t, Steps p.tables e below (T55.setTop (mkF m 98 #[.val (.int p0), .val (.int p1), .val (.int p2), .val (.int p3), .val (.ref b1), .val (.ref b9), .val (.ref aI24), .val (.int (1 : Int32)), .val (.int (own_fl u51))] [(.int (own_fl u51)), (.int (1 : Int32))])) t → Steps p.tables e below (s₁.setTop (entryFrame m #[(.int p0), (.int p1), (.int p2), (.int p3)] maxLocals)) t := fun t kt => pre53 _ (st55.trans kt)
  have pre57 : ∀ t, Steps p.tables e below (T55.setTop (mkF m 120 #[.val (.int p0), .val (.int p1), .val (.int p2), .val (.int p3), .val (.ref b1), .val (.ref b9), .val (.ref aI24), .val (.int (1 : Int32)), .val (.int (own_fl u51))] [(.ref aI24), (.int (own_fl u51)), (.ref b9), (.int p2), (.ref b1)])) t → Steps p.tables e below (s₁.setTop (entryFrame m #[(.int p0), (.int p1), (.int p2), (.int p3)] maxLocals)) t := fun t kt => by
    refine pre56 _ ?_
    show Steps p.tables e below (T55.setTop (mkF m 98 #[.val (.int p0), .val (.int p1), .val (.int p2), .val (.int p3), .val (.ref b1), .val (.ref b9), .val (.ref aI24), .val (.int (1 : Int32)), .val (.int (own_fl u51))] [(.int (own_fl u51)), (.int (1 : Int32))])) _
    refine XS.iload X55.here hx rfl (hb hby at_98) rfl ?_
    show Steps p.tables e below (T55.setTop (mkF m 100 #[.val (.int p0), .val (.int p1), .val (.int p2), .val (.int p3), .val (.ref b1), .val (.ref b9), .val (.ref aI24), .val (.int (1 : Int32)), .val (.int (own_fl u51))] [(.int (own_fl u51)), (.int (own_fl u51)), (.int (1 : Int32))])) _
    refine XS.icmpNo X55.here hx rfl (hb hby at_100) rfl (teq (rfl : (own_fl u51) = (own_fl u51))).2 ?_
    show Steps p.tables e below (T55.setTop (mkF m 103 #[.val (.int p0), .val (.int p1), .val (.int p2), .val (.int p3), .val (.ref b1), .val (.ref b9), .val (.ref aI24), .val (.int (1 : Int32)), .val (.int (own_fl u51))] [(.int (1 : Int32))])) _
    refine XS.iconst X55.here hx rfl (hb hby at_103) ?_
    show Steps p.tables e below (T55.setTop (mkF m 104 #[.val (.int p0), .val (.int p1), .val (.int p2), .val (.int p3), .val (.ref b1), .val (.ref b9), .val (.ref aI24), .val (.int (1 : Int32)), .val (.int (own_fl u51))] [(.int (1 : Int32)), (.int (1 : Int32))])) _
    refine XS.goto X55.here hx rfl (pc0 := 104) (pc' := 108) rfl (hb hby at_104) (by decide) (by decide) ?_
    show Steps p.tables e below (T55.setTop (mkF m 108 #[.val (.int p0), .val (.int p1), .val (.int p2), .val (.int p3), .val (.ref b1), .val (.ref b9), .val (.ref aI24), .val (.int (1 : Int32)), .val (.int (own_fl u51))] [(.int (1 : Int32)), (.int (1 : Int32))])) _
    refine XS.iand X55.here hx rfl (hb hby at_108) rfl ?_
    show Steps p.tables e below (T55.setTop (mkF m 109 #[.val (.int p0), .val (.int p1), .val (.int p2), .val (.int p3), .val (.ref b1), .val (.ref b9), .val (.ref aI24), .val (.int (1 : Int32)), .val (.int (own_fl u51))] [(.int ((1 : Int32) &&& (1 : Int32)))])) _
    show Steps p.tables e below (T55.setTop (mkF m 109 #[.val (.int p0), .val (.int p1), .val (.int p2), .val (.int p3), .val (.ref b1), .val (.ref b9), .val (.ref aI24), .val (.int (1 : Int32)), .val (.int (own_fl u51))] [(.int (1 : Int32))])) _
    refine XS.istore X55.here hx rfl (hb hby at_109) rfl (l' := #[.val (.int p0), .val (.int p1), .val (.int p2), .val (.int p3), .val (.ref b1), .val (.ref b9), .val (.ref aI24), .val (.int (1 : Int32)), .val (.int (own_fl u51))]) rfl ?_
    show Steps p.tables e below (T55.setTop (mkF m 111 #[.val (.int p0), .val (.int p1), .val (.int p2), .val (.int p3), .val (.ref b1), .val (.ref b9), .val (.ref aI24), .val (.int (1 : Int32)), .val (.int (own_fl u51))] [])) _
    refine XS.aload X55.here hx rfl (hb hby at_111) rfl rfl ?_
    show Steps p.tables e below (T55.setTop (mkF m 113 #[.val (.int p0), .val (.int p1), .val (.int p2), .val (.int p3), .val (.ref b1), .val (.ref b9), .val (.ref aI24), .val (.int (1 : Int32)), .val (.int (own_fl u51))] [(.ref b1)])) _
    refine XS.iloadN X55.here hx rfl (hb hby at_113) rfl ?_
    show Steps p.tables e below (T55.setTop (mkF m 114 #[.val (.int p0), .val (.int p1), .val (.int p2), .val (.int p3), .val (.ref b1), .val (.ref b9), .val (.ref aI24), .val (.int (1 : Int32)), .val (.int (own_fl u51))] [(.int p2), (.ref b1)])) _
    refine XS.aload X55.here hx rfl (hb hby at_114) rfl rfl ?_
    show Steps p.tables e below (T55.setTop (mkF m 116 #[.val (.int p0), .val (.int p1), .val (.int p2), .val (.int p3), .val (.ref b1), .val (.ref b9), .val (.ref aI24), .val (.int (1 : Int32)), .val (.int (own_fl u51))] [(.ref b9), (.int p2), (.ref b1)])) _
    refine XS.iload X55.here hx rfl (hb hby at_116) rfl ?_
    show Steps p.tables e below (T55.setTop (mkF m 118 #[.val (.int p0), .val (.int p1), .val (.int p2), .val (.int p3), .val (.ref b1), .val (.ref b9), .val (.ref aI24), .val (.int (1 : Int32)), .val (.int (own_fl u51))] [(.int (own_fl u51)), (.ref b9), (.int p2), (.ref b1)])) _
    refine XS.aload X55.here hx rfl (hb hby at_118) rfl rfl ?_
    exact kt
  obtain ⟨_, _, ⟨T58, L58, kc58, nc58⟩, -, X58, ⟨Lc58, hQ58, l58, y58, z58⟩, st58⟩ := Jvm.LawKit.callS X55 hx (y := (⟨"beanforge/core/RecipeConstructsPinLaw", "step", "(Lbeanforge/core/Recipe;ILbeanforge/core/Overloads$Chosen;ZLjava/lang/Object;)Z"⟩ : MethodName)) hown (mvT hZ (hw _ (List.mem_of_getElem? (i := 67) rfl))) (mvT hZ (hw _ (List.mem_of_getElem? (i := 68) rfl))) (mvT hZ (hw _ (List.mem_of_getElem? (i := 69) rfl))) (mvT hZ (hw _ (List.mem_of_getElem? (i := 70) rfl))) (by decide) (backOf (W := 0) (rm10 l Z a0 hw [] b1 p2 b9 aI24 b6 aE kE c51 u51 T51.heap n0 O2 SE VZ hM (by omega) hu51 ST51) hZ (hw _ (List.mem_of_getElem? (i := 70) rfl)) (hw _ (List.mem_of_getElem? (i := 69) rfl)) (by decide) (by decide)) (g := (mkF m 120 #[.val (.int p0), .val (.int p1), .val (.int p2), .val (.int p3), .val (.ref b1), .val (.ref b9), .val (.ref aI24), .val (.int (1 : Int32)), .val (.int (own_fl u51))] [(.ref aI24), (.int (own_fl u51)), (.ref b9), (.int p2), (.ref b1)])) rfl (by rw [hml]; rfl) (argsL := [(.ref b1), (.int p2), (.ref b9), (.int (own_fl u51)), (.ref aI24)]) (rest := []) (lenOf pd_12 rfl) rfl (by show 2 * 0 + _ ≤ _; exact Nat.le_of_eq rfl) (hb hby at_120) (fun _ _ => ⟨rfl, he55, (by decide : 9 + 2 ≤ _), (by decide : 36 + 12 ≤ _)⟩)
  dsimp only [Pt.U, Pt.locs, Pt.cells, Pt.slots] at X58 l58 y58 z58 st58 hQ58
  subst l58 y58 z58
  obtain ⟨c58, u58, hc58, hu58, rfl, N58q, ST58⟩ := hQ58
  have N58 := Fr.app N55 N58q
  have pre59 : ∀ t, Steps p.tables e below (T58.setTop (mkF m 123 #[.val (.int p0), .val (.int p1), .val (.int p2), .val (.int p3), .val (.ref b1), .val (.ref b9), .val (.ref aI24), .val (.int (1 : Int32)), .val (.int (own_fl u51))] [(.int (own_fl u58))])) t → Steps p.tables e below (s₁.setTop (entryFrame m #[(.int p0), (.int p1), (.int p2), (.int p3)] maxLocals)) t := fun t kt => pre57 _ (st58 _ kt)
  have O3 := ST58.2.2.2.2.2.2.2
  have Zs3 : n0 ≤ T58.heap.size := O3.1 ▸ O3.2.1
  have pre60 : ∀ t, Steps p.tables e below (T58.setTop (mkF m 129 #[.val (.int p0), .val (.int p1), .val (.int p2), .val (.int p3), .val (.ref b1), .val (.ref b9), .val (.ref aI24), .val (.int (1 : Int32)), .val (.int (own_fl u58))] [(.ref b1), (.int (1 : Int32))])) t → Steps p.tables e below (s₁.setTop (entryFrame m #[(.int p0), (.int p1), (.int p2), (.int p3)] maxLocals)) t := fun t kt => by
    refine pre59 _ ?_
    show Steps p.tables e below (T58.setTop (mkF m 123 #[.val (.int p0), .val (.int p1), .val (.int p2), .val (.int p3), .val (.ref b1), .val (.ref b9), .val (.ref aI24), .val (.int (1 : Int32)), .val (.int (own_fl u51))] [(.int (own_fl u58))])) _
    refine XS.istore X58.here hx rfl (hb hby at_123) rfl (l' := #[.val (.int p0), .val (.int p1), .val (.int p2), .val (.int p3), .val (.ref b1), .val (.ref b9), .val (.ref aI24), .val (.int (1 : Int32)), .val (.int (own_fl u58))]) rfl ?_
    show Steps p.tables e below (T58.setTop (mkF m 125 #[.val (.int p0), .val (.int p1), .val (.int p2), .val (.int p3), .val (.ref b1), .val (.ref b9), .val (.ref aI24), .val (.int (1 : Int32)), .val (.int (own_fl u58))] [])) _
    refine XS.iload X58.here hx rfl (hb hby at_125) rfl ?_
    show Steps p.tables e below (T58.setTop (mkF m 127 #[.val (.int p0), .val (.int p1), .val (.int p2), .val (.int p3), .val (.ref b1), .val (.ref b9), .val (.ref aI24), .val (.int (1 : Int32)), .val (.int (own_fl u58))] [(.int (1 : Int32))])) _
    refine XS.aload X58.here hx rfl (hb hby at_127) rfl rfl ?_
    exact kt
  obtain ⟨cq61, kq61, q61a, q61b, q61c⟩ := isOf hZ rfl ST58.1
  obtain ⟨_, _, ⟨T62, L62, kc62, nc62⟩, -, X62, ⟨Lc62, hQ62, l62, y62, z62⟩, st62⟩ := X58.virtualBack hx (y := (⟨"beanforge/core/Recipe", "constructs", "()Z"⟩ : MethodName)) (z := (⟨"beanforge/core/Recipe", "constructs", "()Z"⟩ : MethodName)) hown (mvT hZ (hw _ (List.mem_of_getElem? (i := 60) rfl))) (mvT hZ (hw _ (List.mem_of_getElem? (i := 61) rfl))) (notFace_of_selects (args := #[]) (mvT hZ (hw _ (List.mem_of_getElem? (i := 63) rfl)))) (mvT hZ (hw _ (List.mem_of_getElem? (i := 63) rfl))) (mvT hZ (hw _ (List.mem_of_getElem? (i := 62) rfl))) (by decide) (backOf (W := 1) (rm9 l Z a0 hw [] b1 u58 T58.heap n0 Zs3 hu58 ST58.2.2.1) hZ (hw _ (List.mem_of_getElem? (i := 64) rfl)) (hw _ (List.mem_of_getElem? (i := 2) rfl)) (by decide) (by decide)) q61a q61c (g := (mkF m 129 #[.val (.int p0), .val (.int p1), .val (.int p2), .val (.int p3), .val (.ref b1), .val (.ref b9), .val (.ref aI24), .val (.int (1 : Int32)), .val (.int (own_fl u58))] [(.ref b1), (.int (1 : Int32))])) rfl (by rw [hml]; rfl) (Steps.refl _) (argsL := []) (rest := [(.int (1 : Int32))]) (lenOf pd_11 rfl) rfl (by show 2 * 0 + _ ≤ _; exact Nat.le_of_eq rfl) (hb hby at_129) (fun _ _ => ⟨rfl, rfl, (by decide : 11 + 0 ≤ _), (by decide : 48 + 0 ≤ _)⟩)
  dsimp only [Pt.U, Pt.locs, Pt.cells, Pt.slots] at X62 l62 y62 z62 st62 hQ62
  subst l62 y62 z62
  obtain ⟨rfl, N62q, he62⟩ := hQ62
  have N62 := Fr.app N58 N62q
  have pre63 : ∀ t, Steps p.tables e below (T62.setTop (mkF m 132 #[.val (.int p0), .val (.int p1), .val (.int p2), .val (.int p3), .val (.ref b1), .val (.ref b9), .val (.ref aI24), .val (.int (1 : Int32)), .val (.int (own_fl u58))] [(.int (own_fl u58)), (.int (1 : Int32))])) t → Steps p.tables e below (s₁.setTop (entryFrame m #[(.int p0), (.int p1), (.int p2), (.int p3)] maxLocals)) t := fun t kt => pre60 _ (st62.trans kt)
  have pre64 : ∀ t, Steps p.tables e below (T62.setTop (mkF m 147 #[.val (.int p0), .val (.int p1), .val (.int p2), .val (.int p3), .val (.ref b1), .val (.ref b9), .val (.ref aI24), .val (.int (1 : Int32)), .val (.int (own_fl u58))] [(.int (1 : Int32))])) t → Steps p.tables e below (s₁.setTop (entryFrame m #[(.int p0), (.int p1), (.int p2), (.int p3)] maxLocals)) t := fun t kt => by
    refine pre63 _ ?_
    show Steps p.tables e below (T62.setTop (mkF m 132 #[.val (.int p0), .val (.int p1), .val (.int p2), .val (.int p3), .val (.ref b1), .val (.ref b9), .val (.ref aI24), .val (.int (1 : Int32)), .val (.int (own_fl u58))] [(.int (own_fl u58)), (.int (1 : Int32))])) _
    refine XS.iload X62.here hx rfl (hb hby at_132) rfl ?_
    show Steps p.tables e below (T62.setTop (mkF m 134 #[.val (.int p0), .val (.int p1), .val (.int p2), .val (.int p3), .val (.ref b1), .val (.ref b9), .val (.ref aI24), .val (.int (1 : Int32)), .val (.int (own_fl u58))] [(.int (own_fl u58)), (.int (own_fl u58)), (.int (1 : Int32))])) _
    refine XS.icmpNo X62.here hx rfl (hb hby at_134) rfl (teq (rfl : (own_fl u58) = (own_fl u58))).2 ?_
    show Steps p.tables e below (T62.setTop (mkF m 137 #[.val (.int p0), .val (.int p1), .val (.int p2), .val (.int p3), .val (.ref b1), .val (.ref b9), .val (.ref aI24), .val (.int (1 : Int32)), .val (.int (own_fl u58))] [(.int (1 : Int32))])) _
    refine XS.iconst X62.here hx rfl (hb hby at_137) ?_
    show Steps p.tables e below (T62.setTop (mkF m 138 #[.val (.int p0), .val (.int p1), .val (.int p2), .val (.int p3), .val (.ref b1), .val (.ref b9), .val (.ref aI24), .val (.int (1 : Int32)), .val (.int (own_fl u58))] [(.int (1 : Int32)), (.int (1 : Int32))])) _
    refine XS.goto X62.here hx rfl (pc0 := 138) (pc' := 142) rfl (hb hby at_138) (by decide) (by decide) ?_
    show Steps p.tables e below (T62.setTop (mkF m 142 #[.val (.int p0), .val (.int p1), .val (.int p2), .val (.int p3), .val (.ref b1), .val (.ref b9), .val (.ref aI24), .val (.int (1 : Int32)), .val (.int (own_fl u58))] [(.int (1 : Int32)), (.int (1 : Int32))])) _
    refine XS.iand X62.here hx rfl (hb hby at_142) rfl ?_
    show Steps p.tables e below (T62.setTop (mkF m 143 #[.val (.int p0), .val (.int p1), .val (.int p2), .val (.int p3), .val (.ref b1), .val (.ref b9), .val (.ref aI24), .val (.int (1 : Int32)), .val (.int (own_fl u58))] [(.int ((1 : Int32) &&& (1 : Int32)))])) _
    show Steps p.tables e below (T62.setTop (mkF m 143 #[.val (.int p0), .val (.int p1), .val (.int p2), .val (.int p3), .val (.ref b1), .val (.ref b9), .val (.ref aI24), .val (.int (1 : Int32)), .val (.int (own_fl u58))] [(.int (1 : Int32))])) _
    refine XS.istore X62.here hx rfl (hb hby at_143) rfl (l' := #[.val (.int p0), .val (.int p1), .val (.int p2), .val (.int p3), .val (.ref b1), .val (.ref b9), .val (.ref aI24), .val (.int (1 : Int32)), .val (.int (own_fl u58))]) rfl ?_
    show Steps p.tables e below (T62.setTop (mkF m 145 #[.val (.int p0), .val (.int p1), .val (.int p2), .val (.int p3), .val (.ref b1), .val (.ref b9), .val (.ref aI24), .val (.int (1 : Int32)), .val (.int (own_fl u58))] [])) _
    refine XS.iload X62.here hx rfl (hb hby at_145) rfl ?_
    exact kt
  obtain ⟨fs, hr, hrun, hended, hW, hsame⟩ := X62.leave (v := (some (.int (1 : Int32)))) (fun h => by rw [Bd.returns] at h; cases h)
  refine ⟨_, _, pre64 _ ?_, hrun, hended, _, _, rfl, ?_, ⟨_, rfl⟩, hW, hsame.mono (by decide) (by decide)⟩
  · show Steps p.tables e below (T62.setTop (mkF m 147 #[.val (.int p0), .val (.int p1), .val (.int p2), .val (.int p3), .val (.ref b1), .val (.ref b9), .val (.ref aI24), .val (.int (1 : Int32)), .val (.int (own_fl u58))] [(.int (1 : Int32))])) _
    exact retN X62 hx (t := .boolean) Bd.returns (by simp) (hb hby at_147) hr
  · show Q0 Z p0 p1 p2 p3 aE kE aC clC h0 n0 _ T62.heap _
    rw [he62]
    exact ⟨rfl, N62⟩

theorem own_empty {s : State} {args : Array Value} (hw : ∀ d ∈ tables_1, d.before args s = true) (hsets : ∀ d ∈ jdkStatics_1, d.before args s = true) : ∃ (aE : Addr) (kE : ClassId), Sta s s.heap "java/util/ArrayList" "DEFAULTCAPACITY_EMPTY_ELEMENTDATA" "[Ljava/lang/Object;" (.ref aE) ∧ Arv s s.heap aE kE (.object "java/lang/Object") (0 : Int32) [] .null := by
  obtain ⟨aE, cl, ev, hc, harr, hvm⟩ : ∃ (a : Addr) (cl : Cell), (Term.static "java/util/ArrayList" "DEFAULTCAPACITY_EMPTY_ELEMENTDATA" "[Ljava/lang/Object;").eval args s none [] s = some (.ref a) ∧ s.heap[a]? = some cl ∧ s.isArrayOf cl (.object "java/lang/Object") ∧ cl.vm ≠ .unknown := by
    obtain ⟨a, c', cell, k, e1, -⟩ := Cond.exactly_spec (hsets _ (List.mem_of_getElem? (i := 7) rfl))
    obtain ⟨a', cl, e2, h2, h3, h4⟩ := Jvm.Free.IntBox.arrayOf_fwd (hsets _ (List.mem_of_getElem? (i := 6) rfl)) e1
    cases e2
    exact ⟨a, cl, e1, h2, h3, h4⟩
  obtain ⟨hsz, hlen⟩ := Jvm.Free.IntBox.length_fwd (hsets _ (List.mem_of_getElem? (i := 8) rfl)) ev hc harr hvm
  have h0 : cl.slots.size = 0 := by
    have e : (cl.slots.size.toInt32).toInt = cl.slots.size := by
      have : (cl.slots.size.toInt32).toInt = (cl.slots.size : Int).bmod (2 ^ 32) := by simp [Nat.toInt32, Int32.size]
      rw [this]; simp [Int.bmod]; omega
    rw [hlen] at e
    have : (0 : Int32).toInt = 0 := by decide
    omega
  refine ⟨aE, cl.cls, Sta.start ev (Or.inr ⟨(hw _ (List.mem_of_getElem? (i := 11) rfl)), (hsets _ (List.mem_of_getElem? (i := 2) rfl))⟩), cl, ⟨hc, harr, hvm⟩, rfl, by rw [h0]; rfl, by decide, fun k hk => by omega, fun k hk => by omega⟩
theorem own_cache {s : State} {args : Array Value} (hw : ∀ d ∈ tables_1, d.before args s = true) (hsets : ∀ d ∈ jdkStatics_1, d.before args s = true) : ∃ (aC : Addr) (clC : Cell), Sta s s.heap "java/lang/Integer$IntegerCache" "high" "I" (.int (127 : Int32)) ∧ Sta s s.heap "java/lang/Integer$IntegerCache" "cache" "[Ljava/lang/Integer;" (.ref aC) ∧ Arr s s.heap aC clC (.object "java/lang/Integer") ∧ (∀ w : Int32, ¬ w < (-128 : Int32) → ¬ ((127 : Int32) < w) → ∃ box : Addr, ¬ ((w + (128 : Int32)) < 0 ∨ clC.slots.size ≤ (w + (128 : Int32)).toNatClampNeg) ∧ clC.slots[(w + (128 : Int32)).toNatClampNeg]? = some (.ref box) ∧ Exa s s.heap box "java/lang/Integer") := by
  have h12 := Cond.eq_int (show (Cond.eq (Term.static "java/lang/Integer$IntegerCache" "high" "I") (.int 127)).holds args s none s [] = true from hsets _ (List.mem_of_getElem? (i := 12) rfl)) (rfl : (Term.int 127).eval args s none [] s = some (.int 127))
  obtain ⟨arr, cl, evC, hc, harr, hvm⟩ : ∃ (a : Addr) (cl : Cell), (Term.static "java/lang/Integer$IntegerCache" "cache" "[Ljava/lang/Integer;").eval args s none [] s = some (.ref a) ∧ s.heap[a]? = some cl ∧ s.isArrayOf cl (.object "java/lang/Integer") ∧ cl.vm ≠ .unknown := by
    obtain ⟨a, c', cell, k, e1, -⟩ := Cond.exactly_spec (hsets _ (List.mem_of_getElem? (i := 14) rfl))
    obtain ⟨a', cl, e2, h2, h3, h4⟩ := Jvm.Free.IntBox.arrayOf_fwd (hsets _ (List.mem_of_getElem? (i := 13) rfl)) e1
    cases e2
    exact ⟨a, cl, e1, h2, h3, h4⟩
  obtain ⟨hsz, hlen⟩ := Jvm.Free.IntBox.length_fwd (hsets _ (List.mem_of_getElem? (i := 15) rfl)) evC hc harr hvm
  have h256 : cl.slots.size = 256 := by
    have e : (cl.slots.size.toInt32).toInt = cl.slots.size := by
      have : (cl.slots.size.toInt32).toInt = (cl.slots.size : Int).bmod (2 ^ 32) := by simp [Nat.toInt32, Int32.size]
      rw [this]; simp [Int.bmod]; omega
    rw [hlen] at e
    have : (256 : Int32).toInt = 256 := by decide
    omega
  have hat := Jvm.Free.IntBox.arrayAt_of hc harr hvm
  have hiC : (Cond.initialized "java/lang/Integer$IntegerCache").before args s = true := (hw _ (List.mem_of_getElem? (i := 58) rfl))
  refine ⟨arr, cl, Sta.start h12 (Or.inl (hsets _ (List.mem_of_getElem? (i := 10) rfl))), Sta.start evC (Or.inr ⟨hiC, hsets _ (List.mem_of_getElem? (i := 11) rfl)⟩), ⟨hc, harr, hvm⟩, fun w hw1 hw2 => ?_⟩
  have hallAtom : (Cond.all (Term.static "java/lang/Integer$IntegerCache" "cache" "[Ljava/lang/Integer;") (.and (.exactly (.elem (Term.static "java/lang/Integer$IntegerCache" "cache" "[Ljava/lang/Integer;") (.index 0)) "java/lang/Integer") (.eq (.field (.elem (Term.static "java/lang/Integer$IntegerCache" "cache" "[Ljava/lang/Integer;") (.index 0)) "java/lang/Integer" "value" "I") (.sub (.index 0) (.int 128))))).holds args s none s [] = true := hsets _ (List.mem_of_getElem? (i := 16) rfl)
  have hall := Cond.all_elim (c := .and (.exactly (.elem (Term.static "java/lang/Integer$IntegerCache" "cache" "[Ljava/lang/Integer;") (.index 0)) "java/lang/Integer") (.eq (.field (.elem (Term.static "java/lang/Integer$IntegerCache" "cache" "[Ljava/lang/Integer;") (.index 0)) "java/lang/Integer" "value" "I") (.sub (.index 0) (.int 128)))) evC hat (by simpa [Cond.holds] using hallAtom)
  obtain ⟨hbnd, hlt⟩ := Jvm.Free.IntBox.place_ok w hw1 hw2
  have hj := hall _ (by rw [h256]; exact hlt)
  have hval : (Cond.and (.exactly (.elem (Term.static "java/lang/Integer$IntegerCache" "cache" "[Ljava/lang/Integer;") (.index 0)) "java/lang/Integer") (.eq (.field (.elem (Term.static "java/lang/Integer$IntegerCache" "cache" "[Ljava/lang/Integer;") (.index 0)) "java/lang/Integer" "value" "I") (.sub (.index 0) (.int 128)))).holds args s none s [(w + 128).toNatClampNeg] = true := by simpa [Cond.holds] using hj
  rw [Cond.holds_and, Bool.and_eq_true] at hval
  obtain ⟨hex, -⟩ := hval
  obtain ⟨hnn, hback⟩ := Jvm.Free.IntBox.place_nonneg _ hlt
  obtain ⟨c1, k1, i1, f1, st1, cellS, x1, x2, x3, x4, x5, x6, -, -, -⟩ := Cond.laysStatic_spec (show (Cond.laysStatic "java/lang/Integer$IntegerCache" "cache" "[Ljava/lang/Integer;").holds args s none s [] = true from hsets _ (List.mem_of_getElem? (i := 11) rfl))
  have evCi : (Term.static "java/lang/Integer$IntegerCache" "cache" "[Ljava/lang/Integer;").eval args s none [(w + 128).toNatClampNeg] s = some (.ref arr) := by
    rw [Jvm.Free.IntBox.static_eval (args := args) (idx := [(w + 128).toNatClampNeg]) x2 x3 x4 x5 x6, ← Jvm.Free.IntBox.static_eval (args := args) (idx := []) x2 x3 x4 x5 x6]; exact evC
  have hltA : (w + 128).toNatClampNeg < cl.slots.size := by rw [h256]; exact hlt
  have evE : (Term.elem (Term.static "java/lang/Integer$IntegerCache" "cache" "[Ljava/lang/Integer;") (.index 0)).eval args s none [(w + 128).toNatClampNeg] s = cl.slots[(w + 128).toNatClampNeg]? := by
    have key : ∀ t : Term, t.eval args s none [(w + 128).toNatClampNeg] s = some (.ref arr) → (Term.elem t (.index 0)).eval args s none [(w + 128).toNatClampNeg] s = cl.slots[(w + 128).toNatClampNeg]? := fun t ht => by simp [Term.eval, ht, hnn, hat, hback]
    exact key _ evCi
  obtain ⟨box, cB, cellB, kB, heB, hcB, hcellB, hkB, hnsB, hclsB, hsB⟩ := Cond.exactly_spec hex
  rw [evE] at heB
  subst hclsB
  exact ⟨box, by rw [h256]; exact hbnd, heB, cellB, kB, hcellB, hcB, hkB, hnsB, hsB⟩
set_option maxRecDepth 65536 in
set_option maxHeartbeats 40000000 in
theorem comes_1 {Post : Tables → Env → Array Value → State → Outcome → State → Prop} (hpost : ∀ tb e args s v u, (limb_1_1.after args s (.returned v) u = true ∧ limb_1_2.after args s (.returned v) u = true ∧ True) → FrameEnd s (.returned v) u (Jvm.fieldLocs frame_1_writes args s ++ Jvm.arrayLocs frame_1_arrays args s ++ Jvm.staticLocs frame_1_statics s) 32 128 → Post tb e args s (.returned v) u) :
    ArmFor flags0 classFile x code maxLocals ret World_1 tables_1 room_1 Calls_1 rest_1 Pre_1 Post := by
  intro l hfl _ _ p e ha hc hk s m args below hf hA hF happ hP
  obtain ⟨hcalls, hrest, hpre⟩ := hP
  obtain ⟨-, -, -, hnamed, -, -, -, hat⟩ := (Spec.applies_iff hf).mp happ
  obtain ⟨hg, hn⟩ := and_e (Cond.before_iff.mp (show (Jvm.Cond.and given_1 narrow_1).before args s = true from hpre))
  obtain ⟨gc, g0⟩ := and_e hg
  obtain ⟨gg0, g1⟩ := and_e g0
  obtain ⟨gg1, g2⟩ := and_e g1
  obtain ⟨gg2, g3⟩ := and_e g2
  obtain ⟨w0, w1, w2, w3, rfl⟩ : ∃ w0 w1 w2 w3 : Value, args = #[w0, w1, w2, w3] := by
    have hs : args.size = 4 := by simpa [Cond.value, given_1] using gc
    obtain ⟨L⟩ := args
    match L, hs with
    | [w0, w1, w2, w3], _ => exact ⟨w0, w1, w2, w3, rfl⟩
  have hw := fun d (hd : d ∈ tables_1) => atoms_spec (ws := Jvm.Cond.code x code maxLocals ret :: tables_1) hat d (List.mem_cons_of_mem _ hd)
  have hfit : Fit s := fun {y c} hc i hi => by
    obtain ⟨ha, rfl⟩ := Array.getElem?_eq_some_iff.mp hc
    have q := List.all_eq_true.mp ((Array.all_eq_true_iff_forall_mem.mp hF) _ (Array.getElem_mem ha)) i (List.mem_range.mpr hi)
    simpa [Array.getElem?_eq_getElem hi] using q
  obtain ⟨i0, ei0⟩ := is_v gg0
  obtain rfl : w0 = (.int i0) := Option.some.inj ei0
  obtain ⟨i1, ei1⟩ := is_v gg1
  obtain rfl : w1 = (.int i1) := Option.some.inj ei1
  obtain ⟨i2, ei2⟩ := is_v gg2
  obtain rfl : w2 = (.int i2) := Option.some.inj ei2
  obtain ⟨i3, ei3⟩ := is_v g3
  obtain rfl : w3 = (.int i3) := Option.some.inj ei3
  obtain ⟨hsets, hown0⟩ := atoms_of _ (rest_1_c_eq ▸ (show rest_1_c.before _ s = true from hrest))
  have hM : MirrorMade s "java/lang/Integer" := hcalls.1
  obtain ⟨aE, kE, SE, VZ⟩ := own_empty hw hsets
  obtain ⟨aC, clC, SHi, SCa, ArC, hC⟩ := own_cache hw hsets
  obtain ⟨n, o, h1, h2, h3, _, L, rfl, ⟨rfl, N⟩, hq⟩ := rm0 l s _ hw tables_1 i0 i1 i2 i3 aE kE aC clC s.heap s.heap.size (Old.start s) SE VZ hM SHi SCa ArC hC p e ha hc hk s m _ below hf ((Spec.applies_iff_loose hf).mp happ).1 ⟨rfl, State.Warmed39.refl s, rfl⟩ trivial
  refine ⟨n, _, h1, h2, h3, hpost _ _ _ _ _ _ ⟨Cond.after_iff.mpr rfl, Cond.after_iff.mpr (eq_i res_at (Term.int_eval (1)) rfl), trivial⟩ ⟨hq.1, hq.2.1, (hq.2.2.sift fun y hy => Or.inr (N y hy)).mono (by decide) (by decide)⟩⟩
theorem main_1_1 : Claimed_1_1 := comes_1 fun _ _ _ _ _ _ h hF => ⟨h.1, hF⟩
theorem main_1_2 : Claimed_1_2 := comes_1 fun _ _ _ _ _ _ h hF => ⟨h.2.1, hF⟩
end Jvm.Pilot.@@N@@
namespace Jvm.Pilot.@@N@@
open Jvm Jvm.ClassFile Sem Op Lib Jvm.Free Jvm.Stand Jvm.Pilot.@@N@@.Jvm.D
/-! MADE BY PROGRAM (witnessworld.py) out of the Statement's table words and the real class files: 29 classes; the members and pool entries that the words name. The judged class is class 1, her method 2. -/
namespace start1
open Jvm.ClassFile
def u (s : String) : CpInfo := .utf8 (stringToUtf16 s)
/-- a pool by its gaps: so many unusable entries, then the entry; so many at the end -/
def gap : Nat → List CpInfo → List CpInfo
  | 0, r => r
  | n + 1, r => .unusable :: gap n r
def poolList (es : List (Nat × CpInfo)) (last : Nat) : List CpInfo := es.foldr (fun e r => gap e.1 (e.2 :: r)) (gap last [])
def pool (es : List (Nat × CpInfo)) (last : Nat) : Array CpInfo := ⟨poolList es last⟩
def fileOf (pool : Array CpInfo) (this : Nat) (attrs : Array Attribute := #[]) (ms : Array MethodInfo := #[]) (fl : Nat := 33) (sup : Nat := 0) (ifs : Array Nat := #[]) (fds : Array FieldInfo := #[]) : ClassFile where
  minorVersion := 0
  majorVersion := 65
  constantPool := pool
  accessFlags := fl
  thisClass := this
  superClass := sup
  interfaces := ifs
  fields := fds
  methods := ms
  attributes := attrs
def plain (name : String) (sup : Option ClassId) : Class where
  name := name
  kind := .ordinary
  loader := none
  accessFlags := 33
  super := sup
  interfaces := #[]
  cf := none
  fields := #[]
  methods := #[]
  instanceTypes := #[]
  staticTypes := #[]
  resolved := #[]
  callSites := []
  init := .initialized
  statics := none
  mirror := none

def pool0 : Array CpInfo := pool [(5, u "<init>"), (0, u "()V"), (1, .class_ 10), (1, u "java/lang/Object"), (0, u "getClass"), (0, u "()Ljava/lang/Class;")] 111

def k0c0 : Code := { maxStack := 0, maxLocals := 1, code := object_method_1_code, exceptionTable := #[], attributes := #[] }
def k0m0 : Method := { name := "<init>", desc := "()V", sig := { parameters := [], returnType := none }, accessFlags := 1, code := some k0c0 }
def k0m1 : Method := { name := "getClass", desc := "()Ljava/lang/Class;", sig := { parameters := [], returnType := some (.object "java/lang/Class") }, accessFlags := 273, code := none }
/-- java/lang/Object -/
def k0 : Class := { plain "java/lang/Object" none with
  accessFlags := 33
  interfaces := #[]
  cf := some (fileOf pool0 8 #[] #[{ accessFlags := 1, nameIndex := 5, descriptorIndex := 6, attributes := #[] }, { accessFlags := 273, nameIndex := 11, descriptorIndex := 12, attributes := #[] }] 33 0 #[] #[])
  fields := #[]
  methods := #[k0m0, k0m1]
  instanceTypes := #[]
  staticTypes := #[]
  resolved := Array.replicate 124 none
  statics := none }

def pool1 : Array CpInfo := pool [(2, .class_ 4), (0, .nameAndType 5 6), (0, u "java/lang/Object"), (0, u "<init>"), (0, u "()V"), (0, .methodref 8 9), (0, .class_ 10), (0, .nameAndType 11 12), (0, u "beanforge/core/Recipe"), (0, u "called"), (0, u "(Lbeanforge/core/Preparation$Place;Lbeanforge/core/Overloads$Chosen;)V"), (0, .methodref 8 14), (0, .nameAndType 15 16), (0, u "constructed"), (0, u "(Lbeanforge/core/Preparation$Place;Lbeanforge/core/Overloads$Chosen;Ljava/lang/Object;Lbeanforge/core/Preparation$Maker;Ljava/lang/Object;)V"), (0, .methodref 8 3), (0, .class_ 19), (0, u "beanforge/core/Overloads$Chosen"), (0, .methodref 18 21), (0, .nameAndType 5 22), (0, u "(Ljava/lang/reflect/Executable;[Ljava/lang/Object;)V"), (0, .methodref 24 25), (0, .class_ 26), (0, .nameAndType 27 28), (0, u "java/lang/Integer"), (0, u "valueOf"), (0, u "(I)Ljava/lang/Integer;"), (0, .methodref 8 30), (0, .nameAndType 31 32), (0, u "constructs"), (0, u "()Z"), (0, .methodref 34 35), (0, .class_ 36), (0, .nameAndType 37 38), (0, u "beanforge/core/RecipeConstructsPinLaw"), (0, u "step"), (0, u "(Lbeanforge/core/Recipe;ILbeanforge/core/Overloads$Chosen;ZLjava/lang/Object;)Z"), (5, u "law"), (0, u "(IIII)Z")] 14

def k1m0 : Method := { name := "<init>", desc := "()V", sig := { parameters := [], returnType := none }, accessFlags := 2, code := none }
def k1c1 : Code := { maxStack := 6, maxLocals := 6, code := method_2_code, exceptionTable := #[], attributes := #[] }
def k1m1 : Method := { name := "step", desc := "(Lbeanforge/core/Recipe;ILbeanforge/core/Overloads$Chosen;ZLjava/lang/Object;)Z", sig := { parameters := [(.object "beanforge/core/Recipe"), .int, (.object "beanforge/core/Overloads$Chosen"), .boolean, (.object "java/lang/Object")], returnType := some .boolean }, accessFlags := 10, code := some k1c1 }
def k1c2 : Code := { maxStack := 5, maxLocals := 9, code := code, exceptionTable := #[], attributes := #[] }
def k1m2 : Method := { name := "law", desc := "(IIII)Z", sig := { parameters := [.int, .int, .int, .int], returnType := some .boolean }, accessFlags := 9, code := some k1c2 }
/-- beanforge/core/RecipeConstructsPinLaw -/
def k1 : Class := { plain "beanforge/core/RecipeConstructsPinLaw" (some 0) with
  accessFlags := 49
  interfaces := #[]
  cf := some (fileOf pool1 34 #[] #[{ accessFlags := 2, nameIndex := 5, descriptorIndex := 6, attributes := #[] }, { accessFlags := 10, nameIndex := 37, descriptorIndex := 38, attributes := #[] }, { accessFlags := 9, nameIndex := 44, descriptorIndex := 45, attributes := #[] }] 49 2 #[] #[])
  fields := #[]
  methods := #[k1m0, k1m1, k1m2]
  instanceTypes := #[]
  staticTypes := #[]
  resolved := Array.replicate 60 none
  statics := none }

def pool2 : Array CpInfo := pool [(1, .methodref 2 3), (0, .class_ 4), (0, .nameAndType 5 6), (0, u "java/lang/Object"), (0, u "<init>"), (0, u "()V"), (0, .class_ 8), (0, u "java/util/ArrayList"), (0, .methodref 7 3), (0, .fieldref 11 12), (0, .class_ 13), (0, .nameAndType 14 15), (0, u "beanforge/core/Recipe"), (0, u "calls"), (0, u "Ljava/util/List;"), (0, .fieldref 11 17), (0, .nameAndType 18 19), (0, u "constructionPlace"), (0, u "Lbeanforge/core/Preparation$Place;"), (0, .fieldref 11 21), (0, .nameAndType 22 23), (0, u "construction"), (0, u "Lbeanforge/core/Overloads$Chosen;"), (0, .fieldref 11 25), (0, .nameAndType 26 27), (0, u "factory"), (0, u "Ljava/lang/Object;"), (0, .fieldref 11 29), (0, .nameAndType 30 31), (0, u "maker"), (0, u "Lbeanforge/core/Preparation$Maker;"), (0, .methodref 2 33), (0, .nameAndType 34 35), (0, u "getClass"), (0, u "()Ljava/lang/Class;"), (0, .fieldref 11 37), (0, .nameAndType 38 39), (0, u "type"), (0, u "Ljava/lang/Class;"), (0, .class_ 41), (0, u "beanforge/core/Recipe$Call"), (0, .methodref 40 43), (0, .nameAndType 5 44), (0, u "(Lbeanforge/core/Preparation$Place;Lbeanforge/core/Overloads$Chosen;)V"), (0, .interfaceMethodref 46 47), (0, .class_ 48), (0, .nameAndType 49 50), (0, u "java/util/List"), (0, u "add"), (0, u "(Ljava/lang/Object;)Z"), (4, u "called"), (24, u "()Z"), (18, u "constructed"), (0, u "(Lbeanforge/core/Preparation$Place;Lbeanforge/core/Overloads$Chosen;Ljava/lang/Object;Lbeanforge/core/Preparation$Maker;Ljava/lang/Object;)V"), (2, u "constructs")] 20

def k2c0 : Code := { maxStack := 3, maxLocals := 1, code := prog_89_method_1_code, exceptionTable := #[], attributes := #[] }
def k2m0 : Method := { name := "<init>", desc := "()V", sig := { parameters := [], returnType := none }, accessFlags := 0, code := some k2c0 }
def k2c1 : Code := { maxStack := 2, maxLocals := 6, code := prog_89_method_2_code, exceptionTable := #[], attributes := #[] }
def k2m1 : Method := { name := "constructed", desc := "(Lbeanforge/core/Preparation$Place;Lbeanforge/core/Overloads$Chosen;Ljava/lang/Object;Lbeanforge/core/Preparation$Maker;Ljava/lang/Object;)V", sig := { parameters := [(.object "beanforge/core/Preparation$Place"), (.object "beanforge/core/Overloads$Chosen"), (.object "java/lang/Object"), (.object "beanforge/core/Preparation$Maker"), (.object "java/lang/Object")], returnType := none }, accessFlags := 0, code := some k2c1 }
def k2c2 : Code := { maxStack := 5, maxLocals := 3, code := prog_89_method_3_code, exceptionTable := #[], attributes := #[] }
def k2m2 : Method := { name := "called", desc := "(Lbeanforge/core/Preparation$Place;Lbeanforge/core/Overloads$Chosen;)V", sig := { parameters := [(.object "beanforge/core/Preparation$Place"), (.object "beanforge/core/Overloads$Chosen")], returnType := none }, accessFlags := 0, code := some k2c2 }
def k2c3 : Code := { maxStack := 1, maxLocals := 1, code := prog_89_method_4_code, exceptionTable := #[], attributes := #[] }
def k2m3 : Method := { name := "constructs", desc := "()Z", sig := { parameters := [], returnType := some .boolean }, accessFlags := 0, code := some k2c3 }
/-- beanforge/core/Recipe -/
def k2 : Class := { plain "beanforge/core/Recipe" (some 0) with
  accessFlags := 48
  interfaces := #[]
  cf := some (fileOf pool2 11 #[.nestMembers #[40]] #[{ accessFlags := 0, nameIndex := 5, descriptorIndex := 6, attributes := #[] }, { accessFlags := 0, nameIndex := 99, descriptorIndex := 100, attributes := #[] }, { accessFlags := 0, nameIndex := 55, descriptorIndex := 44, attributes := #[] }, { accessFlags := 0, nameIndex := 103, descriptorIndex := 80, attributes := #[] }] 48 2 #[] #[{ accessFlags := 2, nameIndex := 18, descriptorIndex := 19, attributes := #[] }, { accessFlags := 2, nameIndex := 22, descriptorIndex := 23, attributes := #[] }, { accessFlags := 2, nameIndex := 26, descriptorIndex := 27, attributes := #[] }, { accessFlags := 2, nameIndex := 30, descriptorIndex := 31, attributes := #[] }, { accessFlags := 2, nameIndex := 38, descriptorIndex := 39, attributes := #[] }, { accessFlags := 18, nameIndex := 14, descriptorIndex := 15, attributes := #[] }])
  fields := #[{ name := "constructionPlace", type := (.object "beanforge/core/Preparation$Place"), accessFlags := 2, slot := 0, constantValue := 0 }, { name := "construction", type := (.object "beanforge/core/Overloads$Chosen"), accessFlags := 2, slot := 1, constantValue := 0 }, { name := "factory", type := (.object "java/lang/Object"), accessFlags := 2, slot := 2, constantValue := 0 }, { name := "maker", type := (.object "beanforge/core/Preparation$Maker"), accessFlags := 2, slot := 3, constantValue := 0 }, { name := "type", type := (.object "java/lang/Class"), accessFlags := 2, slot := 4, constantValue := 0 }, { name := "calls", type := (.object "java/util/List"), accessFlags := 18, slot := 5, constantValue := 0 }]
  methods := #[k2m0, k2m1, k2m2, k2m3]
  instanceTypes := #[(.object "beanforge/core/Preparation$Place"), (.object "beanforge/core/Overloads$Chosen"), (.object "java/lang/Object"), (.object "beanforge/core/Preparation$Maker"), (.object "java/lang/Class"), (.object "java/util/List")]
  staticTypes := #[]
  resolved := ⟨List.replicate 40 none ++ [some (.cls 21), none, some (.method ⟨21, 0⟩)] ++ List.replicate 81 none⟩
  statics := none }

def pool3 : Array CpInfo := pool [(8, .class_ 10), (1, u "java/lang/Iterable"), (24, .class_ 36), (0, u "java/lang/Object")] 25

/-- java/lang/Iterable -/
def k3 : Class := { plain "java/lang/Iterable" (some 0) with
  accessFlags := 1537
  interfaces := #[]
  cf := some (fileOf pool3 8 #[] #[] 1537 35 #[] #[])
  fields := #[]
  methods := #[]
  instanceTypes := #[]
  staticTypes := #[]
  resolved := Array.replicate 62 none
  statics := none }

def pool4 : Array CpInfo := pool [(10, .class_ 12), (1, u "java/util/Collection"), (47, .class_ 61), (0, u "java/lang/Object"), (0, .class_ 63), (0, u "java/lang/Iterable")] 51

/-- java/util/Collection -/
def k4 : Class := { plain "java/util/Collection" (some 0) with
  accessFlags := 1537
  interfaces := #[3]
  cf := some (fileOf pool4 10 #[] #[] 1537 60 #[62] #[])
  fields := #[]
  methods := #[]
  instanceTypes := #[]
  staticTypes := #[]
  resolved := Array.replicate 115 none
  statics := none }

def pool5 : Array CpInfo := pool [(1, .methodref 2 3), (0, .class_ 4), (0, .nameAndType 5 6), (0, u "java/lang/Object"), (0, u "<init>"), (0, u "()V"), (1, .class_ 10), (1, u "java/util/AbstractCollection"), (66, .class_ 78), (0, u "java/util/Collection")] 81

def k5c0 : Code := { maxStack := 1, maxLocals := 1, code := jdk_22_method_1_code, exceptionTable := #[], attributes := #[] }
def k5m0 : Method := { name := "<init>", desc := "()V", sig := { parameters := [], returnType := none }, accessFlags := 4, code := some k5c0 }
/-- java/util/AbstractCollection -/
def k5 : Class := { plain "java/util/AbstractCollection" (some 0) with
  accessFlags := 1057
  interfaces := #[4]
  cf := some (fileOf pool5 8 #[] #[{ accessFlags := 4, nameIndex := 5, descriptorIndex := 6, attributes := #[] }] 1057 2 #[77] #[])
  fields := #[]
  methods := #[k5m0]
  instanceTypes := #[]
  staticTypes := #[]
  resolved := Array.replicate 160 none
  statics := none }

def pool6 : Array CpInfo := pool [(8, .class_ 10), (1, u "java/util/SequencedCollection"), (15, .class_ 27), (0, u "java/lang/Object"), (0, .class_ 29), (0, u "java/util/Collection")] 27

/-- java/util/SequencedCollection -/
def k6 : Class := { plain "java/util/SequencedCollection" (some 0) with
  accessFlags := 1537
  interfaces := #[4]
  cf := some (fileOf pool6 8 #[] #[] 1537 26 #[28] #[])
  fields := #[]
  methods := #[]
  instanceTypes := #[]
  staticTypes := #[]
  resolved := Array.replicate 57 none
  statics := none }

def pool7 : Array CpInfo := pool [(8, .class_ 10), (1, u "java/util/List"), (49, u "add"), (3, u "(Ljava/lang/Object;)Z"), (38, .class_ 104), (0, u "java/lang/Object"), (15, .class_ 121), (0, u "java/util/SequencedCollection")] 129

def k7m0 : Method := { name := "add", desc := "(Ljava/lang/Object;)Z", sig := { parameters := [(.object "java/lang/Object")], returnType := some .boolean }, accessFlags := 1025, code := none }
/-- java/util/List -/
def k7 : Class := { plain "java/util/List" (some 0) with
  accessFlags := 1537
  interfaces := #[6]
  cf := some (fileOf pool7 8 #[] #[{ accessFlags := 1025, nameIndex := 60, descriptorIndex := 64, attributes := #[] }] 1537 103 #[120] #[])
  fields := #[]
  methods := #[k7m0]
  instanceTypes := #[]
  staticTypes := #[]
  resolved := Array.replicate 251 none
  statics := none }

def pool8 : Array CpInfo := pool [(1, .methodref 2 3), (0, .class_ 4), (0, .nameAndType 5 6), (0, u "java/util/AbstractCollection"), (0, u "<init>"), (0, u "()V"), (0, .fieldref 8 9), (0, .class_ 10), (0, .nameAndType 11 12), (0, u "java/util/AbstractList"), (0, u "modCount"), (0, u "I"), (64, .class_ 78), (0, u "java/util/AbstractList$Itr"), (3, .class_ 83), (0, u "java/util/AbstractList$ListItr"), (9, .class_ 94), (0, u "java/util/AbstractList$RandomAccessSubList"), (3, .class_ 99), (0, u "java/util/AbstractList$SubList"), (33, .class_ 134), (0, u "java/util/List"), (73, .class_ 209), (0, u "java/util/AbstractList$SubList$1"), (0, .class_ 211), (0, u "java/util/AbstractList$RandomAccessSpliterator")] 6

def k8c0 : Code := { maxStack := 2, maxLocals := 1, code := jdk_39_method_1_code, exceptionTable := #[], attributes := #[] }
def k8m0 : Method := { name := "<init>", desc := "()V", sig := { parameters := [], returnType := none }, accessFlags := 4, code := some k8c0 }
/-- java/util/AbstractList -/
def k8 : Class := { plain "java/util/AbstractList" (some 5) with
  accessFlags := 1057
  interfaces := #[7]
  cf := some (fileOf pool8 8 #[.nestMembers #[93, 98, 208, 210, 82, 77]] #[{ accessFlags := 4, nameIndex := 5, descriptorIndex := 6, attributes := #[] }] 1057 2 #[133] #[{ accessFlags := 132, nameIndex := 11, descriptorIndex := 12, attributes := #[] }])
  fields := #[{ name := "modCount", type := .int, accessFlags := 132, slot := 0, constantValue := 0 }]
  methods := #[k8m0]
  instanceTypes := #[.int]
  staticTypes := #[]
  resolved := Array.replicate 218 none
  statics := none }

def pool9 : Array CpInfo := pool [(1, .class_ 2), (0, u "java/util/RandomAccess"), (0, .class_ 4), (0, u "java/lang/Object")] 2

/-- java/util/RandomAccess -/
def k9 : Class := { plain "java/util/RandomAccess" (some 0) with
  accessFlags := 1537
  interfaces := #[]
  cf := some (fileOf pool9 1 #[] #[] 1537 3 #[] #[])
  fields := #[]
  methods := #[]
  instanceTypes := #[]
  staticTypes := #[]
  resolved := Array.replicate 7 none
  statics := none }

def pool10 : Array CpInfo := pool [(1, .class_ 2), (0, u "java/lang/Cloneable"), (0, .class_ 4), (0, u "java/lang/Object")] 2

/-- java/lang/Cloneable -/
def k10 : Class := { plain "java/lang/Cloneable" (some 0) with
  accessFlags := 1537
  interfaces := #[]
  cf := some (fileOf pool10 1 #[] #[] 1537 3 #[] #[])
  fields := #[]
  methods := #[]
  instanceTypes := #[]
  staticTypes := #[]
  resolved := Array.replicate 7 none
  statics := none }

def pool11 : Array CpInfo := pool [(1, .class_ 2), (0, u "java/io/Serializable"), (0, .class_ 4), (0, u "java/lang/Object")] 2

/-- java/io/Serializable -/
def k11 : Class := { plain "java/io/Serializable" (some 0) with
  accessFlags := 1537
  interfaces := #[]
  cf := some (fileOf pool11 1 #[] #[] 1537 3 #[] #[])
  fields := #[]
  methods := #[]
  instanceTypes := #[]
  staticTypes := #[]
  resolved := Array.replicate 7 none
  statics := none }

def pool12 : Array CpInfo := pool [(1, .methodref 2 3), (0, .class_ 4), (0, .nameAndType 5 6), (0, u "java/util/AbstractList"), (0, u "<init>"), (0, u "()V"), (0, .class_ 8), (0, u "java/lang/Object"), (0, .fieldref 10 11), (0, .class_ 12), (0, .nameAndType 13 14), (0, u "java/util/ArrayList"), (0, u "elementData"), (0, u "[Ljava/lang/Object;"), (2, u "EMPTY_ELEMENTDATA"), (21, .fieldref 10 40), (0, .nameAndType 41 14), (0, u "DEFAULTCAPACITY_EMPTY_ELEMENTDATA"), (5, u "()[Ljava/lang/Object;"), (0, .fieldref 10 49), (0, .nameAndType 50 51), (0, u "size"), (0, u "I"), (11, .fieldref 10 64), (0, .nameAndType 65 51), (0, u "modCount"), (3, .methodref 10 70), (0, .nameAndType 71 72), (0, u "grow"), (0, u "(I)[Ljava/lang/Object;"), (6, .methodref 80 81), (0, .class_ 82), (0, .nameAndType 83 84), (0, u "java/lang/Math"), (0, u "max"), (0, u "(II)I"), (11, u "(Ljava/lang/Object;)Z"), (32, .methodref 10 130), (0, .nameAndType 71 47), (0, .methodref 10 132), (0, .nameAndType 133 134), (0, u "add"), (0, u "(Ljava/lang/Object;[Ljava/lang/Object;I)V"), (13, .class_ 149), (0, u "java/util/List"), (112, .class_ 263), (0, u "java/util/ArrayList$ListItr"), (3, .class_ 268), (0, u "java/util/ArrayList$Itr"), (7, .class_ 277), (0, u "java/util/ArrayList$SubList"), (12, .class_ 291), (0, u "java/util/ArrayList$ArrayListSpliterator"), (37, .class_ 330), (0, u "java/util/RandomAccess"), (0, .class_ 332), (0, u "java/lang/Cloneable"), (0, .class_ 334), (0, u "java/io/Serializable"), (0, u "serialVersionUID"), (0, u "J"), (3, u "DEFAULT_CAPACITY"), (159, .class_ 501), (0, u "java/util/ArrayList$SubList$2"), (0, .class_ 503), (0, u "java/util/ArrayList$SubList$1")] 5

def k12c0 : Code := { maxStack := 2, maxLocals := 1, code := jdk_38_method_2_code, exceptionTable := #[], attributes := #[] }
def k12m0 : Method := { name := "<init>", desc := "()V", sig := { parameters := [], returnType := none }, accessFlags := 1, code := some k12c0 }
def k12c1 : Code := { maxStack := 4, maxLocals := 4, code := jdk_38_method_6_code, exceptionTable := #[], attributes := #[] }
def k12m1 : Method := { name := "grow", desc := "(I)[Ljava/lang/Object;", sig := { parameters := [.int], returnType := some (.array (.object "java/lang/Object")) }, accessFlags := 2, code := some k12c1 }
def k12c2 : Code := { maxStack := 3, maxLocals := 1, code := jdk_38_method_7_code, exceptionTable := #[], attributes := #[] }
def k12m2 : Method := { name := "grow", desc := "()[Ljava/lang/Object;", sig := { parameters := [], returnType := some (.array (.object "java/lang/Object")) }, accessFlags := 2, code := some k12c2 }
def k12c3 : Code := { maxStack := 3, maxLocals := 4, code := jdk_38_method_24_code, exceptionTable := #[], attributes := #[] }
def k12m3 : Method := { name := "add", desc := "(Ljava/lang/Object;[Ljava/lang/Object;I)V", sig := { parameters := [(.object "java/lang/Object"), (.array (.object "java/lang/Object")), .int], returnType := none }, accessFlags := 2, code := some k12c3 }
def k12c4 : Code := { maxStack := 4, maxLocals := 2, code := jdk_38_method_25_code, exceptionTable := #[], attributes := #[] }
def k12m4 : Method := { name := "add", desc := "(Ljava/lang/Object;)Z", sig := { parameters := [(.object "java/lang/Object")], returnType := some .boolean }, accessFlags := 1, code := some k12c4 }
/-- java/util/ArrayList -/
def k12 : Class := { plain "java/util/ArrayList" (some 8) with
  accessFlags := 33
  interfaces := #[7, 9, 10, 11]
  cf := some (fileOf pool12 10 #[.nestMembers #[290, 276, 500, 502, 262, 267]] #[{ accessFlags := 1, nameIndex := 5, descriptorIndex := 6, attributes := #[] }, { accessFlags := 2, nameIndex := 71, descriptorIndex := 72, attributes := #[] }, { accessFlags := 2, nameIndex := 71, descriptorIndex := 47, attributes := #[] }, { accessFlags := 2, nameIndex := 133, descriptorIndex := 134, attributes := #[] }, { accessFlags := 1, nameIndex := 133, descriptorIndex := 96, attributes := #[] }] 33 2 #[148, 329, 331, 333] #[{ accessFlags := 26, nameIndex := 335, descriptorIndex := 336, attributes := #[] }, { accessFlags := 26, nameIndex := 340, descriptorIndex := 51, attributes := #[] }, { accessFlags := 26, nameIndex := 17, descriptorIndex := 14, attributes := #[] }, { accessFlags := 26, nameIndex := 41, descriptorIndex := 14, attributes := #[] }, { accessFlags := 128, nameIndex := 13, descriptorIndex := 14, attributes := #[] }, { accessFlags := 2, nameIndex := 50, descriptorIndex := 51, attributes := #[] }])
  fields := #[{ name := "serialVersionUID", type := .long, accessFlags := 26, slot := 0, constantValue := 0 }, { name := "DEFAULT_CAPACITY", type := .int, accessFlags := 26, slot := 1, constantValue := 0 }, { name := "EMPTY_ELEMENTDATA", type := (.array (.object "java/lang/Object")), accessFlags := 26, slot := 2, constantValue := 0 }, { name := "DEFAULTCAPACITY_EMPTY_ELEMENTDATA", type := (.array (.object "java/lang/Object")), accessFlags := 26, slot := 3, constantValue := 0 }, { name := "elementData", type := (.array (.object "java/lang/Object")), accessFlags := 128, slot := 1, constantValue := 0 }, { name := "size", type := .int, accessFlags := 2, slot := 2, constantValue := 0 }]
  methods := #[k12m0, k12m1, k12m2, k12m3, k12m4]
  instanceTypes := #[.int, (.array (.object "java/lang/Object")), .int]
  staticTypes := #[.long, .int, (.array (.object "java/lang/Object")), (.array (.object "java/lang/Object"))]
  resolved := Array.replicate 509 none
  statics := some 0 }

def pool13 : Array CpInfo := pool [(1, .methodref 2 3), (0, .class_ 4), (0, .nameAndType 5 6), (0, u "java/lang/Object"), (0, u "<init>"), (0, u "()V"), (0, .class_ 8), (0, u "java/lang/Record")] 13

def k13c0 : Code := { maxStack := 1, maxLocals := 1, code := jdk_30_method_1_code, exceptionTable := #[], attributes := #[] }
def k13m0 : Method := { name := "<init>", desc := "()V", sig := { parameters := [], returnType := none }, accessFlags := 4, code := some k13c0 }
/-- java/lang/Record -/
def k13 : Class := { plain "java/lang/Record" (some 0) with
  accessFlags := 1057
  interfaces := #[]
  cf := some (fileOf pool13 7 #[] #[{ accessFlags := 4, nameIndex := 5, descriptorIndex := 6, attributes := #[] }] 1057 2 #[] #[])
  fields := #[]
  methods := #[k13m0]
  instanceTypes := #[]
  staticTypes := #[]
  resolved := Array.replicate 22 none
  statics := none }

def pool14 : Array CpInfo := pool [(1, .methodref 2 3), (0, .class_ 4), (0, .nameAndType 5 6), (0, u "java/lang/Record"), (0, u "<init>"), (0, u "()V"), (0, .fieldref 8 9), (0, .class_ 10), (0, .nameAndType 11 12), (0, u "beanforge/core/Overloads$Chosen"), (0, u "executable"), (0, u "Ljava/lang/reflect/Executable;"), (0, .fieldref 8 14), (0, .nameAndType 15 16), (0, u "arguments"), (0, u "[Ljava/lang/Object;"), (41, u "(Ljava/lang/reflect/Executable;[Ljava/lang/Object;)V"), (21, .class_ 81), (0, u "beanforge/core/Overloads")] 23

def k14c0 : Code := { maxStack := 2, maxLocals := 3, code := prog_75_method_1_code, exceptionTable := #[], attributes := #[] }
def k14m0 : Method := { name := "<init>", desc := "(Ljava/lang/reflect/Executable;[Ljava/lang/Object;)V", sig := { parameters := [(.object "java/lang/reflect/Executable"), (.array (.object "java/lang/Object"))], returnType := none }, accessFlags := 0, code := some k14c0 }
/-- beanforge/core/Overloads$Chosen -/
def k14 : Class := { plain "beanforge/core/Overloads$Chosen" (some 13) with
  accessFlags := 48
  interfaces := #[]
  cf := some (fileOf pool14 8 #[.nestHost 80] #[{ accessFlags := 0, nameIndex := 5, descriptorIndex := 58, attributes := #[] }] 48 2 #[] #[{ accessFlags := 18, nameIndex := 11, descriptorIndex := 12, attributes := #[] }, { accessFlags := 18, nameIndex := 15, descriptorIndex := 16, attributes := #[] }])
  fields := #[{ name := "executable", type := (.object "java/lang/reflect/Executable"), accessFlags := 18, slot := 0, constantValue := 0 }, { name := "arguments", type := (.array (.object "java/lang/Object")), accessFlags := 18, slot := 1, constantValue := 0 }]
  methods := #[k14m0]
  instanceTypes := #[(.object "java/lang/reflect/Executable"), (.array (.object "java/lang/Object"))]
  staticTypes := #[]
  resolved := Array.replicate 105 none
  statics := none }

def pool15 : Array CpInfo := pool [(1, .methodref 2 3), (0, .class_ 4), (0, .nameAndType 5 6), (0, u "java/lang/Object"), (0, u "<init>"), (0, u "()V"), (1, .class_ 10), (1, u "java/lang/Number"), (2, .class_ 14), (0, u "java/io/Serializable"), (0, u "serialVersionUID"), (0, u "J")] 20

def k15c0 : Code := { maxStack := 1, maxLocals := 1, code := jdk_18_method_1_code, exceptionTable := #[], attributes := #[] }
def k15m0 : Method := { name := "<init>", desc := "()V", sig := { parameters := [], returnType := none }, accessFlags := 1, code := some k15c0 }
/-- java/lang/Number -/
def k15 : Class := { plain "java/lang/Number" (some 0) with
  accessFlags := 1057
  interfaces := #[11]
  cf := some (fileOf pool15 8 #[] #[{ accessFlags := 1, nameIndex := 5, descriptorIndex := 6, attributes := #[] }] 1057 2 #[13] #[{ accessFlags := 26, nameIndex := 15, descriptorIndex := 16, attributes := #[] }])
  fields := #[{ name := "serialVersionUID", type := .long, accessFlags := 26, slot := 0, constantValue := 0 }]
  methods := #[k15m0]
  instanceTypes := #[]
  staticTypes := #[.long]
  resolved := Array.replicate 37 none
  statics := none }

def pool16 : Array CpInfo := pool [(1, .class_ 2), (0, u "java/lang/Comparable"), (0, .class_ 4), (0, u "java/lang/Object")] 7

/-- java/lang/Comparable -/
def k16 : Class := { plain "java/lang/Comparable" (some 0) with
  accessFlags := 1537
  interfaces := #[]
  cf := some (fileOf pool16 1 #[] #[] 1537 3 #[] #[])
  fields := #[]
  methods := #[]
  instanceTypes := #[]
  staticTypes := #[]
  resolved := Array.replicate 12 none
  statics := none }

def pool17 : Array CpInfo := pool [(1, .class_ 2), (0, u "java/lang/constant/Constable"), (0, .class_ 4), (0, u "java/lang/Object")] 6

/-- java/lang/constant/Constable -/
def k17 : Class := { plain "java/lang/constant/Constable" (some 0) with
  accessFlags := 1537
  interfaces := #[]
  cf := some (fileOf pool17 1 #[] #[] 1537 3 #[] #[])
  fields := #[]
  methods := #[]
  instanceTypes := #[]
  staticTypes := #[]
  resolved := Array.replicate 11 none
  statics := none }

def pool18 : Array CpInfo := pool [(1, .class_ 2), (0, u "java/lang/constant/ConstantDesc"), (0, .class_ 4), (0, u "java/lang/Object")] 32

/-- java/lang/constant/ConstantDesc -/
def k18 : Class := { plain "java/lang/constant/ConstantDesc" (some 0) with
  accessFlags := 1537
  interfaces := #[]
  cf := some (fileOf pool18 1 #[] #[] 1537 3 #[] #[])
  fields := #[]
  methods := #[]
  instanceTypes := #[]
  staticTypes := #[]
  resolved := Array.replicate 37 none
  statics := none }

def pool19 : Array CpInfo := pool [(1, .class_ 2), (0, u "java/lang/Integer"), (16, u "digits"), (0, u "[C"), (46, u "<init>"), (17, u "DigitOnes"), (0, u "[B"), (2, u "DigitTens"), (10, .nameAndType 67 101), (0, u "()V"), (85, u "valueOf"), (0, u "(I)Ljava/lang/Integer;"), (0, .class_ 190), (0, u "java/lang/Integer$IntegerCache"), (0, .fieldref 189 192), (0, .nameAndType 193 194), (0, u "high"), (0, u "I"), (0, .fieldref 189 196), (0, .nameAndType 197 198), (0, u "cache"), (0, u "[Ljava/lang/Integer;"), (0, .methodref 1 200), (0, .nameAndType 67 201), (0, u "(I)V"), (0, .methodref 203 100), (0, .class_ 204), (0, u "java/lang/Number"), (0, .fieldref 1 206), (0, .nameAndType 207 194), (0, u "value"), (94, u "TYPE"), (0, u "Ljava/lang/Class;"), (0, .class_ 305), (0, u "java/lang/Comparable"), (0, .class_ 307), (0, u "java/lang/constant/Constable"), (0, .class_ 309), (0, u "java/lang/constant/ConstantDesc"), (0, u "MIN_VALUE"), (1, u "MAX_VALUE"), (3, u "SIZE"), (1, u "BYTES"), (1, u "serialVersionUID"), (0, u "J")] 131

def k19c0 : Code := { maxStack := 3, maxLocals := 1, code := jdk_33_method_22_code, exceptionTable := #[], attributes := #[] }
def k19m0 : Method := { name := "valueOf", desc := "(I)Ljava/lang/Integer;", sig := { parameters := [.int], returnType := some (.object "java/lang/Integer") }, accessFlags := 9, code := some k19c0 }
def k19c1 : Code := { maxStack := 2, maxLocals := 2, code := jdk_33_method_23_code, exceptionTable := #[], attributes := #[] }
def k19m1 : Method := { name := "<init>", desc := "(I)V", sig := { parameters := [.int], returnType := none }, accessFlags := 1, code := some k19c1 }
/-- java/lang/Integer -/
def k19 : Class := { plain "java/lang/Integer" (some 15) with
  accessFlags := 49
  interfaces := #[16, 17, 18]
  cf := some (fileOf pool19 1 #[.nestMembers #[189]] #[{ accessFlags := 9, nameIndex := 187, descriptorIndex := 188, attributes := #[] }, { accessFlags := 1, nameIndex := 67, descriptorIndex := 201, attributes := #[] }] 49 203 #[304, 306, 308] #[{ accessFlags := 25, nameIndex := 310, descriptorIndex := 194, attributes := #[] }, { accessFlags := 25, nameIndex := 312, descriptorIndex := 194, attributes := #[] }, { accessFlags := 25, nameIndex := 302, descriptorIndex := 303, attributes := #[] }, { accessFlags := 24, nameIndex := 19, descriptorIndex := 20, attributes := #[] }, { accessFlags := 24, nameIndex := 89, descriptorIndex := 86, attributes := #[] }, { accessFlags := 24, nameIndex := 85, descriptorIndex := 86, attributes := #[] }, { accessFlags := 18, nameIndex := 207, descriptorIndex := 194, attributes := #[] }, { accessFlags := 25, nameIndex := 316, descriptorIndex := 194, attributes := #[] }, { accessFlags := 25, nameIndex := 318, descriptorIndex := 194, attributes := #[] }, { accessFlags := 26, nameIndex := 320, descriptorIndex := 321, attributes := #[] }])
  fields := #[{ name := "MIN_VALUE", type := .int, accessFlags := 25, slot := 0, constantValue := 0 }, { name := "MAX_VALUE", type := .int, accessFlags := 25, slot := 1, constantValue := 0 }, { name := "TYPE", type := (.object "java/lang/Class"), accessFlags := 25, slot := 2, constantValue := 0 }, { name := "digits", type := (.array .char), accessFlags := 24, slot := 3, constantValue := 0 }, { name := "DigitTens", type := (.array .byte), accessFlags := 24, slot := 4, constantValue := 0 }, { name := "DigitOnes", type := (.array .byte), accessFlags := 24, slot := 5, constantValue := 0 }, { name := "value", type := .int, accessFlags := 18, slot := 0, constantValue := 0 }, { name := "SIZE", type := .int, accessFlags := 25, slot := 6, constantValue := 0 }, { name := "BYTES", type := .int, accessFlags := 25, slot := 7, constantValue := 0 }, { name := "serialVersionUID", type := .long, accessFlags := 26, slot := 8, constantValue := 0 }]
  methods := #[k19m0, k19m1]
  instanceTypes := #[.int]
  staticTypes := #[.int, .int, (.object "java/lang/Class"), (.array .char), (.array .byte), (.array .byte), .int, .int, .long]
  resolved := Array.replicate 453 none
  mirror := some 2
  statics := none }

def pool20 : Array CpInfo := pool [(2, .class_ 4), (1, u "java/lang/Object"), (0, u "<init>"), (0, u "()V"), (0, .class_ 8), (0, u "java/lang/Integer"), (7, .class_ 18), (1, u "java/lang/Integer$IntegerCache"), (0, u "$assertionsDisabled"), (0, u "Z"), (26, u "high"), (0, u "I"), (8, u "archivedCache"), (0, u "[Ljava/lang/Integer;"), (12, u "cache"), (0, u "low")] 27

def k20m0 : Method := { name := "<init>", desc := "()V", sig := { parameters := [], returnType := none }, accessFlags := 2, code := none }
/-- java/lang/Integer$IntegerCache -/
def k20 : Class := { plain "java/lang/Integer$IntegerCache" (some 0) with
  accessFlags := 48
  interfaces := #[]
  cf := some (fileOf pool20 16 #[.nestHost 7] #[{ accessFlags := 2, nameIndex := 5, descriptorIndex := 6, attributes := #[] }] 48 2 #[] #[{ accessFlags := 24, nameIndex := 72, descriptorIndex := 48, attributes := #[] }, { accessFlags := 24, nameIndex := 47, descriptorIndex := 48, attributes := #[] }, { accessFlags := 24, nameIndex := 71, descriptorIndex := 58, attributes := #[] }, { accessFlags := 8, nameIndex := 57, descriptorIndex := 58, attributes := #[] }, { accessFlags := 4120, nameIndex := 19, descriptorIndex := 20, attributes := #[] }])
  fields := #[{ name := "low", type := .int, accessFlags := 24, slot := 0, constantValue := 0 }, { name := "high", type := .int, accessFlags := 24, slot := 1, constantValue := 0 }, { name := "cache", type := (.array (.object "java/lang/Integer")), accessFlags := 24, slot := 2, constantValue := 0 }, { name := "archivedCache", type := (.array (.object "java/lang/Integer")), accessFlags := 8, slot := 3, constantValue := 0 }, { name := "$assertionsDisabled", type := .boolean, accessFlags := 4120, slot := 4, constantValue := 0 }]
  methods := #[k20m0]
  instanceTypes := #[]
  staticTypes := #[.int, .int, (.array (.object "java/lang/Integer")), (.array (.object "java/lang/Integer")), .boolean]
  resolved := Array.replicate 100 none
  statics := some 1 }

def pool21 : Array CpInfo := pool [(1, .methodref 2 3), (0, .class_ 4), (0, .nameAndType 5 6), (0, u "java/lang/Record"), (0, u "<init>"), (0, u "()V"), (0, .fieldref 8 9), (0, .class_ 10), (0, .nameAndType 11 12), (0, u "beanforge/core/Recipe$Call"), (0, u "place"), (0, u "Lbeanforge/core/Preparation$Place;"), (0, .fieldref 8 14), (0, .nameAndType 15 16), (0, u "chosen"), (0, u "Lbeanforge/core/Overloads$Chosen;"), (14, u "(Lbeanforge/core/Preparation$Place;Lbeanforge/core/Overloads$Chosen;)V"), (13, .class_ 46), (0, u "beanforge/core/Recipe")] 30

def k21c0 : Code := { maxStack := 2, maxLocals := 3, code := prog_90_method_1_code, exceptionTable := #[], attributes := #[] }
def k21m0 : Method := { name := "<init>", desc := "(Lbeanforge/core/Preparation$Place;Lbeanforge/core/Overloads$Chosen;)V", sig := { parameters := [(.object "beanforge/core/Preparation$Place"), (.object "beanforge/core/Overloads$Chosen")], returnType := none }, accessFlags := 2, code := some k21c0 }
/-- beanforge/core/Recipe$Call -/
def k21 : Class := { plain "beanforge/core/Recipe$Call" (some 13) with
  accessFlags := 48
  interfaces := #[]
  cf := some (fileOf pool21 8 #[.nestHost 45] #[{ accessFlags := 2, nameIndex := 5, descriptorIndex := 31, attributes := #[] }] 48 2 #[] #[{ accessFlags := 18, nameIndex := 11, descriptorIndex := 12, attributes := #[] }, { accessFlags := 18, nameIndex := 15, descriptorIndex := 16, attributes := #[] }])
  fields := #[{ name := "place", type := (.object "beanforge/core/Preparation$Place"), accessFlags := 18, slot := 0, constantValue := 0 }, { name := "chosen", type := (.object "beanforge/core/Overloads$Chosen"), accessFlags := 18, slot := 1, constantValue := 0 }]
  methods := #[k21m0]
  instanceTypes := #[(.object "beanforge/core/Preparation$Place"), (.object "beanforge/core/Overloads$Chosen")]
  staticTypes := #[]
  resolved := Array.replicate 77 none
  statics := none }

def pool22 : Array CpInfo := pool [(1, .class_ 2), (0, u "java/lang/Math"), (1, .class_ 6), (1, u "java/lang/Object"), (0, u "<init>"), (0, u "()V"), (89, .class_ 100), (1, u "java/lang/Math$RandomNumberGeneratorHolder"), (71, u "negativeZeroFloatBits"), (0, u "J"), (2, u "negativeZeroDoubleBits"), (21, u "max"), (46, u "$assertionsDisabled"), (0, u "Z"), (88, u "(II)I"), (2, u "twoToTheDoubleScaleDown"), (0, u "D"), (4, u "twoToTheDoubleScaleUp"), (9, u "E"), (3, u "PI"), (2, u "TAU"), (2, u "DEGREES_TO_RADIANS"), (0, u "RADIANS_TO_DEGREES")] 94

def k22m0 : Method := { name := "<init>", desc := "()V", sig := { parameters := [], returnType := none }, accessFlags := 2, code := none }
def k22c1 : Code := { maxStack := 2, maxLocals := 2, code := jdk_29_method_65_code, exceptionTable := #[], attributes := #[] }
def k22m1 : Method := { name := "max", desc := "(II)I", sig := { parameters := [.int, .int], returnType := some .int }, accessFlags := 9, code := some k22c1 }
/-- java/lang/Math -/
def k22 : Class := { plain "java/lang/Math" (some 0) with
  accessFlags := 49
  interfaces := #[]
  cf := some (fileOf pool22 1 #[.nestMembers #[98]] #[{ accessFlags := 2, nameIndex := 7, descriptorIndex := 8, attributes := #[] }, { accessFlags := 9, nameIndex := 198, descriptorIndex := 335, attributes := #[] }] 49 4 #[] #[{ accessFlags := 25, nameIndex := 354, descriptorIndex := 339, attributes := #[] }, { accessFlags := 25, nameIndex := 358, descriptorIndex := 339, attributes := #[] }, { accessFlags := 25, nameIndex := 361, descriptorIndex := 339, attributes := #[] }, { accessFlags := 26, nameIndex := 364, descriptorIndex := 339, attributes := #[] }, { accessFlags := 26, nameIndex := 365, descriptorIndex := 339, attributes := #[] }, { accessFlags := 26, nameIndex := 172, descriptorIndex := 173, attributes := #[] }, { accessFlags := 26, nameIndex := 176, descriptorIndex := 173, attributes := #[] }, { accessFlags := 8, nameIndex := 344, descriptorIndex := 339, attributes := #[] }, { accessFlags := 8, nameIndex := 338, descriptorIndex := 339, attributes := #[] }, { accessFlags := 4120, nameIndex := 245, descriptorIndex := 246, attributes := #[] }])
  fields := #[{ name := "E", type := .double, accessFlags := 25, slot := 0, constantValue := 0 }, { name := "PI", type := .double, accessFlags := 25, slot := 1, constantValue := 0 }, { name := "TAU", type := .double, accessFlags := 25, slot := 2, constantValue := 0 }, { name := "DEGREES_TO_RADIANS", type := .double, accessFlags := 26, slot := 3, constantValue := 0 }, { name := "RADIANS_TO_DEGREES", type := .double, accessFlags := 26, slot := 4, constantValue := 0 }, { name := "negativeZeroFloatBits", type := .long, accessFlags := 26, slot := 5, constantValue := 0 }, { name := "negativeZeroDoubleBits", type := .long, accessFlags := 26, slot := 6, constantValue := 0 }, { name := "twoToTheDoubleScaleUp", type := .double, accessFlags := 8, slot := 7, constantValue := 0 }, { name := "twoToTheDoubleScaleDown", type := .double, accessFlags := 8, slot := 8, constantValue := 0 }, { name := "$assertionsDisabled", type := .boolean, accessFlags := 4120, slot := 9, constantValue := 0 }]
  methods := #[k22m0, k22m1]
  instanceTypes := #[]
  staticTypes := #[.double, .double, .double, .double, .double, .long, .long, .double, .double, .boolean]
  resolved := Array.replicate 460 none
  statics := none }

/-- the primitive byte -/
def k23 : Class := { plain "byte" none with kind := .primitive 'B', accessFlags := 0x411 }
/-- [B -/
def k24 : Class := { plain "[B" (some 0) with kind := .array 23 .byte, interfaces := #[10, 11], accessFlags := 1041 }

/-- the primitive int -/
def k25 : Class := { plain "int" none with kind := .primitive 'I', accessFlags := 0x411 }
/-- [I -/
def k26 : Class := { plain "[I" (some 0) with kind := .array 25 .int, interfaces := #[10, 11], accessFlags := 1041 }

/-- [Ljava/lang/Integer; -/
def k27 : Class := { plain "[Ljava/lang/Integer;" (some 0) with kind := .array 19 (.object "java/lang/Integer"), interfaces := #[10, 11], accessFlags := 1041 }

/-- [Ljava/lang/Object; -/
def k28 : Class := { plain "[Ljava/lang/Object;" (some 0) with kind := .array 0 (.object "java/lang/Object"), interfaces := #[10, 11], accessFlags := 1041 }

def heap : Heap := #[{ cls := 12, slots := #[.long 0, .int 0, .ref 260, .ref 261], vm := .statics 12 },
  { cls := 20, slots := #[.int 0, .int 127, .ref 3, .null, .int 0], vm := .statics 20 },
  { cls := 0, slots := #[], vm := .mirror 19 },
  { cls := 27, slots := #[.ref 4, .ref 5, .ref 6, .ref 7, .ref 8, .ref 9, .ref 10, .ref 11, .ref 12, .ref 13, .ref 14, .ref 15, .ref 16, .ref 17, .ref 18, .ref 19, .ref 20, .ref 21, .ref 22, .ref 23, .ref 24, .ref 25, .ref 26, .ref 27, .ref 28, .ref 29, .ref 30, .ref 31, .ref 32, .ref 33, .ref 34, .ref 35, .ref 36, .ref 37, .ref 38, .ref 39, .ref 40, .ref 41, .ref 42, .ref 43, .ref 44, .ref 45, .ref 46, .ref 47, .ref 48, .ref 49, .ref 50, .ref 51, .ref 52, .ref 53, .ref 54, .ref 55, .ref 56, .ref 57, .ref 58, .ref 59, .ref 60, .ref 61, .ref 62, .ref 63, .ref 64, .ref 65, .ref 66, .ref 67, .ref 68, .ref 69, .ref 70, .ref 71, .ref 72, .ref 73, .ref 74, .ref 75, .ref 76, .ref 77, .ref 78, .ref 79, .ref 80, .ref 81, .ref 82, .ref 83, .ref 84, .ref 85, .ref 86, .ref 87, .ref 88, .ref 89, .ref 90, .ref 91, .ref 92, .ref 93, .ref 94, .ref 95, .ref 96, .ref 97, .ref 98, .ref 99, .ref 100, .ref 101, .ref 102, .ref 103, .ref 104, .ref 105, .ref 106, .ref 107, .ref 108, .ref 109, .ref 110, .ref 111, .ref 112, .ref 113, .ref 114, .ref 115, .ref 116, .ref 117, .ref 118, .ref 119, .ref 120, .ref 121, .ref 122, .ref 123, .ref 124, .ref 125, .ref 126, .ref 127, .ref 128, .ref 129, .ref 130, .ref 131, .ref 132, .ref 133, .ref 134, .ref 135, .ref 136, .ref 137, .ref 138, .ref 139, .ref 140, .ref 141, .ref 142, .ref 143, .ref 144, .ref 145, .ref 146, .ref 147, .ref 148, .ref 149, .ref 150, .ref 151, .ref 152, .ref 153, .ref 154, .ref 155, .ref 156, .ref 157, .ref 158, .ref 159, .ref 160, .ref 161, .ref 162, .ref 163, .ref 164, .ref 165, .ref 166, .ref 167, .ref 168, .ref 169, .ref 170, .ref 171, .ref 172, .ref 173, .ref 174, .ref 175, .ref 176, .ref 177, .ref 178, .ref 179, .ref 180, .ref 181, .ref 182, .ref 183, .ref 184, .ref 185, .ref 186, .ref 187, .ref 188, .ref 189, .ref 190, .ref 191, .ref 192, .ref 193, .ref 194, .ref 195, .ref 196, .ref 197, .ref 198, .ref 199, .ref 200, .ref 201, .ref 202, .ref 203, .ref 204, .ref 205, .ref 206, .ref 207, .ref 208, .ref 209, .ref 210, .ref 211, .ref 212, .ref 213, .ref 214, .ref 215, .ref 216, .ref 217, .ref 218, .ref 219, .ref 220, .ref 221, .ref 222, .ref 223, .ref 224, .ref 225, .ref 226, .ref 227, .ref 228, .ref 229, .ref 230, .ref 231, .ref 232, .ref 233, .ref 234, .ref 235, .ref 236, .ref 237, .ref 238, .ref 239, .ref 240, .ref 241, .ref 242, .ref 243, .ref 244, .ref 245, .ref 246, .ref 247, .ref 248, .ref 249, .ref 250, .ref 251, .ref 252, .ref 253, .ref 254, .ref 255, .ref 256, .ref 257, .ref 258, .ref 259], vm := .none },
  { cls := 19, slots := #[.int (-128)], vm := .none },
  { cls := 19, slots := #[.int (-127)], vm := .none },
  { cls := 19, slots := #[.int (-126)], vm := .none },
  { cls := 19, slots := #[.int (-125)], vm := .none },
  { cls := 19, slots := #[.int (-124)], vm := .none },
  { cls := 19, slots := #[.int (-123)], vm := .none },
  { cls := 19, slots := #[.int (-122)], vm := .none },
  { cls := 19, slots := #[.int (-121)], vm := .none },
  { cls := 19, slots := #[.int (-120)], vm := .none },
  { cls := 19, slots := #[.int (-119)], vm := .none },
  { cls := 19, slots := #[.int (-118)], vm := .none },
  { cls := 19, slots := #[.int (-117)], vm := .none },
  { cls := 19, slots := #[.int (-116)], vm := .none },
  { cls := 19, slots := #[.int (-115)], vm := .none },
  { cls := 19, slots := #[.int (-114)], vm := .none },
  { cls := 19, slots := #[.int (-113)], vm := .none },
  { cls := 19, slots := #[.int (-112)], vm := .none },
  { cls := 19, slots := #[.int (-111)], vm := .none },
  { cls := 19, slots := #[.int (-110)], vm := .none },
  { cls := 19, slots := #[.int (-109)], vm := .none },
  { cls := 19, slots := #[.int (-108)], vm := .none },
  { cls := 19, slots := #[.int (-107)], vm := .none },
  { cls := 19, slots := #[.int (-106)], vm := .none },
  { cls := 19, slots := #[.int (-105)], vm := .none },
  { cls := 19, slots := #[.int (-104)], vm := .none },
  { cls := 19, slots := #[.int (-103)], vm := .none },
  { cls := 19, slots := #[.int (-102)], vm := .none },
  { cls := 19, slots := #[.int (-101)], vm := .none },
  { cls := 19, slots := #[.int (-100)], vm := .none },
  { cls := 19, slots := #[.int (-99)], vm := .none },
  { cls := 19, slots := #[.int (-98)], vm := .none },
  { cls := 19, slots := #[.int (-97)], vm := .none },
  { cls := 19, slots := #[.int (-96)], vm := .none },
  { cls := 19, slots := #[.int (-95)], vm := .none },
  { cls := 19, slots := #[.int (-94)], vm := .none },
  { cls := 19, slots := #[.int (-93)], vm := .none },
  { cls := 19, slots := #[.int (-92)], vm := .none },
  { cls := 19, slots := #[.int (-91)], vm := .none },
  { cls := 19, slots := #[.int (-90)], vm := .none },
  { cls := 19, slots := #[.int (-89)], vm := .none },
  { cls := 19, slots := #[.int (-88)], vm := .none },
  { cls := 19, slots := #[.int (-87)], vm := .none },
  { cls := 19, slots := #[.int (-86)], vm := .none },
  { cls := 19, slots := #[.int (-85)], vm := .none },
  { cls := 19, slots := #[.int (-84)], vm := .none },
  { cls := 19, slots := #[.int (-83)], vm := .none },
  { cls := 19, slots := #[.int (-82)], vm := .none },
  { cls := 19, slots := #[.int (-81)], vm := .none },
  { cls := 19, slots := #[.int (-80)], vm := .none },
  { cls := 19, slots := #[.int (-79)], vm := .none },
  { cls := 19, slots := #[.int (-78)], vm := .none },
  { cls := 19, slots := #[.int (-77)], vm := .none },
  { cls := 19, slots := #[.int (-76)], vm := .none },
  { cls := 19, slots := #[.int (-75)], vm := .none },
  { cls := 19, slots := #[.int (-74)], vm := .none },
  { cls := 19, slots := #[.int (-73)], vm := .none },
  { cls := 19, slots := #[.int (-72)], vm := .none },
  { cls := 19, slots := #[.int (-71)], vm := .none },
  { cls := 19, slots := #[.int (-70)], vm := .none },
  { cls := 19, slots := #[.int (-69)], vm := .none },
  { cls := 19, slots := #[.int (-68)], vm := .none },
  { cls := 19, slots := #[.int (-67)], vm := .none },
  { cls := 19, slots := #[.int (-66)], vm := .none },
  { cls := 19, slots := #[.int (-65)], vm := .none },
  { cls := 19, slots := #[.int (-64)], vm := .none },
  { cls := 19, slots := #[.int (-63)], vm := .none },
  { cls := 19, slots := #[.int (-62)], vm := .none },
  { cls := 19, slots := #[.int (-61)], vm := .none },
  { cls := 19, slots := #[.int (-60)], vm := .none },
  { cls := 19, slots := #[.int (-59)], vm := .none },
  { cls := 19, slots := #[.int (-58)], vm := .none },
  { cls := 19, slots := #[.int (-57)], vm := .none },
  { cls := 19, slots := #[.int (-56)], vm := .none },
  { cls := 19, slots := #[.int (-55)], vm := .none },
  { cls := 19, slots := #[.int (-54)], vm := .none },
  { cls := 19, slots := #[.int (-53)], vm := .none },
  { cls := 19, slots := #[.int (-52)], vm := .none },
  { cls := 19, slots := #[.int (-51)], vm := .none },
  { cls := 19, slots := #[.int (-50)], vm := .none },
  { cls := 19, slots := #[.int (-49)], vm := .none },
  { cls := 19, slots := #[.int (-48)], vm := .none },
  { cls := 19, slots := #[.int (-47)], vm := .none },
  { cls := 19, slots := #[.int (-46)], vm := .none },
  { cls := 19, slots := #[.int (-45)], vm := .none },
  { cls := 19, slots := #[.int (-44)], vm := .none },
  { cls := 19, slots := #[.int (-43)], vm := .none },
  { cls := 19, slots := #[.int (-42)], vm := .none },
  { cls := 19, slots := #[.int (-41)], vm := .none },
  { cls := 19, slots := #[.int (-40)], vm := .none },
  { cls := 19, slots := #[.int (-39)], vm := .none },
  { cls := 19, slots := #[.int (-38)], vm := .none },
  { cls := 19, slots := #[.int (-37)], vm := .none },
  { cls := 19, slots := #[.int (-36)], vm := .none },
  { cls := 19, slots := #[.int (-35)], vm := .none },
  { cls := 19, slots := #[.int (-34)], vm := .none },
  { cls := 19, slots := #[.int (-33)], vm := .none },
  { cls := 19, slots := #[.int (-32)], vm := .none },
  { cls := 19, slots := #[.int (-31)], vm := .none },
  { cls := 19, slots := #[.int (-30)], vm := .none },
  { cls := 19, slots := #[.int (-29)], vm := .none },
  { cls := 19, slots := #[.int (-28)], vm := .none },
  { cls := 19, slots := #[.int (-27)], vm := .none },
  { cls := 19, slots := #[.int (-26)], vm := .none },
  { cls := 19, slots := #[.int (-25)], vm := .none },
  { cls := 19, slots := #[.int (-24)], vm := .none },
  { cls := 19, slots := #[.int (-23)], vm := .none },
  { cls := 19, slots := #[.int (-22)], vm := .none },
  { cls := 19, slots := #[.int (-21)], vm := .none },
  { cls := 19, slots := #[.int (-20)], vm := .none },
  { cls := 19, slots := #[.int (-19)], vm := .none },
  { cls := 19, slots := #[.int (-18)], vm := .none },
  { cls := 19, slots := #[.int (-17)], vm := .none },
  { cls := 19, slots := #[.int (-16)], vm := .none },
  { cls := 19, slots := #[.int (-15)], vm := .none },
  { cls := 19, slots := #[.int (-14)], vm := .none },
  { cls := 19, slots := #[.int (-13)], vm := .none },
  { cls := 19, slots := #[.int (-12)], vm := .none },
  { cls := 19, slots := #[.int (-11)], vm := .none },
  { cls := 19, slots := #[.int (-10)], vm := .none },
  { cls := 19, slots := #[.int (-9)], vm := .none },
  { cls := 19, slots := #[.int (-8)], vm := .none },
  { cls := 19, slots := #[.int (-7)], vm := .none },
  { cls := 19, slots := #[.int (-6)], vm := .none },
  { cls := 19, slots := #[.int (-5)], vm := .none },
  { cls := 19, slots := #[.int (-4)], vm := .none },
  { cls := 19, slots := #[.int (-3)], vm := .none },
  { cls := 19, slots := #[.int (-2)], vm := .none },
  { cls := 19, slots := #[.int (-1)], vm := .none },
  { cls := 19, slots := #[.int (0)], vm := .none },
  { cls := 19, slots := #[.int (1)], vm := .none },
  { cls := 19, slots := #[.int (2)], vm := .none },
  { cls := 19, slots := #[.int (3)], vm := .none },
  { cls := 19, slots := #[.int (4)], vm := .none },
  { cls := 19, slots := #[.int (5)], vm := .none },
  { cls := 19, slots := #[.int (6)], vm := .none },
  { cls := 19, slots := #[.int (7)], vm := .none },
  { cls := 19, slots := #[.int (8)], vm := .none },
  { cls := 19, slots := #[.int (9)], vm := .none },
  { cls := 19, slots := #[.int (10)], vm := .none },
  { cls := 19, slots := #[.int (11)], vm := .none },
  { cls := 19, slots := #[.int (12)], vm := .none },
  { cls := 19, slots := #[.int (13)], vm := .none },
  { cls := 19, slots := #[.int (14)], vm := .none },
  { cls := 19, slots := #[.int (15)], vm := .none },
  { cls := 19, slots := #[.int (16)], vm := .none },
  { cls := 19, slots := #[.int (17)], vm := .none },
  { cls := 19, slots := #[.int (18)], vm := .none },
  { cls := 19, slots := #[.int (19)], vm := .none },
  { cls := 19, slots := #[.int (20)], vm := .none },
  { cls := 19, slots := #[.int (21)], vm := .none },
  { cls := 19, slots := #[.int (22)], vm := .none },
  { cls := 19, slots := #[.int (23)], vm := .none },
  { cls := 19, slots := #[.int (24)], vm := .none },
  { cls := 19, slots := #[.int (25)], vm := .none },
  { cls := 19, slots := #[.int (26)], vm := .none },
  { cls := 19, slots := #[.int (27)], vm := .none },
  { cls := 19, slots := #[.int (28)], vm := .none },
  { cls := 19, slots := #[.int (29)], vm := .none },
  { cls := 19, slots := #[.int (30)], vm := .none },
  { cls := 19, slots := #[.int (31)], vm := .none },
  { cls := 19, slots := #[.int (32)], vm := .none },
  { cls := 19, slots := #[.int (33)], vm := .none },
  { cls := 19, slots := #[.int (34)], vm := .none },
  { cls := 19, slots := #[.int (35)], vm := .none },
  { cls := 19, slots := #[.int (36)], vm := .none },
  { cls := 19, slots := #[.int (37)], vm := .none },
  { cls := 19, slots := #[.int (38)], vm := .none },
  { cls := 19, slots := #[.int (39)], vm := .none },
  { cls := 19, slots := #[.int (40)], vm := .none },
  { cls := 19, slots := #[.int (41)], vm := .none },
  { cls := 19, slots := #[.int (42)], vm := .none },
  { cls := 19, slots := #[.int (43)], vm := .none },
  { cls := 19, slots := #[.int (44)], vm := .none },
  { cls := 19, slots := #[.int (45)], vm := .none },
  { cls := 19, slots := #[.int (46)], vm := .none },
  { cls := 19, slots := #[.int (47)], vm := .none },
  { cls := 19, slots := #[.int (48)], vm := .none },
  { cls := 19, slots := #[.int (49)], vm := .none },
  { cls := 19, slots := #[.int (50)], vm := .none },
  { cls := 19, slots := #[.int (51)], vm := .none },
  { cls := 19, slots := #[.int (52)], vm := .none },
  { cls := 19, slots := #[.int (53)], vm := .none },
  { cls := 19, slots := #[.int (54)], vm := .none },
  { cls := 19, slots := #[.int (55)], vm := .none },
  { cls := 19, slots := #[.int (56)], vm := .none },
  { cls := 19, slots := #[.int (57)], vm := .none },
  { cls := 19, slots := #[.int (58)], vm := .none },
  { cls := 19, slots := #[.int (59)], vm := .none },
  { cls := 19, slots := #[.int (60)], vm := .none },
  { cls := 19, slots := #[.int (61)], vm := .none },
  { cls := 19, slots := #[.int (62)], vm := .none },
  { cls := 19, slots := #[.int (63)], vm := .none },
  { cls := 19, slots := #[.int (64)], vm := .none },
  { cls := 19, slots := #[.int (65)], vm := .none },
  { cls := 19, slots := #[.int (66)], vm := .none },
  { cls := 19, slots := #[.int (67)], vm := .none },
  { cls := 19, slots := #[.int (68)], vm := .none },
  { cls := 19, slots := #[.int (69)], vm := .none },
  { cls := 19, slots := #[.int (70)], vm := .none },
  { cls := 19, slots := #[.int (71)], vm := .none },
  { cls := 19, slots := #[.int (72)], vm := .none },
  { cls := 19, slots := #[.int (73)], vm := .none },
  { cls := 19, slots := #[.int (74)], vm := .none },
  { cls := 19, slots := #[.int (75)], vm := .none },
  { cls := 19, slots := #[.int (76)], vm := .none },
  { cls := 19, slots := #[.int (77)], vm := .none },
  { cls := 19, slots := #[.int (78)], vm := .none },
  { cls := 19, slots := #[.int (79)], vm := .none },
  { cls := 19, slots := #[.int (80)], vm := .none },
  { cls := 19, slots := #[.int (81)], vm := .none },
  { cls := 19, slots := #[.int (82)], vm := .none },
  { cls := 19, slots := #[.int (83)], vm := .none },
  { cls := 19, slots := #[.int (84)], vm := .none },
  { cls := 19, slots := #[.int (85)], vm := .none },
  { cls := 19, slots := #[.int (86)], vm := .none },
  { cls := 19, slots := #[.int (87)], vm := .none },
  { cls := 19, slots := #[.int (88)], vm := .none },
  { cls := 19, slots := #[.int (89)], vm := .none },
  { cls := 19, slots := #[.int (90)], vm := .none },
  { cls := 19, slots := #[.int (91)], vm := .none },
  { cls := 19, slots := #[.int (92)], vm := .none },
  { cls := 19, slots := #[.int (93)], vm := .none },
  { cls := 19, slots := #[.int (94)], vm := .none },
  { cls := 19, slots := #[.int (95)], vm := .none },
  { cls := 19, slots := #[.int (96)], vm := .none },
  { cls := 19, slots := #[.int (97)], vm := .none },
  { cls := 19, slots := #[.int (98)], vm := .none },
  { cls := 19, slots := #[.int (99)], vm := .none },
  { cls := 19, slots := #[.int (100)], vm := .none },
  { cls := 19, slots := #[.int (101)], vm := .none },
  { cls := 19, slots := #[.int (102)], vm := .none },
  { cls := 19, slots := #[.int (103)], vm := .none },
  { cls := 19, slots := #[.int (104)], vm := .none },
  { cls := 19, slots := #[.int (105)], vm := .none },
  { cls := 19, slots := #[.int (106)], vm := .none },
  { cls := 19, slots := #[.int (107)], vm := .none },
  { cls := 19, slots := #[.int (108)], vm := .none },
  { cls := 19, slots := #[.int (109)], vm := .none },
  { cls := 19, slots := #[.int (110)], vm := .none },
  { cls := 19, slots := #[.int (111)], vm := .none },
  { cls := 19, slots := #[.int (112)], vm := .none },
  { cls := 19, slots := #[.int (113)], vm := .none },
  { cls := 19, slots := #[.int (114)], vm := .none },
  { cls := 19, slots := #[.int (115)], vm := .none },
  { cls := 19, slots := #[.int (116)], vm := .none },
  { cls := 19, slots := #[.int (117)], vm := .none },
  { cls := 19, slots := #[.int (118)], vm := .none },
  { cls := 19, slots := #[.int (119)], vm := .none },
  { cls := 19, slots := #[.int (120)], vm := .none },
  { cls := 19, slots := #[.int (121)], vm := .none },
  { cls := 19, slots := #[.int (122)], vm := .none },
  { cls := 19, slots := #[.int (123)], vm := .none },
  { cls := 19, slots := #[.int (124)], vm := .none },
  { cls := 19, slots := #[.int (125)], vm := .none },
  { cls := 19, slots := #[.int (126)], vm := .none },
  { cls := 19, slots := #[.int (127)], vm := .none },
  { cls := 28, slots := #[], vm := .none },
  { cls := 28, slots := #[], vm := .none }]
def classes : Array Class := #[k0, k1, k2, k3, k4, k5, k6, k7, k8, k9, k10, k11, k12, k13, k14, k15, k16, k17, k18, k19, k20, k21, k22, k23, k24, k25, k26, k27, k28]
def interned : List (Array UInt16 × Addr) := []
def slotsUsed : Nat := 521
def theMethod : MethodId := ⟨1, 2⟩
def args0 : Array Value := #[.int 5, .int 5, .int 5, .int 5]
def aboutOver (below : List Frame) : State where
  vm := { classes := classes, interned := interned.toArray }
  heap := heap
  slotsUsed := slotsUsed
  threads := #[{ frames := .invoking theMethod args0 :: below }]
def below0 : List Frame := [.native { method := ⟨0, 0⟩, args := #[] }]
def about1 : State := aboutOver below0
def p0 : Program := .bare "" "" ""
def e0 : Env := launch0.env 0 0 0
theorem w_frames : about1.frames = Frame.invoking theMethod args0 :: below0 := rfl
set_option maxRecDepth 65536 in
theorem w_args : argsFit about1.vm theMethod args0 = true := by decide +kernel
set_option maxRecDepth 65536 in
theorem w_heap : heapFits about1 = true := by decide +kernel
set_option maxRecDepth 65536 in
theorem w_runnable : about1.curStatus? = some .runnable := by decide +kernel
set_option maxRecDepth 65536 in
theorem w_alone : about1.alone = true := by decide +kernel
set_option maxRecDepth 65536 in
theorem w_named : about1.methodNamed? x = some theMethod := by decide +kernel
set_option maxRecDepth 65536 in
theorem w_hears : about1.hears theMethod below0 = true := by decide +kernel
set_option maxRecDepth 65536 in
theorem w_ripe : about1.ripe theMethod args0 below0 = true := by decide +kernel
theorem w_running : about1.status = .running := rfl
set_option maxRecDepth 65536 in
theorem w_room : about1.hasRoom e0.platform room_1 = true :=
  launch0.hasRoom_least _ room_1 (by decide +kernel) (by decide +kernel) (by decide +kernel) (by decide +kernel) (by decide +kernel) (by decide +kernel)
theorem allAtoms_all (ts : List Jvm.Cond) (a : Array Jvm.Value) (st : Jvm.State) : (allAtoms ts).before a st = ts.all (fun c => c.before a st) := by
  induction ts with
  | nil => rfl
  | cons c t ih =>
    show (Jvm.Cond.and c (allAtoms t)).before a st = _
    rw [Jvm.Cond.before_and, ih, List.all_cons]
def words1 : List Jvm.Cond := Jvm.Cond.code x code maxLocals ret :: tables_1
/-- a 'code' word, met by the world's own term for the bytes: nothing is compared byte by byte -/
theorem code_word {y : MethodName} {bytes : ByteArray} {mx : Nat} {rt : Option FieldType} {a : Array Value} {s : State} {m : MethodId} {meth : Method} {c : Code} (h1 : s.methodNamed? y = some m) (h2 : s.vm.method? m = some meth) (h3 : meth.code = some c) (h4 : c.code = bytes)
    (h5 : (c.maxLocals == mx && c.exceptionTable.isEmpty && decide (c.maxStack ≤ mostOperands) && decide (meth.sig.returnType = rt) && !meth.locks && decide (parseMethodDescriptor y.desc = some meth.sig)) = true) : (Jvm.Cond.code y bytes mx rt).before a s = true := by
  simp only [Bool.and_eq_true, beq_iff_eq, Bool.not_eq_true', decide_eq_true_eq] at h5
  obtain ⟨⟨⟨⟨⟨g1, g2⟩, g3⟩, g4⟩, g5⟩, g6⟩ := h5
  simp [Cond.before, Cond.holds, Cond.value, h1, h2, h3, h4, g1, g2, g3, g4, g5, g6]
def isCode : Jvm.Cond → Bool
  | .code _ _ _ _ => true
  | _ => false
theorem all_split {L : List Jvm.Cond} {P : Jvm.Cond → Bool} (h1 : L.all (fun c => isCode c || P c) = true) (h2 : ∀ c ∈ L.filter isCode, P c = true) : L.all P = true := by
  refine List.all_eq_true.mpr fun c hc => ?_
  have h := List.all_eq_true.mp h1 c hc
  rcases Bool.eq_false_or_eq_true (isCode c) with hi | hi
  · exact h2 c (List.mem_filter.mpr ⟨hc, hi⟩)
  · simpa [hi] using h
set_option maxRecDepth 65536 in
theorem w_c0 : (Jvm.Cond.code x code maxLocals ret).before args0 about1 = true := code_word (m := ⟨1, 2⟩) (meth := k1m2) (c := k1c2) (by decide +kernel) rfl rfl rfl (by decide +kernel)
set_option maxRecDepth 65536 in
theorem w_c1 : (Jvm.Cond.code ({ cls := "beanforge/core/Recipe", name := "<init>", desc := "()V" } : Jvm.MethodName) prog_89_method_1_code (1 : Nat) (Option.none : Option Jvm.ClassFile.FieldType)).before args0 about1 = true := code_word (m := ⟨2, 0⟩) (meth := k2m0) (c := k2c0) (by decide +kernel) rfl rfl rfl (by decide +kernel)
set_option maxRecDepth 65536 in
theorem w_c2 : (Jvm.Cond.code ({ cls := "java/lang/Object", name := "<init>", desc := "()V" } : Jvm.MethodName) object_method_1_code (1 : Nat) (Option.none : Option Jvm.ClassFile.FieldType)).before args0 about1 = true := code_word (m := ⟨0, 0⟩) (meth := k0m0) (c := k0c0) (by decide +kernel) rfl rfl rfl (by decide +kernel)
set_option maxRecDepth 65536 in
theorem w_c3 : (Jvm.Cond.code ({ cls := "java/util/ArrayList", name := "<init>", desc := "()V" } : Jvm.MethodName) jdk_38_method_2_code (1 : Nat) (Option.none : Option Jvm.ClassFile.FieldType)).before args0 about1 = true := code_word (m := ⟨12, 0⟩) (meth := k12m0) (c := k12c0) (by decide +kernel) rfl rfl rfl (by decide +kernel)
set_option maxRecDepth 65536 in
theorem w_c4 : (Jvm.Cond.code ({ cls := "java/util/AbstractList", name := "<init>", desc := "()V" } : Jvm.MethodName) jdk_39_method_1_code (1 : Nat) (Option.none : Option Jvm.ClassFile.FieldType)).before args0 about1 = true := code_word (m := ⟨8, 0⟩) (meth := k8m0) (c := k8c0) (by decide +kernel) rfl rfl rfl (by decide +kernel)
set_option maxRecDepth 65536 in
theorem w_c5 : (Jvm.Cond.code ({ cls := "java/util/AbstractCollection", name := "<init>", desc := "()V" } : Jvm.MethodName) jdk_22_method_1_code (1 : Nat) (Option.none : Option Jvm.ClassFile.FieldType)).before args0 about1 = true := code_word (m := ⟨5, 0⟩) (meth := k5m0) (c := k5c0) (by decide +kernel) rfl rfl rfl (by decide +kernel)
set_option maxRecDepth 65536 in
theorem w_c6 : (Jvm.Cond.code ({ cls := "beanforge/core/Overloads$Chosen", name := "<init>", desc := "(Ljava/lang/reflect/Executable;[Ljava/lang/Object;)V" } : Jvm.MethodName) prog_75_method_1_code (3 : Nat) (Option.none : Option Jvm.ClassFile.FieldType)).before args0 about1 = true := code_word (m := ⟨14, 0⟩) (meth := k14m0) (c := k14c0) (by decide +kernel) rfl rfl rfl (by decide +kernel)
set_option maxRecDepth 65536 in
theorem w_c7 : (Jvm.Cond.code ({ cls := "java/lang/Record", name := "<init>", desc := "()V" } : Jvm.MethodName) jdk_30_method_1_code (1 : Nat) (Option.none : Option Jvm.ClassFile.FieldType)).before args0 about1 = true := code_word (m := ⟨13, 0⟩) (meth := k13m0) (c := k13c0) (by decide +kernel) rfl rfl rfl (by decide +kernel)
set_option maxRecDepth 65536 in
theorem w_c8 : (Jvm.Cond.code ({ cls := "java/lang/Integer", name := "valueOf", desc := "(I)Ljava/lang/Integer;" } : Jvm.MethodName) jdk_33_method_22_code (1 : Nat) (Option.some (Jvm.ClassFile.FieldType.object "java/lang/Integer"))).before args0 about1 = true := code_word (m := ⟨19, 0⟩) (meth := k19m0) (c := k19c0) (by decide +kernel) rfl rfl rfl (by decide +kernel)
set_option maxRecDepth 65536 in
theorem w_c9 : (Jvm.Cond.code ({ cls := "beanforge/core/Recipe", name := "constructs", desc := "()Z" } : Jvm.MethodName) prog_89_method_4_code (1 : Nat) (Option.some Jvm.ClassFile.FieldType.boolean)).before args0 about1 = true := code_word (m := ⟨2, 3⟩) (meth := k2m3) (c := k2c3) (by decide +kernel) rfl rfl rfl (by decide +kernel)
set_option maxRecDepth 65536 in
theorem w_c10 : (Jvm.Cond.code ({ cls := "beanforge/core/RecipeConstructsPinLaw", name := "step", desc := "(Lbeanforge/core/Recipe;ILbeanforge/core/Overloads$Chosen;ZLjava/lang/Object;)Z" } : Jvm.MethodName) method_2_code (6 : Nat) (Option.some Jvm.ClassFile.FieldType.boolean)).before args0 about1 = true := code_word (m := ⟨1, 1⟩) (meth := k1m1) (c := k1c1) (by decide +kernel) rfl rfl rfl (by decide +kernel)
set_option maxRecDepth 65536 in
theorem w_c11 : (Jvm.Cond.code ({ cls := "beanforge/core/Recipe", name := "called", desc := "(Lbeanforge/core/Preparation$Place;Lbeanforge/core/Overloads$Chosen;)V" } : Jvm.MethodName) prog_89_method_3_code (3 : Nat) (Option.none : Option Jvm.ClassFile.FieldType)).before args0 about1 = true := code_word (m := ⟨2, 2⟩) (meth := k2m2) (c := k2c2) (by decide +kernel) rfl rfl rfl (by decide +kernel)
set_option maxRecDepth 65536 in
theorem w_c12 : (Jvm.Cond.code ({ cls := "beanforge/core/Recipe$Call", name := "<init>", desc := "(Lbeanforge/core/Preparation$Place;Lbeanforge/core/Overloads$Chosen;)V" } : Jvm.MethodName) prog_90_method_1_code (3 : Nat) (Option.none : Option Jvm.ClassFile.FieldType)).before args0 about1 = true := code_word (m := ⟨21, 0⟩) (meth := k21m0) (c := k21c0) (by decide +kernel) rfl rfl rfl (by decide +kernel)
set_option maxRecDepth 65536 in
theorem w_c13 : (Jvm.Cond.code ({ cls := "java/util/ArrayList", name := "add", desc := "(Ljava/lang/Object;)Z" } : Jvm.MethodName) jdk_38_method_25_code (2 : Nat) (Option.some Jvm.ClassFile.FieldType.boolean)).before args0 about1 = true := code_word (m := ⟨12, 4⟩) (meth := k12m4) (c := k12c4) (by decide +kernel) rfl rfl rfl (by decide +kernel)
set_option maxRecDepth 65536 in
theorem w_c14 : (Jvm.Cond.code ({ cls := "java/util/ArrayList", name := "add", desc := "(Ljava/lang/Object;[Ljava/lang/Object;I)V" } : Jvm.MethodName) jdk_38_method_24_code (4 : Nat) (Option.none : Option Jvm.ClassFile.FieldType)).before args0 about1 = true := code_word (m := ⟨12, 3⟩) (meth := k12m3) (c := k12c3) (by decide +kernel) rfl rfl rfl (by decide +kernel)
set_option maxRecDepth 65536 in
theorem w_c15 : (Jvm.Cond.code ({ cls := "java/util/ArrayList", name := "grow", desc := "()[Ljava/lang/Object;" } : Jvm.MethodName) jdk_38_method_7_code (1 : Nat) (Option.some (Jvm.ClassFile.FieldType.array (Jvm.ClassFile.FieldType.object "java/lang/Object")))).before args0 about1 = true := code_word (m := ⟨12, 2⟩) (meth := k12m2) (c := k12c2) (by decide +kernel) rfl rfl rfl (by decide +kernel)
set_option maxRecDepth 65536 in
theorem w_c16 : (Jvm.Cond.code ({ cls := "java/util/ArrayList", name := "grow", desc := "(I)[Ljava/lang/Object;" } : Jvm.MethodName) jdk_38_method_6_code (4 : Nat) (Option.some (Jvm.ClassFile.FieldType.array (Jvm.ClassFile.FieldType.object "java/lang/Object")))).before args0 about1 = true := code_word (m := ⟨12, 1⟩) (meth := k12m1) (c := k12c1) (by decide +kernel) rfl rfl rfl (by decide +kernel)
set_option maxRecDepth 65536 in
theorem w_c17 : (Jvm.Cond.code ({ cls := "java/lang/Math", name := "max", desc := "(II)I" } : Jvm.MethodName) jdk_29_method_65_code (2 : Nat) (Option.some Jvm.ClassFile.FieldType.int)).before args0 about1 = true := code_word (m := ⟨22, 1⟩) (meth := k22m1) (c := k22c1) (by decide +kernel) rfl rfl rfl (by decide +kernel)
set_option maxRecDepth 65536 in
theorem w_c18 : (Jvm.Cond.code ({ cls := "beanforge/core/Recipe", name := "constructed", desc := "(Lbeanforge/core/Preparation$Place;Lbeanforge/core/Overloads$Chosen;Ljava/lang/Object;Lbeanforge/core/Preparation$Maker;Ljava/lang/Object;)V" } : Jvm.MethodName) prog_89_method_2_code (6 : Nat) (Option.none : Option Jvm.ClassFile.FieldType)).before args0 about1 = true := code_word (m := ⟨2, 1⟩) (meth := k2m1) (c := k2c1) (by decide +kernel) rfl rfl rfl (by decide +kernel)
set_option maxRecDepth 65536 in
theorem w_c19 : (Jvm.Cond.code ({ cls := "java/lang/Integer", name := "<init>", desc := "(I)V" } : Jvm.MethodName) jdk_33_method_23_code (2 : Nat) (Option.none : Option Jvm.ClassFile.FieldType)).before args0 about1 = true := code_word (m := ⟨19, 1⟩) (meth := k19m1) (c := k19c1) (by decide +kernel) rfl rfl rfl (by decide +kernel)
set_option maxRecDepth 65536 in
theorem w_c20 : (Jvm.Cond.code ({ cls := "java/lang/Number", name := "<init>", desc := "()V" } : Jvm.MethodName) jdk_18_method_1_code (1 : Nat) (Option.none : Option Jvm.ClassFile.FieldType)).before args0 about1 = true := code_word (m := ⟨15, 0⟩) (meth := k15m0) (c := k15c0) (by decide +kernel) rfl rfl rfl (by decide +kernel)
def codes1 : List Jvm.Cond := [Jvm.Cond.code x code maxLocals ret, Jvm.Cond.code ({ cls := "beanforge/core/Recipe", name := "<init>", desc := "()V" } : Jvm.MethodName) prog_89_method_1_code (1 : Nat) (Option.none : Option Jvm.ClassFile.FieldType), Jvm.Cond.code ({ cls := "java/lang/Object", name := "<init>", desc := "()V" } : Jvm.MethodName) object_method_1_code (1 : Nat) (Option.none : Option Jvm.ClassFile.FieldType), Jvm.Cond.code ({ cls := "java/util/ArrayList", name := "<init>", desc := "()V" } : Jvm.MethodName) jdk_38_method_2_code (1 : Nat) (Option.none : Option Jvm.ClassFile.FieldType), Jvm.Cond.code ({ cls := "java/util/AbstractList", name := "<init>", desc := "()V" } : Jvm.MethodName) jdk_39_method_1_code (1 : Nat) (Option.none : Option Jvm.ClassFile.FieldType), Jvm.Cond.code ({ cls := "java/util/AbstractCollection", name := "<init>", desc := "()V" } : Jvm.MethodName) jdk_22_method_1_code (1 : Nat) (Option.none : Option Jvm.ClassFile.FieldType), Jvm.Cond.code ({ cls := "beanforge/core/Overloads$Chosen", name := "<init>", desc := "(Ljava/lang/reflect/Executable;[Ljava/lang/Object;)V" } : Jvm.MethodName) prog_75_method_1_code (3 : Nat) (Option.none : Option Jvm.ClassFile.FieldType), Jvm.Cond.code ({ cls := "java/lang/Record", name := "<init>", desc := "()V" } : Jvm.MethodName) jdk_30_method_1_code (1 : Nat) (Option.none : Option Jvm.ClassFile.FieldType), Jvm.Cond.code ({ cls := "java/lang/Integer", name := "valueOf", desc := "(I)Ljava/lang/Integer;" } : Jvm.MethodName) jdk_33_method_22_code (1 : Nat) (Option.some (Jvm.ClassFile.FieldType.object "java/lang/Integer")), Jvm.Cond.code ({ cls := "beanforge/core/Recipe", name := "constructs", desc := "()Z" } : Jvm.MethodName) prog_89_method_4_code (1 : Nat) (Option.some Jvm.ClassFile.FieldType.boolean), Jvm.Cond.code ({ cls := "beanforge/core/RecipeConstructsPinLaw", name := "step", desc := "(Lbeanforge/core/Recipe;ILbeanforge/core/Overloads$Chosen;ZLjava/lang/Object;)Z" } : Jvm.MethodName) method_2_code (6 : Nat) (Option.some Jvm.ClassFile.FieldType.boolean), Jvm.Cond.code ({ cls := "beanforge/core/Recipe", name := "called", desc := "(Lbeanforge/core/Preparation$Place;Lbeanforge/core/Overloads$Chosen;)V" } : Jvm.MethodName) prog_89_method_3_code (3 : Nat) (Option.none : Option Jvm.ClassFile.FieldType), Jvm.Cond.code ({ cls := "beanforge/core/Recipe$Call", name := "<init>", desc := "(Lbeanforge/core/Preparation$Place;Lbeanforge/core/Overloads$Chosen;)V" } : Jvm.MethodName) prog_90_method_1_code (3 : Nat) (Option.none : Option Jvm.ClassFile.FieldType), Jvm.Cond.code ({ cls := "java/util/ArrayList", name := "add", desc := "(Ljava/lang/Object;)Z" } : Jvm.MethodName) jdk_38_method_25_code (2 : Nat) (Option.some Jvm.ClassFile.FieldType.boolean), Jvm.Cond.code ({ cls := "java/util/ArrayList", name := "add", desc := "(Ljava/lang/Object;[Ljava/lang/Object;I)V" } : Jvm.MethodName) jdk_38_method_24_code (4 : Nat) (Option.none : Option Jvm.ClassFile.FieldType), Jvm.Cond.code ({ cls := "java/util/ArrayList", name := "grow", desc := "()[Ljava/lang/Object;" } : Jvm.MethodName) jdk_38_method_7_code (1 : Nat) (Option.some (Jvm.ClassFile.FieldType.array (Jvm.ClassFile.FieldType.object "java/lang/Object"))), Jvm.Cond.code ({ cls := "java/util/ArrayList", name := "grow", desc := "(I)[Ljava/lang/Object;" } : Jvm.MethodName) jdk_38_method_6_code (4 : Nat) (Option.some (Jvm.ClassFile.FieldType.array (Jvm.ClassFile.FieldType.object "java/lang/Object"))), Jvm.Cond.code ({ cls := "java/lang/Math", name := "max", desc := "(II)I" } : Jvm.MethodName) jdk_29_method_65_code (2 : Nat) (Option.some Jvm.ClassFile.FieldType.int), Jvm.Cond.code ({ cls := "beanforge/core/Recipe", name := "constructed", desc := "(Lbeanforge/core/Preparation$Place;Lbeanforge/core/Overloads$Chosen;Ljava/lang/Object;Lbeanforge/core/Preparation$Maker;Ljava/lang/Object;)V" } : Jvm.MethodName) prog_89_method_2_code (6 : Nat) (Option.none : Option Jvm.ClassFile.FieldType), Jvm.Cond.code ({ cls := "java/lang/Integer", name := "<init>", desc := "(I)V" } : Jvm.MethodName) jdk_33_method_23_code (2 : Nat) (Option.none : Option Jvm.ClassFile.FieldType), Jvm.Cond.code ({ cls := "java/lang/Number", name := "<init>", desc := "()V" } : Jvm.MethodName) jdk_18_method_1_code (1 : Nat) (Option.none : Option Jvm.ClassFile.FieldType)]
set_option maxRecDepth 65536 in
theorem codes_eq : words1.filter isCode = codes1 := rfl
theorem w_codes : ∀ c ∈ words1.filter isCode, c.before args0 about1 = true := by
  rw [codes_eq]
  intro c hc
  simp only [codes1, List.mem_cons, List.not_mem_nil, or_false] at hc
  rcases hc with rfl | rfl | rfl | rfl | rfl | rfl | rfl | rfl | rfl | rfl | rfl | rfl | rfl | rfl | rfl | rfl | rfl | rfl | rfl | rfl | rfl
  · exact w_c0
  · exact w_c1
  · exact w_c2
  · exact w_c3
  · exact w_c4
  · exact w_c5
  · exact w_c6
  · exact w_c7
  · exact w_c8
  · exact w_c9
  · exact w_c10
  · exact w_c11
  · exact w_c12
  · exact w_c13
  · exact w_c14
  · exact w_c15
  · exact w_c16
  · exact w_c17
  · exact w_c18
  · exact w_c19
  · exact w_c20
set_option maxRecDepth 65536 in
theorem w_t1 : (words1.take 24).all (fun c => isCode c || c.before args0 about1) = true := by decide +kernel
set_option maxRecDepth 65536 in
theorem w_t2 : ((words1.drop 24).take 24).all (fun c => isCode c || c.before args0 about1) = true := by decide +kernel
set_option maxRecDepth 65536 in
theorem w_t3 : (((words1.drop 24).drop 24).take 24).all (fun c => isCode c || c.before args0 about1) = true := by decide +kernel
set_option maxRecDepth 65536 in
theorem w_t4 : ((((words1.drop 24).drop 24).drop 24).take 24).all (fun c => isCode c || c.before args0 about1) = true := by decide +kernel
set_option maxRecDepth 65536 in
theorem w_t5 : (((((words1.drop 24).drop 24).drop 24).drop 24).take 24).all (fun c => isCode c || c.before args0 about1) = true := by decide +kernel
set_option maxRecDepth 65536 in
theorem w_t6 : ((((((words1.drop 24).drop 24).drop 24).drop 24).drop 24).take 24).all (fun c => isCode c || c.before args0 about1) = true := by decide +kernel
set_option maxRecDepth 65536 in
theorem w_t7 : ((((((words1.drop 24).drop 24).drop 24).drop 24).drop 24).drop 24).all (fun c => isCode c || c.before args0 about1) = true := by decide +kernel
theorem w_tables : (allAtoms (Jvm.Cond.code x code maxLocals ret :: tables_1)).before args0 about1 = true := by
  rw [allAtoms_all]
  show words1.all (fun c => c.before args0 about1) = true
  refine all_split ?_ w_codes
  rw [← List.take_append_drop 24 words1, List.all_append, w_t1, ← List.take_append_drop 24 (words1.drop 24), List.all_append, w_t2, ← List.take_append_drop 24 ((words1.drop 24).drop 24), List.all_append, w_t3, ← List.take_append_drop 24 (((words1.drop 24).drop 24).drop 24), List.all_append, w_t4, ← List.take_append_drop 24 ((((words1.drop 24).drop 24).drop 24).drop 24), List.all_append, w_t5, ← List.take_append_drop 24 (((((words1.drop 24).drop 24).drop 24).drop 24).drop 24), List.all_append, w_t6, w_t7]
  rfl
set_option maxRecDepth 65536 in
theorem w_rest : rest_1_c.before args0 about1 = true := by decide +kernel
set_option maxRecDepth 65536 in
theorem w_case : (Jvm.Cond.and given_1 narrow_1).before args0 about1 = true := by decide +kernel
theorem w_applies : (headSpec (Jvm.Cond.code x code maxLocals ret :: tables_1) room_1).applies x e0.platform about1 = true :=
  (Spec.applies_iff w_frames).mpr ⟨w_running, w_runnable, w_alone, w_named, w_hears, w_ripe, w_room, w_tables⟩
set_option maxRecDepth 65536 in
theorem atStart : AtStart classFile x code maxLocals ret World_1 tables_1 room_1 Calls_1 rest_1 Pre_1 launch0 p0 e0 about1 theMethod args0 below0 :=
  ⟨lists_1, trivial, launch0.admits_env _ _ _, launch0.least_env, fairChoices_fair.cas, fairChoices_fair.clock, w_frames, w_args, w_heap, w_applies, ⟨⟨19, k19, 2, by decide +kernel, rfl, rfl, _, rfl, rfl⟩, trivial⟩, w_rest, w_case⟩
end start1
theorem witness_1 : WitnessClaimed_1 := ⟨start1.p0, start1.e0, start1.about1, start1.theMethod, start1.args0, start1.below0, start1.atStart⟩
end Jvm.Pilot.@@N@@
