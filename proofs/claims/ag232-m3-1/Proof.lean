import JvmDerived
import JvmDerived.Pilot.@@N@@Statement
import JvmDerived.Pilot.@@N@@Code
set_option linter.unusedVariables false
set_option linter.unusedSimpArgs false
namespace Jvm.Pilot.@@N@@
open Jvm Jvm.ClassFile Sem Op Lib Jvm.Free Jvm.Stand Jvm.LawKit Jvm.RoadKit Bundle Jvm.Pilot.@@N@@.Jvm.D
/-- from U the run comes to a return that Q allows -/
def Go (p : Program) (e : Env) (below : List Frame) (s : State) (C S : Nat) (Q : Option Value → Heap → List Loc → Prop) (U : State) : Prop :=
  ∃ t o, Steps p.tables e below U t ∧ t.status = .running ∧ Ended t below o ∧ ∃ v L, o = .returned v ∧ Q v t.heap L ∧ FrameEnd s o t L C S
section own_go
variable {p : Program} {l : Launch} {e : Env} {R : Room} {s : State} {m : MethodId} {args : Array Value} {below : List Frame} {meth : Method} {c : Code} {T U U' : State} {locs : List Loc} {cells slots C S : Nat} {Q : Option Value → Heap → List Loc → Prop}
theorem own_at {T : State} {h : Heap} {a : Addr} {c : Option Cell} (e : T.heap = h) (q : h[a]? = c) : T.heap[a]? = c := by rw [e]; exact q
theorem Go.of (h : ∀ t, Steps p.tables e below U' t → Steps p.tables e below U t) (g : Go p e below s C S Q U') : Go p e below s C S Q U := by
  obtain ⟨t, o, k, r⟩ := g
  exact ⟨t, o, h t k, r⟩
theorem Go.tr (h : Steps p.tables e below U U') (g : Go p e below s C S Q U') : Go p e below s C S Q U := by
  obtain ⟨t, o, k, r⟩ := g
  exact ⟨t, o, h.trans k, r⟩
theorem Go.out (X : Stand p l e R s m args below meth c T locs cells slots) {v : Option Value} (hv : meth.sig.returnType = none → v = none) (hlk : meth.locks = false)
    (hs : ∀ fs, (∀ (f : JFrame) (acts : List Action), f.method = m → f.locked = none → f.entered = [] → (doReturn e (T.setTop f) acts v).1 = T.setFrames fs) → Steps p.tables e below U (T.setFrames fs))
    (hQ : Q v T.heap locs) (hC : cells ≤ C) (hS : slots ≤ S) : Go p e below s C S Q U := by
  obtain ⟨fs, hr, hrun, hended, hW, hsame⟩ := X.leave (v := v) hv hlk
  exact ⟨_, _, hs fs hr, hrun, hended, _, _, rfl, hQ, ⟨_, rfl⟩, hW, hsame.mono hC hS⟩
end own_go
theorem own_lt1 {x y : Int32} {k : Int} (hy : y.toInt = k) (h : x < y) : x.toInt < k := hy ▸ Int32.lt_iff_toInt_lt.mp h
theorem own_ge1 {x y : Int32} {k : Int} (hy : y.toInt = k) (h : ¬ x < y) : k ≤ x.toInt := by rw [Int32.lt_iff_toInt_lt, hy] at h; omega
theorem own_lt2 {x y : Int32} {k : Int} (hy : y.toInt = k) (h : y < x) : k < x.toInt := hy ▸ Int32.lt_iff_toInt_lt.mp h
theorem own_ge2 {x y : Int32} {k : Int} (hy : y.toInt = k) (h : ¬ y < x) : x.toInt ≤ k := by rw [Int32.lt_iff_toInt_lt, hy] at h; omega
theorem own_eq1 {x y : Int32} {k : Int} (hy : y.toInt = k) (h : x = y) : x.toInt = k := by rw [h, hy]
theorem own_ne1 {x y : Int32} {k : Int} (hy : y.toInt = k) (h : ¬ x = y) : x.toInt ≠ k := fun q => h (Int32.toInt_inj.mp (q.trans hy.symm))
theorem own_eq2 {x y : Int32} {k : Int} (hy : y.toInt = k) (h : y = x) : x.toInt = k := by rw [← h, hy]
theorem own_ne2 {x y : Int32} {k : Int} (hy : y.toInt = k) (h : ¬ y = x) : x.toInt ≠ k := fun q => h (Int32.toInt_inj.mp (q.trans hy.symm)).symm
theorem own_eqI {args : Array Value} {first s : State} {o : Option Outcome} {idx : List Nat} {t : Term} {n : Int32} (h : (Cond.eq t (.int n)).value args first o s idx = some true) : t.eval args first o idx s = some (.int n) := by
  obtain ⟨x, y, e1, e2, k1, k2⟩ := cmp_v (Or.inl h)
  obtain rfl : y = .int n := (Option.some.inj e2).symm
  obtain ⟨z, rfl⟩ := k2
  have q := gotT (Cond.eq_ints e1 e2) h
  rw [e1, q]
def own_pick (k : Int32) (a b c d : Addr) : Addr := if k = 0 then a else if k = 1 then b else if k = 2 then c else d
theorem own_pick_all {P : Addr → Prop} {k : Int32} {a b c d : Addr} (h1 : P a) (h2 : P b) (h3 : P c) (h4 : P d) : P (own_pick k a b c d) := by
  unfold own_pick
  split
  · exact h1
  · split
    · exact h2
    · split
      · exact h3
      · exact h4
theorem own_bool {z : Int32} (h : z = 0 ∨ z = 1) : narrow .boolean (.int z) = .int z ∧ fits .boolean (.int z) = true ∧ nar .boolean z = z := by
  rcases h with rfl | rfl <;> exact ⟨rfl, rfl, rfl⟩
theorem own_char (x : Int32) : ¬ (255 : Int32) < ((x &&& (255 : Int32)).toUInt32.toUInt16.toUInt32.toInt32) := by
  rw [i2c_mask]
  intro q
  have h1 := own_lt2 (k := 255) (by decide) q
  have h2 := (c_and x 255 (by decide)).2
  have h3 : (255 : Int32).toInt = 255 := by decide
  omega
theorem pn_0 : plainName "com/example/hermit_crab/hermitcrab/xml/DefaultsForInnerBeansPinLaw" = true := by first | (simp [plainName, overriddenIn]; done) | decide +kernel
theorem d1_0 : decode method_3_code 0 = .ok (.iload_n 0, 1) := by decide +kernel
theorem d1_1 : decode method_3_code 1 = .ok (.ifCond .ne 7, 3) := by decide +kernel
theorem d1_4 : decode method_3_code 4 = .ok (.getstatic 47, 3) := by decide +kernel
theorem d1_7 : decode method_3_code 7 = .ok (.areturn, 1) := by decide +kernel
theorem d1_8 : decode method_3_code 8 = .ok (.iload_n 0, 1) := by decide +kernel
theorem d1_9 : decode method_3_code 9 = .ok (.iconst 1, 1) := by decide +kernel
theorem d1_10 : decode method_3_code 10 = .ok (.if_icmp .ne 7, 3) := by decide +kernel
theorem d1_13 : decode method_3_code 13 = .ok (.getstatic 53, 3) := by decide +kernel
theorem d1_16 : decode method_3_code 16 = .ok (.areturn, 1) := by decide +kernel
theorem d1_17 : decode method_3_code 17 = .ok (.iload_n 0, 1) := by decide +kernel
theorem d1_18 : decode method_3_code 18 = .ok (.iconst 2, 1) := by decide +kernel
theorem d1_19 : decode method_3_code 19 = .ok (.if_icmp .ne 7, 3) := by decide +kernel
theorem d1_22 : decode method_3_code 22 = .ok (.getstatic 56, 3) := by decide +kernel
theorem d1_25 : decode method_3_code 25 = .ok (.areturn, 1) := by decide +kernel
theorem d1_26 : decode method_3_code 26 = .ok (.getstatic 59, 3) := by decide +kernel
theorem d1_29 : decode method_3_code 29 = .ok (.areturn, 1) := by decide +kernel
def Q1 (Z : State) (p1 : Int32) (wNO : Nat) (wBN : Nat) (wBT : Nat) (wCO : Nat) (h0 : Heap) (n0 : Nat) (v : Option Value) (h : Heap) (L : List Loc) : Prop := v = some (.ref (own_pick p1 wNO wBN wBT wCO)) ∧ Fr n0 L ∧ h = h0
set_option maxRecDepth 65536 in
set_option maxHeartbeats 40000000 in
theorem rm1 (l : Launch) (Z : State) (a0 : Array Value) (hw : ∀ d ∈ tables_1, d.before a0 Z = true) (ws : List Jvm.Cond) (p1 : Int32) (wNO : Nat) (wBN : Nat) (wBT : Nat) (wCO : Nat) (h0 : Heap) (n0 : Nat) (Z0 : n0 ≤ h0.size) (S_NO : Sta Z h0 "com/example/hermit_crab/hermitcrab/definition/BeanDefinition$Autowiring$Mode" "NO" "Lcom/example/hermit_crab/hermitcrab/definition/BeanDefinition$Autowiring$Mode;" (.ref wNO)) (S_BY_NAME : Sta Z h0 "com/example/hermit_crab/hermitcrab/definition/BeanDefinition$Autowiring$Mode" "BY_NAME" "Lcom/example/hermit_crab/hermitcrab/definition/BeanDefinition$Autowiring$Mode;" (.ref wBN)) (S_BY_TYPE : Sta Z h0 "com/example/hermit_crab/hermitcrab/definition/BeanDefinition$Autowiring$Mode" "BY_TYPE" "Lcom/example/hermit_crab/hermitcrab/definition/BeanDefinition$Autowiring$Mode;" (.ref wBT)) (S_CONSTRUCTOR : Sta Z h0 "com/example/hermit_crab/hermitcrab/definition/BeanDefinition$Autowiring$Mode" "CONSTRUCTOR" "Lcom/example/hermit_crab/hermitcrab/definition/BeanDefinition$Autowiring$Mode;" (.ref wCO)) :
    MetFree l (⟨"com/example/hermit_crab/hermitcrab/xml/DefaultsForInnerBeansPinLaw", "mode", "(I)Lcom/example/hermit_crab/hermitcrab/definition/BeanDefinition$Autowiring$Mode;"⟩ : MethodName) (head1 (Jvm.Cond.code (⟨"com/example/hermit_crab/hermitcrab/xml/DefaultsForInnerBeansPinLaw", "mode", "(I)Lcom/example/hermit_crab/hermitcrab/definition/BeanDefinition$Autowiring$Mode;"⟩ : MethodName) method_3_code 1 (some (.object "com/example/hermit_crab/hermitcrab/definition/BeanDefinition$Autowiring$Mode")) :: ws) ({ frames := 0, cells := 0, slots := 0, locals := 0 } : Room)) (fun a U => a = #[(.int p1)] ∧ Z.Warmed39 U.vm ∧ U.heap = h0) (fun _ _ _ _ _ => True) (fun _ U o U' => ∃ v L, o = .returned v ∧ Q1 Z p1 wNO wBN wBT wCO h0 n0 v U'.heap L ∧ FrameEnd U o U' L ({ frames := 0, cells := 0, slots := 0, locals := 0 } : Room).cells ({ frames := 0, cells := 0, slots := 0, locals := 0 } : Room).slots) := by
  refine MetFree.of_bodySF (plainFor_of_name pn_0) hisR ?_
  intro p e s m args below meth c s₁ Bd hml0 hP hK
  obtain ⟨rfl, hZ, hh⟩ := hP
  have hx := Bd.exec
  have hby := Bd.bytes
  have hml : c.maxLocals = 1 := hml0
  have hown : s.vm.findClass "com/example/hermit_crab/hermitcrab/xml/DefaultsForInnerBeansPinLaw" = some m.cls := findClass_of_methodNamed Bd.named
  have hnm := (name_of_methodNamed Bd.named Bd.method).1
  have hlk : meth.locks = false := BodyLoose.notSynchronized Bd
  have X0 : Stand p l e ({ frames := 0, cells := 0, slots := 0, locals := 0 } : Room) s m #[(.int p1)] below meth c s₁ [] 0 0 := Stand.of_body Bd
  have e0 : s₁.heap = h0 := by rw [← hh, Bd.state]; rfl
  have N0 := Fr.nil n0
  have hef : entryFrame m #[(.int p1)] 1 = mkF m 0 #[.val (.int p1)] [] := by first | (simp [entryFrame, mkF, argsToLocals, Value.category]; done) | rfl
  show Go p e below s ({ frames := 0, cells := 0, slots := 0, locals := 0 } : Room).cells ({ frames := 0, cells := 0, slots := 0, locals := 0 } : Room).slots (Q1 Z p1 wNO wBN wBT wCO h0 n0) (s₁.setTop (entryFrame m #[(.int p1)] 1))
  rw [hef]
  refine Go.of (fun t k => XS.iloadN X0.here hx rfl (hb hby d1_0) rfl k) ?_
  show Go _ _ _ _ _ _ _ (s₁.setTop (mkF m 1 #[.val (.int p1)] [(.int p1)]))
  by_cases hc1_1 : p1 = (0 : Int32)
  · skip
    refine Go.of (fun t k => XS.ifNo X0.here hx rfl (hb hby d1_1) rfl ((if0 _ _).trans (teq hc1_1).2) k) ?_
    show Go _ _ _ _ _ _ _ (s₁.setTop (mkF m 4 #[.val (.int p1)] []))
    obtain ⟨T2, X2, e2, st2⟩ := getS2 X0 hx hZ hown (host := "") (Or.inl (hw _ (List.mem_of_getElem? (i := 102) rfl))) Via.refl e0 S_NO (g := (mkF m 4 #[.val (.int p1)] [])) rfl (hb hby d1_4)
    refine Go.of st2 ?_
    show Go _ _ _ _ _ _ _ (T2.setTop (mkF m 7 #[.val (.int p1)] [(.ref wNO)]))
    refine Go.out X2 (v := some (.ref wNO)) (fun h => by rw [Bd.returns] at h; cases h) hlk (fun fs hr => retOut X2 hx (t := (.object "com/example/hermit_crab/hermitcrab/definition/BeanDefinition$Autowiring$Mode")) Bd.returns rfl (Or.inr (Or.inr (Or.inr (Or.inr ⟨rfl, rfl, rfl⟩)))) (hb hby d1_7) hr) ?_ (by decide) (by decide)
    show Q1 Z p1 wNO wBN wBT wCO h0 n0 _ T2.heap _
    rw [e2]
    exact ⟨by simp [own_pick, hc1_1], N0, rfl⟩
  · skip
    refine Go.of (fun t k => XS.ifYes X0.here hx rfl (pc0 := 1) (pc' := 8) rfl (hb hby d1_1) rfl ((if0 _ _).trans (feq hc1_1).2) (by decide) (by decide) k) ?_
    show Go _ _ _ _ _ _ _ (s₁.setTop (mkF m 8 #[.val (.int p1)] []))
    refine Go.of (fun t k => XS.iloadN X0.here hx rfl (hb hby d1_8) rfl k) ?_
    show Go _ _ _ _ _ _ _ (s₁.setTop (mkF m 9 #[.val (.int p1)] [(.int p1)]))
    refine Go.of (fun t k => XS.iconst X0.here hx rfl (hb hby d1_9) k) ?_
    show Go _ _ _ _ _ _ _ (s₁.setTop (mkF m 10 #[.val (.int p1)] [(.int (1 : Int32)), (.int p1)]))
    by_cases hc10_3 : p1 = (1 : Int32)
    · skip
      refine Go.of (fun t k => XS.icmpNo X0.here hx rfl (hb hby d1_10) rfl (teq hc10_3).2 k) ?_
      show Go _ _ _ _ _ _ _ (s₁.setTop (mkF m 13 #[.val (.int p1)] []))
      obtain ⟨T4, X4, e4, st4⟩ := getS2 X0 hx hZ hown (host := "") (Or.inl (hw _ (List.mem_of_getElem? (i := 106) rfl))) Via.refl e0 S_BY_NAME (g := (mkF m 13 #[.val (.int p1)] [])) rfl (hb hby d1_13)
      refine Go.of st4 ?_
      show Go _ _ _ _ _ _ _ (T4.setTop (mkF m 16 #[.val (.int p1)] [(.ref wBN)]))
      refine Go.out X4 (v := some (.ref wBN)) (fun h => by rw [Bd.returns] at h; cases h) hlk (fun fs hr => retOut X4 hx (t := (.object "com/example/hermit_crab/hermitcrab/definition/BeanDefinition$Autowiring$Mode")) Bd.returns rfl (Or.inr (Or.inr (Or.inr (Or.inr ⟨rfl, rfl, rfl⟩)))) (hb hby d1_16) hr) ?_ (by decide) (by decide)
      show Q1 Z p1 wNO wBN wBT wCO h0 n0 _ T4.heap _
      rw [e4]
      exact ⟨by simp [own_pick, hc1_1, hc10_3], N0, rfl⟩
    · skip
      refine Go.of (fun t k => XS.icmpYes X0.here hx rfl (pc0 := 10) (pc' := 17) rfl (hb hby d1_10) rfl (feq hc10_3).2 (by decide) (by decide) k) ?_
      show Go _ _ _ _ _ _ _ (s₁.setTop (mkF m 17 #[.val (.int p1)] []))
      refine Go.of (fun t k => XS.iloadN X0.here hx rfl (hb hby d1_17) rfl k) ?_
      show Go _ _ _ _ _ _ _ (s₁.setTop (mkF m 18 #[.val (.int p1)] [(.int p1)]))
      refine Go.of (fun t k => XS.iconst X0.here hx rfl (hb hby d1_18) k) ?_
      show Go _ _ _ _ _ _ _ (s₁.setTop (mkF m 19 #[.val (.int p1)] [(.int (2 : Int32)), (.int p1)]))
      by_cases hc19_5 : p1 = (2 : Int32)
      · skip
        refine Go.of (fun t k => XS.icmpNo X0.here hx rfl (hb hby d1_19) rfl (teq hc19_5).2 k) ?_
        show Go _ _ _ _ _ _ _ (s₁.setTop (mkF m 22 #[.val (.int p1)] []))
        obtain ⟨T6, X6, e6, st6⟩ := getS2 X0 hx hZ hown (host := "") (Or.inl (hw _ (List.mem_of_getElem? (i := 104) rfl))) Via.refl e0 S_BY_TYPE (g := (mkF m 22 #[.val (.int p1)] [])) rfl (hb hby d1_22)
        refine Go.of st6 ?_
        show Go _ _ _ _ _ _ _ (T6.setTop (mkF m 25 #[.val (.int p1)] [(.ref wBT)]))
        refine Go.out X6 (v := some (.ref wBT)) (fun h => by rw [Bd.returns] at h; cases h) hlk (fun fs hr => retOut X6 hx (t := (.object "com/example/hermit_crab/hermitcrab/definition/BeanDefinition$Autowiring$Mode")) Bd.returns rfl (Or.inr (Or.inr (Or.inr (Or.inr ⟨rfl, rfl, rfl⟩)))) (hb hby d1_25) hr) ?_ (by decide) (by decide)
        show Q1 Z p1 wNO wBN wBT wCO h0 n0 _ T6.heap _
        rw [e6]
        exact ⟨by simp [own_pick, hc1_1, hc10_3, hc19_5], N0, rfl⟩
      · skip
        refine Go.of (fun t k => XS.icmpYes X0.here hx rfl (pc0 := 19) (pc' := 26) rfl (hb hby d1_19) rfl (feq hc19_5).2 (by decide) (by decide) k) ?_
        show Go _ _ _ _ _ _ _ (s₁.setTop (mkF m 26 #[.val (.int p1)] []))
        obtain ⟨T7, X7, e7, st7⟩ := getS2 X0 hx hZ hown (host := "") (Or.inl (hw _ (List.mem_of_getElem? (i := 4) rfl))) Via.refl e0 S_CONSTRUCTOR (g := (mkF m 26 #[.val (.int p1)] [])) rfl (hb hby d1_26)
        refine Go.of st7 ?_
        show Go _ _ _ _ _ _ _ (T7.setTop (mkF m 29 #[.val (.int p1)] [(.ref wCO)]))
        refine Go.out X7 (v := some (.ref wCO)) (fun h => by rw [Bd.returns] at h; cases h) hlk (fun fs hr => retOut X7 hx (t := (.object "com/example/hermit_crab/hermitcrab/definition/BeanDefinition$Autowiring$Mode")) Bd.returns rfl (Or.inr (Or.inr (Or.inr (Or.inr ⟨rfl, rfl, rfl⟩)))) (hb hby d1_29) hr) ?_ (by decide) (by decide)
        show Q1 Z p1 wNO wBN wBT wCO h0 n0 _ T7.heap _
        rw [e7]
        exact ⟨by simp [own_pick, hc1_1, hc10_3, hc19_5], N0, rfl⟩
theorem pn_1 : plainName "java/util/AbstractCollection" = true := by first | (simp [plainName, overriddenIn]; done) | decide +kernel
theorem d4_0 : decode jdk_22_method_1_code 0 = .ok (.aload_n 0, 1) := by decide +kernel
theorem d4_1 : decode jdk_22_method_1_code 1 = .ok (.invokespecial 1, 3) := by decide +kernel
theorem d4_4 : decode jdk_22_method_1_code 4 = .ok (.return_, 1) := by decide +kernel
def Q4 (Z : State) (a1 : Nat) (h0 : Heap) (n0 : Nat) (v : Option Value) (h : Heap) (L : List Loc) : Prop := v = none ∧ Fr n0 L ∧ h = h0
set_option maxRecDepth 65536 in
set_option maxHeartbeats 40000000 in
theorem rm4 (l : Launch) (Z : State) (a0 : Array Value) (hw : ∀ d ∈ tables_1, d.before a0 Z = true) (ws : List Jvm.Cond) (a1 : Nat) (h0 : Heap) (n0 : Nat) (Z0 : n0 ≤ h0.size) :
    MetFree l (⟨"java/util/AbstractCollection", "<init>", "()V"⟩ : MethodName) (head1 (Jvm.Cond.code (⟨"java/util/AbstractCollection", "<init>", "()V"⟩ : MethodName) jdk_22_method_1_code 1 none :: ws) ({ frames := 1, cells := 0, slots := 0, locals := 12 } : Room)) (fun a U => a = #[(.ref a1)] ∧ Z.Warmed39 U.vm ∧ U.heap = h0) (fun _ _ _ _ _ => True) (fun _ U o U' => ∃ v L, o = .returned v ∧ Q4 Z a1 h0 n0 v U'.heap L ∧ FrameEnd U o U' L ({ frames := 1, cells := 0, slots := 0, locals := 12 } : Room).cells ({ frames := 1, cells := 0, slots := 0, locals := 12 } : Room).slots) := by
  refine MetFree.of_bodySF (plainFor_of_name pn_1) hisR ?_
  intro p e s m args below meth c s₁ Bd hml0 hP hK
  obtain ⟨rfl, hZ, hh⟩ := hP
  have hx := Bd.exec
  have hby := Bd.bytes
  have hml : c.maxLocals = 1 := hml0
  have hown : s.vm.findClass "java/util/AbstractCollection" = some m.cls := findClass_of_methodNamed Bd.named
  have hnm := (name_of_methodNamed Bd.named Bd.method).1
  have hlk : meth.locks = false := BodyLoose.notSynchronized Bd
  have X0 : Stand p l e ({ frames := 1, cells := 0, slots := 0, locals := 12 } : Room) s m #[(.ref a1)] below meth c s₁ [] 0 0 := Stand.of_body Bd
  have e0 : s₁.heap = h0 := by rw [← hh, Bd.state]; rfl
  have N0 := Fr.nil n0
  have hef : entryFrame m #[(.ref a1)] 1 = mkF m 0 #[.val (.ref a1)] [] := by first | (simp [entryFrame, mkF, argsToLocals, Value.category]; done) | rfl
  show Go p e below s ({ frames := 1, cells := 0, slots := 0, locals := 12 } : Room).cells ({ frames := 1, cells := 0, slots := 0, locals := 12 } : Room).slots (Q4 Z a1 h0 n0) (s₁.setTop (entryFrame m #[(.ref a1)] 1))
  rw [hef]
  refine Go.of (fun t k => XS.aloadN X0.here hx rfl (hb hby d4_0) rfl rfl k) ?_
  show Go _ _ _ _ _ _ _ (s₁.setTop (mkF m 1 #[.val (.ref a1)] [(.ref a1)]))
  obtain ⟨T1, X1, e1, st1⟩ := initO X0 hx hZ hown (hw _ (List.mem_of_getElem? (i := 25) rfl)) (hw _ (List.mem_of_getElem? (i := 26) rfl)) (hw _ (List.mem_of_getElem? (i := 27) rfl)) e0 (g := (mkF m 1 #[.val (.ref a1)] [(.ref a1)])) rfl (by rw [hml]; rfl) rfl (hb hby d4_1) (by decide) (W := 0) (by show 2 * 0 + _ ≤ _; exact Nat.le_of_eq rfl) (by decide)
  refine Go.of st1 ?_
  show Go _ _ _ _ _ _ _ (T1.setTop (mkF m 4 #[.val (.ref a1)] []))
  refine Go.out X1 (v := none) (fun _ => rfl) hlk (fun fs hr => X1.returnOut hx Bd.returns (hb hby d4_4) hr) ?_ (by decide) (by decide)
  show Q4 Z a1 h0 n0 _ T1.heap _
  rw [e1]
  exact ⟨rfl, N0, rfl⟩
theorem pn_2 : plainName "java/util/AbstractList" = true := by first | (simp [plainName, overriddenIn]; done) | decide +kernel
theorem pd_0 : parseMethodDescriptor "()V" = some ⟨[], none⟩ := by decide +kernel
theorem d3_0 : decode jdk_39_method_1_code 0 = .ok (.aload_n 0, 1) := by decide +kernel
theorem d3_1 : decode jdk_39_method_1_code 1 = .ok (.invokespecial 1, 3) := by decide +kernel
theorem d3_4 : decode jdk_39_method_1_code 4 = .ok (.aload_n 0, 1) := by decide +kernel
theorem d3_5 : decode jdk_39_method_1_code 5 = .ok (.iconst 0, 1) := by decide +kernel
theorem d3_6 : decode jdk_39_method_1_code 6 = .ok (.putfield 7, 3) := by decide +kernel
theorem d3_9 : decode jdk_39_method_1_code 9 = .ok (.return_, 1) := by decide +kernel
def Q3 (Z : State) (a1 : Nat) (h0 : Heap) (n0 : Nat) (v : Option Value) (h : Heap) (L : List Loc) : Prop := v = none ∧ Fr n0 L ∧ Keep h0 h [a1] ∧ Fld Z h a1 "java/util/ArrayList" "elementData" "[Ljava/lang/Object;" .null
set_option maxRecDepth 65536 in
set_option maxHeartbeats 40000000 in
theorem rm3 (l : Launch) (Z : State) (a0 : Array Value) (hw : ∀ d ∈ tables_1, d.before a0 Z = true) (ws : List Jvm.Cond) (a1 : Nat) (h0 : Heap) (n0 : Nat) (Z0 : n0 ≤ h0.size) (E1 : Exa Z h0 a1 "java/util/ArrayList") (g1 : n0 ≤ a1) (F1 : Fld Z h0 a1 "java/util/AbstractList" "modCount" "I" (.int (0 : Int32))) (F2 : Fld Z h0 a1 "java/util/ArrayList" "elementData" "[Ljava/lang/Object;" .null) :
    MetFree l (⟨"java/util/AbstractList", "<init>", "()V"⟩ : MethodName) (head1 (Jvm.Cond.code (⟨"java/util/AbstractList", "<init>", "()V"⟩ : MethodName) jdk_39_method_1_code 1 none :: ws) ({ frames := 2, cells := 0, slots := 0, locals := 24 } : Room)) (fun a U => a = #[(.ref a1)] ∧ Z.Warmed39 U.vm ∧ U.heap = h0) (fun _ _ _ _ _ => True) (fun _ U o U' => ∃ v L, o = .returned v ∧ Q3 Z a1 h0 n0 v U'.heap L ∧ FrameEnd U o U' L ({ frames := 2, cells := 0, slots := 0, locals := 24 } : Room).cells ({ frames := 2, cells := 0, slots := 0, locals := 24 } : Room).slots) := by
  refine MetFree.of_bodySF (plainFor_of_name pn_2) hisR ?_
  intro p e s m args below meth c s₁ Bd hml0 hP hK
  obtain ⟨rfl, hZ, hh⟩ := hP
  have hx := Bd.exec
  have hby := Bd.bytes
  have hml : c.maxLocals = 1 := hml0
  have hown : s.vm.findClass "java/util/AbstractList" = some m.cls := findClass_of_methodNamed Bd.named
  have hnm := (name_of_methodNamed Bd.named Bd.method).1
  have hlk : meth.locks = false := BodyLoose.notSynchronized Bd
  have X0 : Stand p l e ({ frames := 2, cells := 0, slots := 0, locals := 24 } : Room) s m #[(.ref a1)] below meth c s₁ [] 0 0 := Stand.of_body Bd
  have e0 : s₁.heap = h0 := by rw [← hh, Bd.state]; rfl
  have N0 := Fr.nil n0
  have hef : entryFrame m #[(.ref a1)] 1 = mkF m 0 #[.val (.ref a1)] [] := by first | (simp [entryFrame, mkF, argsToLocals, Value.category]; done) | rfl
  show Go p e below s ({ frames := 2, cells := 0, slots := 0, locals := 24 } : Room).cells ({ frames := 2, cells := 0, slots := 0, locals := 24 } : Room).slots (Q3 Z a1 h0 n0) (s₁.setTop (entryFrame m #[(.ref a1)] 1))
  rw [hef]
  refine Go.of (fun t k => XS.aloadN X0.here hx rfl (hb hby d3_0) rfl rfl k) ?_
  show Go _ _ _ _ _ _ _ (s₁.setTop (mkF m 1 #[.val (.ref a1)] [(.ref a1)]))
  obtain ⟨_, _, ⟨T1, L1, k1, n1⟩, -, X1, ⟨Lc1, hQ1, l1, y1, z1⟩, st1⟩ := X0.specialBack hx (y := (⟨"java/util/AbstractCollection", "<init>", "()V"⟩ : MethodName)) rfl hown (mvT hZ (hw _ (List.mem_of_getElem? (i := 19) rfl))) (mvT hZ (hw _ (List.mem_of_getElem? (i := 20) rfl))) (mvT hZ (hw _ (List.mem_of_getElem? (i := 24) rfl))) (by decide) (backOf (W := 0) (rm4 l Z a0 hw [] a1 h0 n0 Z0 ) hZ (hw _ (List.mem_of_getElem? (i := 24) rfl)) (hw _ (List.mem_of_getElem? (i := 23) rfl)) (by decide) (by decide)) (g := (mkF m 1 #[.val (.ref a1)] [(.ref a1)])) rfl (by rw [hml]; rfl) (Steps.refl _) (a := a1) (argsL := []) (rest := []) (lenOf pd_0 rfl) rfl (by show 2 * 0 + _ ≤ _; exact Nat.le_of_eq rfl) (hb hby d3_1) (fun _ _ => ⟨rfl, e0, (by decide : 0 + 0 ≤ _), (by decide : 0 + 0 ≤ _)⟩)
  dsimp only [Pt.U, Pt.locs, Pt.cells, Pt.slots] at X1 l1 y1 z1 st1 hQ1
  subst l1 y1 z1
  obtain ⟨rfl, N1q, e1⟩ := hQ1
  have N1 := Fr.app N0 N1q
  refine Go.tr st1 ?_
  show Go _ _ _ _ _ _ _ (T1.setTop (mkF m 4 #[.val (.ref a1)] []))
  refine Go.of (fun t k => XS.aloadN X1.here hx rfl (hb hby d3_4) rfl rfl k) ?_
  show Go _ _ _ _ _ _ _ (T1.setTop (mkF m 5 #[.val (.ref a1)] [(.ref a1)]))
  refine Go.of (fun t k => XS.iconst X1.here hx rfl (hb hby d3_5) k) ?_
  show Go _ _ _ _ _ _ _ (T1.setTop (mkF m 6 #[.val (.ref a1)] [(.int (0 : Int32)), (.ref a1)]))
  obtain ⟨T2, h2, X2, e2, W2, st2⟩ := putF X1 hx hZ hown (host := "") (Or.inl (hw _ (List.mem_of_getElem? (i := 28) rfl))) Via.refl e1 F1 E1 (Or.inl (hw _ (List.mem_of_getElem? (i := 29) rfl))) (hw _ (List.mem_of_getElem? (i := 8) rfl)) (ty := .int) (by decide) rfl rfl (g := (mkF m 6 #[.val (.ref a1)] [(.int (0 : Int32)), (.ref a1)])) rfl rfl (hb hby d3_6)
  refine Go.of st2 ?_
  have Fw2 := F1.same W2
  have hs3 : h0.size ≤ h2.size := Nat.le_of_eq W2.size.symm
  have N2 := Fr.snoc X2 N1 g1
  show Go _ _ _ _ _ _ _ (T2.setTop (mkF m 9 #[.val (.ref a1)] []))
  refine Go.out X2 (v := none) (fun _ => rfl) hlk (fun fs hr => X2.returnOut hx Bd.returns (hb hby d3_9) hr) ?_ (by decide) (by decide)
  show Q3 Z a1 h0 n0 _ T2.heap _
  have f4 := (F2.other W2 (Or.inr (slot_ne (Or.inl (hw _ (List.mem_of_getElem? (i := 32) rfl))) (Or.inl (hw _ (List.mem_of_getElem? (i := 29) rfl))) (by decide) (t := (.array (.object "java/lang/Object"))) (t' := .int) (by decide) (by decide))))
  rw [e2]
  exact ⟨rfl, N2, ((Keep.refl h0 [a1]).wr W2 (Or.inl (List.mem_of_getElem? (i := 0) rfl))), f4⟩
theorem pn_3 : plainName "java/util/ArrayList" = true := by first | (simp [plainName, overriddenIn]; done) | decide +kernel
theorem d2_0 : decode jdk_38_method_2_code 0 = .ok (.aload_n 0, 1) := by decide +kernel
theorem d2_1 : decode jdk_38_method_2_code 1 = .ok (.invokespecial 1, 3) := by decide +kernel
theorem d2_4 : decode jdk_38_method_2_code 4 = .ok (.aload_n 0, 1) := by decide +kernel
theorem d2_5 : decode jdk_38_method_2_code 5 = .ok (.getstatic 39, 3) := by decide +kernel
theorem d2_8 : decode jdk_38_method_2_code 8 = .ok (.putfield 9, 3) := by decide +kernel
theorem d2_11 : decode jdk_38_method_2_code 11 = .ok (.return_, 1) := by decide +kernel
def Q2 (Z : State) (a1 : Nat) (wD : Nat) (h0 : Heap) (n0 : Nat) (v : Option Value) (h : Heap) (L : List Loc) : Prop := v = none ∧ Fr n0 L ∧ Keep h0 h [a1] ∧ Exa Z h a1 "java/util/ArrayList"
set_option maxRecDepth 65536 in
set_option maxHeartbeats 40000000 in
theorem rm2 (l : Launch) (Z : State) (a0 : Array Value) (hw : ∀ d ∈ tables_1, d.before a0 Z = true) (ws : List Jvm.Cond) (a1 : Nat) (wD : Nat) (h0 : Heap) (n0 : Nat) (Z0 : n0 ≤ h0.size) (O0 : Old Z n0 h0) (S_D : Sta Z Z.heap "java/util/ArrayList" "DEFAULTCAPACITY_EMPTY_ELEMENTDATA" "[Ljava/lang/Object;" (.ref wD)) (E1 : Exa Z h0 a1 "java/util/ArrayList") (g1 : n0 ≤ a1) (F1 : Fld Z h0 a1 "java/util/AbstractList" "modCount" "I" (.int (0 : Int32))) (F2 : Fld Z h0 a1 "java/util/ArrayList" "elementData" "[Ljava/lang/Object;" .null) :
    MetFree l (⟨"java/util/ArrayList", "<init>", "()V"⟩ : MethodName) (head1 (Jvm.Cond.code (⟨"java/util/ArrayList", "<init>", "()V"⟩ : MethodName) jdk_38_method_2_code 1 none :: ws) ({ frames := 3, cells := 0, slots := 0, locals := 36 } : Room)) (fun a U => a = #[(.ref a1)] ∧ Z.Warmed39 U.vm ∧ U.heap = h0) (fun _ _ _ _ _ => True) (fun _ U o U' => ∃ v L, o = .returned v ∧ Q2 Z a1 wD h0 n0 v U'.heap L ∧ FrameEnd U o U' L ({ frames := 3, cells := 0, slots := 0, locals := 36 } : Room).cells ({ frames := 3, cells := 0, slots := 0, locals := 36 } : Room).slots) := by
  refine MetFree.of_bodySF (plainFor_of_name pn_3) hisR ?_
  intro p e s m args below meth c s₁ Bd hml0 hP hK
  obtain ⟨rfl, hZ, hh⟩ := hP
  have hx := Bd.exec
  have hby := Bd.bytes
  have hml : c.maxLocals = 1 := hml0
  have hown : s.vm.findClass "java/util/ArrayList" = some m.cls := findClass_of_methodNamed Bd.named
  have hnm := (name_of_methodNamed Bd.named Bd.method).1
  have hlk : meth.locks = false := BodyLoose.notSynchronized Bd
  have X0 : Stand p l e ({ frames := 3, cells := 0, slots := 0, locals := 36 } : Room) s m #[(.ref a1)] below meth c s₁ [] 0 0 := Stand.of_body Bd
  have e0 : s₁.heap = h0 := by rw [← hh, Bd.state]; rfl
  have N0 := Fr.nil n0
  have hef : entryFrame m #[(.ref a1)] 1 = mkF m 0 #[.val (.ref a1)] [] := by first | (simp [entryFrame, mkF, argsToLocals, Value.category]; done) | rfl
  show Go p e below s ({ frames := 3, cells := 0, slots := 0, locals := 36 } : Room).cells ({ frames := 3, cells := 0, slots := 0, locals := 36 } : Room).slots (Q2 Z a1 wD h0 n0) (s₁.setTop (entryFrame m #[(.ref a1)] 1))
  rw [hef]
  refine Go.of (fun t k => XS.aloadN X0.here hx rfl (hb hby d2_0) rfl rfl k) ?_
  show Go _ _ _ _ _ _ _ (s₁.setTop (mkF m 1 #[.val (.ref a1)] [(.ref a1)]))
  obtain ⟨_, _, ⟨T1, L1, k1, n1⟩, -, X1, ⟨Lc1, hQ1, l1, y1, z1⟩, st1⟩ := X0.specialBack hx (y := (⟨"java/util/AbstractList", "<init>", "()V"⟩ : MethodName)) rfl hown (mvT hZ (hw _ (List.mem_of_getElem? (i := 13) rfl))) (mvT hZ (hw _ (List.mem_of_getElem? (i := 14) rfl))) (mvT hZ (hw _ (List.mem_of_getElem? (i := 18) rfl))) (by decide) (backOf (W := 0) (rm3 l Z a0 hw [] a1 h0 n0 Z0 E1 g1 F1 F2) hZ (hw _ (List.mem_of_getElem? (i := 18) rfl)) (hw _ (List.mem_of_getElem? (i := 17) rfl)) (by decide) (by decide)) (g := (mkF m 1 #[.val (.ref a1)] [(.ref a1)])) rfl (by rw [hml]; rfl) (Steps.refl _) (a := a1) (argsL := []) (rest := []) (lenOf pd_0 rfl) rfl (by show 2 * 0 + _ ≤ _; exact Nat.le_of_eq rfl) (hb hby d2_1) (fun _ _ => ⟨rfl, e0, (by decide : 0 + 0 ≤ _), (by decide : 0 + 0 ≤ _)⟩)
  dsimp only [Pt.U, Pt.locs, Pt.cells, Pt.slots] at X1 l1 y1 z1 st1 hQ1
  subst l1 y1 z1
  obtain ⟨rfl, N1q, K1, Fe1⟩ := hQ1
  have N1 := Fr.app N0 N1q
  refine Go.tr st1 ?_
  have Sd1 : Sta Z T1.heap "java/util/ArrayList" "DEFAULTCAPACITY_EMPTY_ELEMENTDATA" "[Ljava/lang/Object;" (.ref wD) := S_D.ext (O0.keep K1 (allS g1 all0)).2
  have hs2 : h0.size ≤ T1.heap.size := K1.1
  show Go _ _ _ _ _ _ _ (T1.setTop (mkF m 4 #[.val (.ref a1)] []))
  refine Go.of (fun t k => XS.aloadN X1.here hx rfl (hb hby d2_4) rfl rfl k) ?_
  show Go _ _ _ _ _ _ _ (T1.setTop (mkF m 5 #[.val (.ref a1)] [(.ref a1)]))
  obtain ⟨T3, X3, e3, st3⟩ := getS2 X1 hx hZ hown (host := "") (Or.inl (hw _ (List.mem_of_getElem? (i := 30) rfl))) Via.refl rfl Sd1 (g := (mkF m 5 #[.val (.ref a1)] [(.ref a1)])) rfl (hb hby d2_5)
  refine Go.of st3 ?_
  show Go _ _ _ _ _ _ _ (T3.setTop (mkF m 8 #[.val (.ref a1)] [(.ref wD), (.ref a1)]))
  have f4 := (E1.keep K1)
  obtain ⟨T5, h5, X5, e5, W5, st5⟩ := putF X3 hx hZ hown (host := "") (Or.inl (hw _ (List.mem_of_getElem? (i := 31) rfl))) Via.refl e3 Fe1 f4 (Or.inl (hw _ (List.mem_of_getElem? (i := 32) rfl))) (hw _ (List.mem_of_getElem? (i := 8) rfl)) (ty := (.array (.object "java/lang/Object"))) (by decide) rfl rfl (g := (mkF m 8 #[.val (.ref a1)] [(.ref wD), (.ref a1)])) rfl rfl (hb hby d2_8)
  refine Go.of st5 ?_
  have Fw5 := Fe1.same W5
  have hs6 : T1.heap.size ≤ h5.size := Nat.le_of_eq W5.size.symm
  have N5 := Fr.snoc X5 N1 g1
  show Go _ _ _ _ _ _ _ (T5.setTop (mkF m 11 #[.val (.ref a1)] []))
  refine Go.out X5 (v := none) (fun _ => rfl) hlk (fun fs hr => X5.returnOut hx Bd.returns (hb hby d2_11) hr) ?_ (by decide) (by decide)
  show Q2 Z a1 wD h0 n0 _ T5.heap _
  have f7 := (f4.wr W5)
  rw [e5]
  exact ⟨rfl, N5, (((Keep.refl h0 [a1]).trans K1 (allS (Or.inl (List.mem_of_getElem? (i := 0) rfl)) all0)).wr W5 (Or.inl (List.mem_of_getElem? (i := 0) rfl))), f7⟩
theorem pn_4 : plainName "java/lang/Record" = true := by first | (simp [plainName, overriddenIn]; done) | decide +kernel
theorem d7_0 : decode jdk_30_method_1_code 0 = .ok (.aload_n 0, 1) := by decide +kernel
theorem d7_1 : decode jdk_30_method_1_code 1 = .ok (.invokespecial 1, 3) := by decide +kernel
theorem d7_4 : decode jdk_30_method_1_code 4 = .ok (.return_, 1) := by decide +kernel
def Q7 (Z : State) (a1 : Nat) (h0 : Heap) (n0 : Nat) (v : Option Value) (h : Heap) (L : List Loc) : Prop := v = none ∧ Fr n0 L ∧ h = h0
set_option maxRecDepth 65536 in
set_option maxHeartbeats 40000000 in
theorem rm7 (l : Launch) (Z : State) (a0 : Array Value) (hw : ∀ d ∈ tables_1, d.before a0 Z = true) (ws : List Jvm.Cond) (a1 : Nat) (h0 : Heap) (n0 : Nat) (Z0 : n0 ≤ h0.size) :
    MetFree l (⟨"java/lang/Record", "<init>", "()V"⟩ : MethodName) (head1 (Jvm.Cond.code (⟨"java/lang/Record", "<init>", "()V"⟩ : MethodName) jdk_30_method_1_code 1 none :: ws) ({ frames := 1, cells := 0, slots := 0, locals := 12 } : Room)) (fun a U => a = #[(.ref a1)] ∧ Z.Warmed39 U.vm ∧ U.heap = h0) (fun _ _ _ _ _ => True) (fun _ U o U' => ∃ v L, o = .returned v ∧ Q7 Z a1 h0 n0 v U'.heap L ∧ FrameEnd U o U' L ({ frames := 1, cells := 0, slots := 0, locals := 12 } : Room).cells ({ frames := 1, cells := 0, slots := 0, locals := 12 } : Room).slots) := by
  refine MetFree.of_bodySF (plainFor_of_name pn_4) hisR ?_
  intro p e s m args below meth c s₁ Bd hml0 hP hK
  obtain ⟨rfl, hZ, hh⟩ := hP
  have hx := Bd.exec
  have hby := Bd.bytes
  have hml : c.maxLocals = 1 := hml0
  have hown : s.vm.findClass "java/lang/Record" = some m.cls := findClass_of_methodNamed Bd.named
  have hnm := (name_of_methodNamed Bd.named Bd.method).1
  have hlk : meth.locks = false := BodyLoose.notSynchronized Bd
  have X0 : Stand p l e ({ frames := 1, cells := 0, slots := 0, locals := 12 } : Room) s m #[(.ref a1)] below meth c s₁ [] 0 0 := Stand.of_body Bd
  have e0 : s₁.heap = h0 := by rw [← hh, Bd.state]; rfl
  have N0 := Fr.nil n0
  have hef : entryFrame m #[(.ref a1)] 1 = mkF m 0 #[.val (.ref a1)] [] := by first | (simp [entryFrame, mkF, argsToLocals, Value.category]; done) | rfl
  show Go p e below s ({ frames := 1, cells := 0, slots := 0, locals := 12 } : Room).cells ({ frames := 1, cells := 0, slots := 0, locals := 12 } : Room).slots (Q7 Z a1 h0 n0) (s₁.setTop (entryFrame m #[(.ref a1)] 1))
  rw [hef]
  refine Go.of (fun t k => XS.aloadN X0.here hx rfl (hb hby d7_0) rfl rfl k) ?_
  show Go _ _ _ _ _ _ _ (s₁.setTop (mkF m 1 #[.val (.ref a1)] [(.ref a1)]))
  obtain ⟨T1, X1, e1, st1⟩ := initO X0 hx hZ hown (hw _ (List.mem_of_getElem? (i := 44) rfl)) (hw _ (List.mem_of_getElem? (i := 26) rfl)) (hw _ (List.mem_of_getElem? (i := 27) rfl)) e0 (g := (mkF m 1 #[.val (.ref a1)] [(.ref a1)])) rfl (by rw [hml]; rfl) rfl (hb hby d7_1) (by decide) (W := 0) (by show 2 * 0 + _ ≤ _; exact Nat.le_of_eq rfl) (by decide)
  refine Go.of st1 ?_
  show Go _ _ _ _ _ _ _ (T1.setTop (mkF m 4 #[.val (.ref a1)] []))
  refine Go.out X1 (v := none) (fun _ => rfl) hlk (fun fs hr => X1.returnOut hx Bd.returns (hb hby d7_4) hr) ?_ (by decide) (by decide)
  show Q7 Z a1 h0 n0 _ T1.heap _
  rw [e1]
  exact ⟨rfl, N0, rfl⟩
theorem pn_5 : plainName "com/example/hermit_crab/hermitcrab/xml/BeanElements$Defaults" = true := by first | (simp [plainName, overriddenIn]; done) | decide +kernel
theorem d6_0 : decode prog_111_method_1_code 0 = .ok (.aload_n 0, 1) := by decide +kernel
theorem d6_1 : decode prog_111_method_1_code 1 = .ok (.invokespecial 1, 3) := by decide +kernel
theorem d6_4 : decode prog_111_method_1_code 4 = .ok (.aload_n 0, 1) := by decide +kernel
theorem d6_5 : decode prog_111_method_1_code 5 = .ok (.iload_n 1, 1) := by decide +kernel
theorem d6_6 : decode prog_111_method_1_code 6 = .ok (.putfield 7, 3) := by decide +kernel
theorem d6_9 : decode prog_111_method_1_code 9 = .ok (.aload_n 0, 1) := by decide +kernel
theorem d6_10 : decode prog_111_method_1_code 10 = .ok (.aload_n 2, 1) := by decide +kernel
theorem d6_11 : decode prog_111_method_1_code 11 = .ok (.putfield 13, 3) := by decide +kernel
theorem d6_14 : decode prog_111_method_1_code 14 = .ok (.aload_n 0, 1) := by decide +kernel
theorem d6_15 : decode prog_111_method_1_code 15 = .ok (.aload_n 3, 1) := by decide +kernel
theorem d6_16 : decode prog_111_method_1_code 16 = .ok (.putfield 17, 3) := by decide +kernel
theorem d6_19 : decode prog_111_method_1_code 19 = .ok (.return_, 1) := by decide +kernel
def Q6n (Z : State) (a1 : Nat) (p2 : Int32) (a4 : Nat) (h0 : Heap) (n0 : Nat) (v : Option Value) (h : Heap) (L : List Loc) : Prop := v = none ∧ Fr n0 L ∧ Keep h0 h [a1] ∧ Exa Z h a1 "com/example/hermit_crab/hermitcrab/xml/BeanElements$Defaults" ∧ Fld Z h a1 "com/example/hermit_crab/hermitcrab/xml/BeanElements$Defaults" "lazyInit" "Z" (.int p2) ∧ Fld Z h a1 "com/example/hermit_crab/hermitcrab/xml/BeanElements$Defaults" "autowireCandidates" "Ljava/util/List;" .null ∧ Fld Z h a1 "com/example/hermit_crab/hermitcrab/xml/BeanElements$Defaults" "autowire" "Lcom/example/hermit_crab/hermitcrab/definition/BeanDefinition$Autowiring$Mode;" (.ref a4)
set_option maxRecDepth 65536 in
set_option maxHeartbeats 40000000 in
theorem rm6n (l : Launch) (Z : State) (a0 : Array Value) (hw : ∀ d ∈ tables_1, d.before a0 Z = true) (ws : List Jvm.Cond) (a1 : Nat) (p2 : Int32) (a4 : Nat) (h0 : Heap) (n0 : Nat) (Z0 : n0 ≤ h0.size) (E1 : Exa Z h0 a1 "com/example/hermit_crab/hermitcrab/xml/BeanElements$Defaults") (g1 : n0 ≤ a1) (hz : p2 = 0 ∨ p2 = 1) (F_lazyInit : Fld Z h0 a1 "com/example/hermit_crab/hermitcrab/xml/BeanElements$Defaults" "lazyInit" "Z" (.int (0 : Int32))) (F_autowireCandidates : Fld Z h0 a1 "com/example/hermit_crab/hermitcrab/xml/BeanElements$Defaults" "autowireCandidates" "Ljava/util/List;" .null) (F_autowire : Fld Z h0 a1 "com/example/hermit_crab/hermitcrab/xml/BeanElements$Defaults" "autowire" "Lcom/example/hermit_crab/hermitcrab/definition/BeanDefinition$Autowiring$Mode;" .null) :
    MetFree l (⟨"com/example/hermit_crab/hermitcrab/xml/BeanElements$Defaults", "<init>", "(ZLjava/util/List;Lcom/example/hermit_crab/hermitcrab/definition/BeanDefinition$Autowiring$Mode;)V"⟩ : MethodName) (head1 (Jvm.Cond.code (⟨"com/example/hermit_crab/hermitcrab/xml/BeanElements$Defaults", "<init>", "(ZLjava/util/List;Lcom/example/hermit_crab/hermitcrab/definition/BeanDefinition$Autowiring$Mode;)V"⟩ : MethodName) prog_111_method_1_code 4 none :: ws) ({ frames := 2, cells := 0, slots := 0, locals := 24 } : Room)) (fun a U => a = #[(.ref a1), (.int p2), .null, (.ref a4)] ∧ Z.Warmed39 U.vm ∧ U.heap = h0) (fun _ _ _ _ _ => True) (fun _ U o U' => ∃ v L, o = .returned v ∧ Q6n Z a1 p2 a4 h0 n0 v U'.heap L ∧ FrameEnd U o U' L ({ frames := 2, cells := 0, slots := 0, locals := 24 } : Room).cells ({ frames := 2, cells := 0, slots := 0, locals := 24 } : Room).slots) := by
  refine MetFree.of_bodySF (plainFor_of_name pn_5) hisR ?_
  intro p e s m args below meth c s₁ Bd hml0 hP hK
  obtain ⟨rfl, hZ, hh⟩ := hP
  have hx := Bd.exec
  have hby := Bd.bytes
  have hml : c.maxLocals = 4 := hml0
  have hown : s.vm.findClass "com/example/hermit_crab/hermitcrab/xml/BeanElements$Defaults" = some m.cls := findClass_of_methodNamed Bd.named
  have hnm := (name_of_methodNamed Bd.named Bd.method).1
  have hlk : meth.locks = false := BodyLoose.notSynchronized Bd
  have X0 : Stand p l e ({ frames := 2, cells := 0, slots := 0, locals := 24 } : Room) s m #[(.ref a1), (.int p2), .null, (.ref a4)] below meth c s₁ [] 0 0 := Stand.of_body Bd
  have e0 : s₁.heap = h0 := by rw [← hh, Bd.state]; rfl
  have N0 := Fr.nil n0
  have hef : entryFrame m #[(.ref a1), (.int p2), .null, (.ref a4)] 4 = mkF m 0 #[.val (.ref a1), .val (.int p2), .val .null, .val (.ref a4)] [] := by first | (simp [entryFrame, mkF, argsToLocals, Value.category]; done) | rfl
  show Go p e below s ({ frames := 2, cells := 0, slots := 0, locals := 24 } : Room).cells ({ frames := 2, cells := 0, slots := 0, locals := 24 } : Room).slots (Q6n Z a1 p2 a4 h0 n0) (s₁.setTop (entryFrame m #[(.ref a1), (.int p2), .null, (.ref a4)] 4))
  rw [hef]
  refine Go.of (fun t k => XS.aloadN X0.here hx rfl (hb hby d6_0) rfl rfl k) ?_
  show Go _ _ _ _ _ _ _ (s₁.setTop (mkF m 1 #[.val (.ref a1), .val (.int p2), .val .null, .val (.ref a4)] [(.ref a1)]))
  obtain ⟨_, _, ⟨T1, L1, k1, n1⟩, -, X1, ⟨Lc1, hQ1, l1, y1, z1⟩, st1⟩ := X0.specialBack hx (y := (⟨"java/lang/Record", "<init>", "()V"⟩ : MethodName)) rfl hown (mvT hZ (hw _ (List.mem_of_getElem? (i := 39) rfl))) (mvT hZ (hw _ (List.mem_of_getElem? (i := 40) rfl))) (mvT hZ (hw _ (List.mem_of_getElem? (i := 43) rfl))) (by decide) (backOf (W := 0) (rm7 l Z a0 hw [] a1 h0 n0 Z0 ) hZ (hw _ (List.mem_of_getElem? (i := 43) rfl)) (hw _ (List.mem_of_getElem? (i := 42) rfl)) (by decide) (by decide)) (g := (mkF m 1 #[.val (.ref a1), .val (.int p2), .val .null, .val (.ref a4)] [(.ref a1)])) rfl (by rw [hml]; rfl) (Steps.refl _) (a := a1) (argsL := []) (rest := []) (lenOf pd_0 rfl) rfl (by show 2 * 0 + _ ≤ _; exact Nat.le_of_eq rfl) (hb hby d6_1) (fun _ _ => ⟨rfl, e0, (by decide : 0 + 0 ≤ _), (by decide : 0 + 0 ≤ _)⟩)
  dsimp only [Pt.U, Pt.locs, Pt.cells, Pt.slots] at X1 l1 y1 z1 st1 hQ1
  subst l1 y1 z1
  obtain ⟨rfl, N1q, e1⟩ := hQ1
  have N1 := Fr.app N0 N1q
  refine Go.tr st1 ?_
  show Go _ _ _ _ _ _ _ (T1.setTop (mkF m 4 #[.val (.ref a1), .val (.int p2), .val .null, .val (.ref a4)] []))
  refine Go.of (fun t k => XS.aloadN X1.here hx rfl (hb hby d6_4) rfl rfl k) ?_
  show Go _ _ _ _ _ _ _ (T1.setTop (mkF m 5 #[.val (.ref a1), .val (.int p2), .val .null, .val (.ref a4)] [(.ref a1)]))
  refine Go.of (fun t k => XS.iloadN X1.here hx rfl (hb hby d6_5) rfl k) ?_
  show Go _ _ _ _ _ _ _ (T1.setTop (mkF m 6 #[.val (.ref a1), .val (.int p2), .val .null, .val (.ref a4)] [(.int p2), (.ref a1)]))
  obtain ⟨T2, h2, X2, e2, W2, st2⟩ := putFN X1 hx hZ hown (hw _ (List.mem_of_getElem? (i := 45) rfl)) Via.refl e1 F_lazyInit E1 (Or.inr ⟨(hw _ (List.mem_of_getElem? (i := 46) rfl)), rfl, hnm⟩) (hw _ (List.mem_of_getElem? (i := 34) rfl)) (ty := .boolean) (v' := (.int p2)) (by decide) (own_bool hz).1 (own_bool hz).2.1 (g := (mkF m 6 #[.val (.ref a1), .val (.int p2), .val .null, .val (.ref a4)] [(.int p2), (.ref a1)])) rfl rfl (hb hby d6_6)
  refine Go.of st2 ?_
  have Fw2 := F_lazyInit.same W2
  have hs3 : h0.size ≤ h2.size := Nat.le_of_eq W2.size.symm
  have N2 := Fr.snoc X2 N1 g1
  show Go _ _ _ _ _ _ _ (T2.setTop (mkF m 9 #[.val (.ref a1), .val (.int p2), .val .null, .val (.ref a4)] []))
  refine Go.of (fun t k => XS.aloadN X2.here hx rfl (hb hby d6_9) rfl rfl k) ?_
  show Go _ _ _ _ _ _ _ (T2.setTop (mkF m 10 #[.val (.ref a1), .val (.int p2), .val .null, .val (.ref a4)] [(.ref a1)]))
  refine Go.of (fun t k => XS.aloadN X2.here hx rfl (hb hby d6_10) rfl rfl k) ?_
  show Go _ _ _ _ _ _ _ (T2.setTop (mkF m 11 #[.val (.ref a1), .val (.int p2), .val .null, .val (.ref a4)] [.null, (.ref a1)]))
  have f4 := (E1.wr W2)
  have f5 := (F_autowireCandidates.other W2 (Or.inr (slot_ne (Or.inr (hw _ (List.mem_of_getElem? (i := 48) rfl))) (Or.inr (hw _ (List.mem_of_getElem? (i := 46) rfl))) (by decide) (t := (.object "java/util/List")) (t' := .boolean) (by decide) (by decide))))
  obtain ⟨T6, h6, X6, e6, W6, st6⟩ := putF X2 hx hZ hown (host := "") (Or.inl (hw _ (List.mem_of_getElem? (i := 47) rfl))) Via.refl e2 f5 f4 (Or.inr ⟨(hw _ (List.mem_of_getElem? (i := 48) rfl)), rfl, hnm⟩) (hw _ (List.mem_of_getElem? (i := 34) rfl)) (ty := (.object "java/util/List")) (by decide) rfl rfl (g := (mkF m 11 #[.val (.ref a1), .val (.int p2), .val .null, .val (.ref a4)] [.null, (.ref a1)])) rfl rfl (hb hby d6_11)
  refine Go.of st6 ?_
  have Fw6 := f5.same W6
  have hs7 : h2.size ≤ h6.size := Nat.le_of_eq W6.size.symm
  have N6 := Fr.snoc X6 N2 g1
  show Go _ _ _ _ _ _ _ (T6.setTop (mkF m 14 #[.val (.ref a1), .val (.int p2), .val .null, .val (.ref a4)] []))
  refine Go.of (fun t k => XS.aloadN X6.here hx rfl (hb hby d6_14) rfl rfl k) ?_
  show Go _ _ _ _ _ _ _ (T6.setTop (mkF m 15 #[.val (.ref a1), .val (.int p2), .val .null, .val (.ref a4)] [(.ref a1)]))
  refine Go.of (fun t k => XS.aloadN X6.here hx rfl (hb hby d6_15) rfl rfl k) ?_
  show Go _ _ _ _ _ _ _ (T6.setTop (mkF m 16 #[.val (.ref a1), .val (.int p2), .val .null, .val (.ref a4)] [(.ref a4), (.ref a1)]))
  have f8 := (f4.wr W6)
  have f9 := ((F_autowire.other W2 (Or.inr (slot_ne (Or.inr (hw _ (List.mem_of_getElem? (i := 50) rfl))) (Or.inr (hw _ (List.mem_of_getElem? (i := 46) rfl))) (by decide) (t := (.object "com/example/hermit_crab/hermitcrab/definition/BeanDefinition$Autowiring$Mode")) (t' := .boolean) (by decide) (by decide)))).other W6 (Or.inr (slot_ne (Or.inr (hw _ (List.mem_of_getElem? (i := 50) rfl))) (Or.inr (hw _ (List.mem_of_getElem? (i := 48) rfl))) (by decide) (t := (.object "com/example/hermit_crab/hermitcrab/definition/BeanDefinition$Autowiring$Mode")) (t' := (.object "java/util/List")) (by decide) (by decide))))
  obtain ⟨T10, h10, X10, e10, W10, st10⟩ := putF X6 hx hZ hown (host := "") (Or.inl (hw _ (List.mem_of_getElem? (i := 49) rfl))) Via.refl e6 f9 f8 (Or.inr ⟨(hw _ (List.mem_of_getElem? (i := 50) rfl)), rfl, hnm⟩) (hw _ (List.mem_of_getElem? (i := 34) rfl)) (ty := (.object "com/example/hermit_crab/hermitcrab/definition/BeanDefinition$Autowiring$Mode")) (by decide) rfl rfl (g := (mkF m 16 #[.val (.ref a1), .val (.int p2), .val .null, .val (.ref a4)] [(.ref a4), (.ref a1)])) rfl rfl (hb hby d6_16)
  refine Go.of st10 ?_
  have Fw10 := f9.same W10
  have hs11 : h6.size ≤ h10.size := Nat.le_of_eq W10.size.symm
  have N10 := Fr.snoc X10 N6 g1
  show Go _ _ _ _ _ _ _ (T10.setTop (mkF m 19 #[.val (.ref a1), .val (.int p2), .val .null, .val (.ref a4)] []))
  refine Go.out X10 (v := none) (fun _ => rfl) hlk (fun fs hr => X10.returnOut hx Bd.returns (hb hby d6_19) hr) ?_ (by decide) (by decide)
  show Q6n Z a1 p2 a4 h0 n0 _ T10.heap _
  have f12 := ((Fw2.other W6 (Or.inr (slot_ne (Or.inr (hw _ (List.mem_of_getElem? (i := 46) rfl))) (Or.inr (hw _ (List.mem_of_getElem? (i := 48) rfl))) (by decide) (t := .boolean) (t' := (.object "java/util/List")) (by decide) (by decide)))).other W10 (Or.inr (slot_ne (Or.inr (hw _ (List.mem_of_getElem? (i := 46) rfl))) (Or.inr (hw _ (List.mem_of_getElem? (i := 50) rfl))) (by decide) (t := .boolean) (t' := (.object "com/example/hermit_crab/hermitcrab/definition/BeanDefinition$Autowiring$Mode")) (by decide) (by decide))))
  have f13 := (Fw6.other W10 (Or.inr (slot_ne (Or.inr (hw _ (List.mem_of_getElem? (i := 48) rfl))) (Or.inr (hw _ (List.mem_of_getElem? (i := 50) rfl))) (by decide) (t := (.object "java/util/List")) (t' := (.object "com/example/hermit_crab/hermitcrab/definition/BeanDefinition$Autowiring$Mode")) (by decide) (by decide))))
  have f14 := (f8.wr W10)
  rw [e10]
  exact ⟨rfl, N10, ((((Keep.refl h0 [a1]).wr W2 (Or.inl (List.mem_of_getElem? (i := 0) rfl))).wr W6 (Or.inl (List.mem_of_getElem? (i := 0) rfl))).wr W10 (Or.inl (List.mem_of_getElem? (i := 0) rfl))), f14, f12, f13, Fw10⟩
def Q6s (Z : State) (a1 : Nat) (p2 : Int32) (a3 : Nat) (a4 : Nat) (h0 : Heap) (n0 : Nat) (v : Option Value) (h : Heap) (L : List Loc) : Prop := v = none ∧ Fr n0 L ∧ Keep h0 h [a1] ∧ Exa Z h a1 "com/example/hermit_crab/hermitcrab/xml/BeanElements$Defaults" ∧ Fld Z h a1 "com/example/hermit_crab/hermitcrab/xml/BeanElements$Defaults" "lazyInit" "Z" (.int p2) ∧ Fld Z h a1 "com/example/hermit_crab/hermitcrab/xml/BeanElements$Defaults" "autowireCandidates" "Ljava/util/List;" (.ref a3) ∧ Fld Z h a1 "com/example/hermit_crab/hermitcrab/xml/BeanElements$Defaults" "autowire" "Lcom/example/hermit_crab/hermitcrab/definition/BeanDefinition$Autowiring$Mode;" (.ref a4)
set_option maxRecDepth 65536 in
set_option maxHeartbeats 40000000 in
theorem rm6s (l : Launch) (Z : State) (a0 : Array Value) (hw : ∀ d ∈ tables_1, d.before a0 Z = true) (ws : List Jvm.Cond) (a1 : Nat) (p2 : Int32) (a3 : Nat) (a4 : Nat) (h0 : Heap) (n0 : Nat) (Z0 : n0 ≤ h0.size) (E1 : Exa Z h0 a1 "com/example/hermit_crab/hermitcrab/xml/BeanElements$Defaults") (g1 : n0 ≤ a1) (hz : p2 = 0 ∨ p2 = 1) (F_lazyInit : Fld Z h0 a1 "com/example/hermit_crab/hermitcrab/xml/BeanElements$Defaults" "lazyInit" "Z" (.int (0 : Int32))) (F_autowireCandidates : Fld Z h0 a1 "com/example/hermit_crab/hermitcrab/xml/BeanElements$Defaults" "autowireCandidates" "Ljava/util/List;" .null) (F_autowire : Fld Z h0 a1 "com/example/hermit_crab/hermitcrab/xml/BeanElements$Defaults" "autowire" "Lcom/example/hermit_crab/hermitcrab/definition/BeanDefinition$Autowiring$Mode;" .null) :
    MetFree l (⟨"com/example/hermit_crab/hermitcrab/xml/BeanElements$Defaults", "<init>", "(ZLjava/util/List;Lcom/example/hermit_crab/hermitcrab/definition/BeanDefinition$Autowiring$Mode;)V"⟩ : MethodName) (head1 (Jvm.Cond.code (⟨"com/example/hermit_crab/hermitcrab/xml/BeanElements$Defaults", "<init>", "(ZLjava/util/List;Lcom/example/hermit_crab/hermitcrab/definition/BeanDefinition$Autowiring$Mode;)V"⟩ : MethodName) prog_111_method_1_code 4 none :: ws) ({ frames := 2, cells := 0, slots := 0, locals := 24 } : Room)) (fun a U => a = #[(.ref a1), (.int p2), (.ref a3), (.ref a4)] ∧ Z.Warmed39 U.vm ∧ U.heap = h0) (fun _ _ _ _ _ => True) (fun _ U o U' => ∃ v L, o = .returned v ∧ Q6s Z a1 p2 a3 a4 h0 n0 v U'.heap L ∧ FrameEnd U o U' L ({ frames := 2, cells := 0, slots := 0, locals := 24 } : Room).cells ({ frames := 2, cells := 0, slots := 0, locals := 24 } : Room).slots) := by
  refine MetFree.of_bodySF (plainFor_of_name pn_5) hisR ?_
  intro p e s m args below meth c s₁ Bd hml0 hP hK
  obtain ⟨rfl, hZ, hh⟩ := hP
  have hx := Bd.exec
  have hby := Bd.bytes
  have hml : c.maxLocals = 4 := hml0
  have hown : s.vm.findClass "com/example/hermit_crab/hermitcrab/xml/BeanElements$Defaults" = some m.cls := findClass_of_methodNamed Bd.named
  have hnm := (name_of_methodNamed Bd.named Bd.method).1
  have hlk : meth.locks = false := BodyLoose.notSynchronized Bd
  have X0 : Stand p l e ({ frames := 2, cells := 0, slots := 0, locals := 24 } : Room) s m #[(.ref a1), (.int p2), (.ref a3), (.ref a4)] below meth c s₁ [] 0 0 := Stand.of_body Bd
  have e0 : s₁.heap = h0 := by rw [← hh, Bd.state]; rfl
  have N0 := Fr.nil n0
  have hef : entryFrame m #[(.ref a1), (.int p2), (.ref a3), (.ref a4)] 4 = mkF m 0 #[.val (.ref a1), .val (.int p2), .val (.ref a3), .val (.ref a4)] [] := by first | (simp [entryFrame, mkF, argsToLocals, Value.category]; done) | rfl
  show Go p e below s ({ frames := 2, cells := 0, slots := 0, locals := 24 } : Room).cells ({ frames := 2, cells := 0, slots := 0, locals := 24 } : Room).slots (Q6s Z a1 p2 a3 a4 h0 n0) (s₁.setTop (entryFrame m #[(.ref a1), (.int p2), (.ref a3), (.ref a4)] 4))
  rw [hef]
  refine Go.of (fun t k => XS.aloadN X0.here hx rfl (hb hby d6_0) rfl rfl k) ?_
  show Go _ _ _ _ _ _ _ (s₁.setTop (mkF m 1 #[.val (.ref a1), .val (.int p2), .val (.ref a3), .val (.ref a4)] [(.ref a1)]))
  obtain ⟨_, _, ⟨T1, L1, k1, n1⟩, -, X1, ⟨Lc1, hQ1, l1, y1, z1⟩, st1⟩ := X0.specialBack hx (y := (⟨"java/lang/Record", "<init>", "()V"⟩ : MethodName)) rfl hown (mvT hZ (hw _ (List.mem_of_getElem? (i := 39) rfl))) (mvT hZ (hw _ (List.mem_of_getElem? (i := 40) rfl))) (mvT hZ (hw _ (List.mem_of_getElem? (i := 43) rfl))) (by decide) (backOf (W := 0) (rm7 l Z a0 hw [] a1 h0 n0 Z0 ) hZ (hw _ (List.mem_of_getElem? (i := 43) rfl)) (hw _ (List.mem_of_getElem? (i := 42) rfl)) (by decide) (by decide)) (g := (mkF m 1 #[.val (.ref a1), .val (.int p2), .val (.ref a3), .val (.ref a4)] [(.ref a1)])) rfl (by rw [hml]; rfl) (Steps.refl _) (a := a1) (argsL := []) (rest := []) (lenOf pd_0 rfl) rfl (by show 2 * 0 + _ ≤ _; exact Nat.le_of_eq rfl) (hb hby d6_1) (fun _ _ => ⟨rfl, e0, (by decide : 0 + 0 ≤ _), (by decide : 0 + 0 ≤ _)⟩)
  dsimp only [Pt.U, Pt.locs, Pt.cells, Pt.slots] at X1 l1 y1 z1 st1 hQ1
  subst l1 y1 z1
  obtain ⟨rfl, N1q, e1⟩ := hQ1
  have N1 := Fr.app N0 N1q
  refine Go.tr st1 ?_
  show Go _ _ _ _ _ _ _ (T1.setTop (mkF m 4 #[.val (.ref a1), .val (.int p2), .val (.ref a3), .val (.ref a4)] []))
  refine Go.of (fun t k => XS.aloadN X1.here hx rfl (hb hby d6_4) rfl rfl k) ?_
  show Go _ _ _ _ _ _ _ (T1.setTop (mkF m 5 #[.val (.ref a1), .val (.int p2), .val (.ref a3), .val (.ref a4)] [(.ref a1)]))
  refine Go.of (fun t k => XS.iloadN X1.here hx rfl (hb hby d6_5) rfl k) ?_
  show Go _ _ _ _ _ _ _ (T1.setTop (mkF m 6 #[.val (.ref a1), .val (.int p2), .val (.ref a3), .val (.ref a4)] [(.int p2), (.ref a1)]))
  obtain ⟨T2, h2, X2, e2, W2, st2⟩ := putFN X1 hx hZ hown (hw _ (List.mem_of_getElem? (i := 45) rfl)) Via.refl e1 F_lazyInit E1 (Or.inr ⟨(hw _ (List.mem_of_getElem? (i := 46) rfl)), rfl, hnm⟩) (hw _ (List.mem_of_getElem? (i := 34) rfl)) (ty := .boolean) (v' := (.int p2)) (by decide) (own_bool hz).1 (own_bool hz).2.1 (g := (mkF m 6 #[.val (.ref a1), .val (.int p2), .val (.ref a3), .val (.ref a4)] [(.int p2), (.ref a1)])) rfl rfl (hb hby d6_6)
  refine Go.of st2 ?_
  have Fw2 := F_lazyInit.same W2
  have hs3 : h0.size ≤ h2.size := Nat.le_of_eq W2.size.symm
  have N2 := Fr.snoc X2 N1 g1
  show Go _ _ _ _ _ _ _ (T2.setTop (mkF m 9 #[.val (.ref a1), .val (.int p2), .val (.ref a3), .val (.ref a4)] []))
  refine Go.of (fun t k => XS.aloadN X2.here hx rfl (hb hby d6_9) rfl rfl k) ?_
  show Go _ _ _ _ _ _ _ (T2.setTop (mkF m 10 #[.val (.ref a1), .val (.int p2), .val (.ref a3), .val (.ref a4)] [(.ref a1)]))
  refine Go.of (fun t k => XS.aloadN X2.here hx rfl (hb hby d6_10) rfl rfl k) ?_
  show Go _ _ _ _ _ _ _ (T2.setTop (mkF m 11 #[.val (.ref a1), .val (.int p2), .val (.ref a3), .val (.ref a4)] [(.ref a3), (.ref a1)]))
  have f4 := (E1.wr W2)
  have f5 := (F_autowireCandidates.other W2 (Or.inr (slot_ne (Or.inr (hw _ (List.mem_of_getElem? (i := 48) rfl))) (Or.inr (hw _ (List.mem_of_getElem? (i := 46) rfl))) (by decide) (t := (.object "java/util/List")) (t' := .boolean) (by decide) (by decide))))
  obtain ⟨T6, h6, X6, e6, W6, st6⟩ := putF X2 hx hZ hown (host := "") (Or.inl (hw _ (List.mem_of_getElem? (i := 47) rfl))) Via.refl e2 f5 f4 (Or.inr ⟨(hw _ (List.mem_of_getElem? (i := 48) rfl)), rfl, hnm⟩) (hw _ (List.mem_of_getElem? (i := 34) rfl)) (ty := (.object "java/util/List")) (by decide) rfl rfl (g := (mkF m 11 #[.val (.ref a1), .val (.int p2), .val (.ref a3), .val (.ref a4)] [(.ref a3), (.ref a1)])) rfl rfl (hb hby d6_11)
  refine Go.of st6 ?_
  have Fw6 := f5.same W6
  have hs7 : h2.size ≤ h6.size := Nat.le_of_eq W6.size.symm
  have N6 := Fr.snoc X6 N2 g1
  show Go _ _ _ _ _ _ _ (T6.setTop (mkF m 14 #[.val (.ref a1), .val (.int p2), .val (.ref a3), .val (.ref a4)] []))
  refine Go.of (fun t k => XS.aloadN X6.here hx rfl (hb hby d6_14) rfl rfl k) ?_
  show Go _ _ _ _ _ _ _ (T6.setTop (mkF m 15 #[.val (.ref a1), .val (.int p2), .val (.ref a3), .val (.ref a4)] [(.ref a1)]))
  refine Go.of (fun t k => XS.aloadN X6.here hx rfl (hb hby d6_15) rfl rfl k) ?_
  show Go _ _ _ _ _ _ _ (T6.setTop (mkF m 16 #[.val (.ref a1), .val (.int p2), .val (.ref a3), .val (.ref a4)] [(.ref a4), (.ref a1)]))
  have f8 := (f4.wr W6)
  have f9 := ((F_autowire.other W2 (Or.inr (slot_ne (Or.inr (hw _ (List.mem_of_getElem? (i := 50) rfl))) (Or.inr (hw _ (List.mem_of_getElem? (i := 46) rfl))) (by decide) (t := (.object "com/example/hermit_crab/hermitcrab/definition/BeanDefinition$Autowiring$Mode")) (t' := .boolean) (by decide) (by decide)))).other W6 (Or.inr (slot_ne (Or.inr (hw _ (List.mem_of_getElem? (i := 50) rfl))) (Or.inr (hw _ (List.mem_of_getElem? (i := 48) rfl))) (by decide) (t := (.object "com/example/hermit_crab/hermitcrab/definition/BeanDefinition$Autowiring$Mode")) (t' := (.object "java/util/List")) (by decide) (by decide))))
  obtain ⟨T10, h10, X10, e10, W10, st10⟩ := putF X6 hx hZ hown (host := "") (Or.inl (hw _ (List.mem_of_getElem? (i := 49) rfl))) Via.refl e6 f9 f8 (Or.inr ⟨(hw _ (List.mem_of_getElem? (i := 50) rfl)), rfl, hnm⟩) (hw _ (List.mem_of_getElem? (i := 34) rfl)) (ty := (.object "com/example/hermit_crab/hermitcrab/definition/BeanDefinition$Autowiring$Mode")) (by decide) rfl rfl (g := (mkF m 16 #[.val (.ref a1), .val (.int p2), .val (.ref a3), .val (.ref a4)] [(.ref a4), (.ref a1)])) rfl rfl (hb hby d6_16)
  refine Go.of st10 ?_
  have Fw10 := f9.same W10
  have hs11 : h6.size ≤ h10.size := Nat.le_of_eq W10.size.symm
  have N10 := Fr.snoc X10 N6 g1
  show Go _ _ _ _ _ _ _ (T10.setTop (mkF m 19 #[.val (.ref a1), .val (.int p2), .val (.ref a3), .val (.ref a4)] []))
  refine Go.out X10 (v := none) (fun _ => rfl) hlk (fun fs hr => X10.returnOut hx Bd.returns (hb hby d6_19) hr) ?_ (by decide) (by decide)
  show Q6s Z a1 p2 a3 a4 h0 n0 _ T10.heap _
  have f12 := ((Fw2.other W6 (Or.inr (slot_ne (Or.inr (hw _ (List.mem_of_getElem? (i := 46) rfl))) (Or.inr (hw _ (List.mem_of_getElem? (i := 48) rfl))) (by decide) (t := .boolean) (t' := (.object "java/util/List")) (by decide) (by decide)))).other W10 (Or.inr (slot_ne (Or.inr (hw _ (List.mem_of_getElem? (i := 46) rfl))) (Or.inr (hw _ (List.mem_of_getElem? (i := 50) rfl))) (by decide) (t := .boolean) (t' := (.object "com/example/hermit_crab/hermitcrab/definition/BeanDefinition$Autowiring$Mode")) (by decide) (by decide))))
  have f13 := (Fw6.other W10 (Or.inr (slot_ne (Or.inr (hw _ (List.mem_of_getElem? (i := 48) rfl))) (Or.inr (hw _ (List.mem_of_getElem? (i := 50) rfl))) (by decide) (t := (.object "java/util/List")) (t' := (.object "com/example/hermit_crab/hermitcrab/definition/BeanDefinition$Autowiring$Mode")) (by decide) (by decide))))
  have f14 := (f8.wr W10)
  rw [e10]
  exact ⟨rfl, N10, ((((Keep.refl h0 [a1]).wr W2 (Or.inl (List.mem_of_getElem? (i := 0) rfl))).wr W6 (Or.inl (List.mem_of_getElem? (i := 0) rfl))).wr W10 (Or.inl (List.mem_of_getElem? (i := 0) rfl))), f14, f12, f13, Fw10⟩
theorem pd_1 : parseMethodDescriptor "(ZLjava/util/List;Lcom/example/hermit_crab/hermitcrab/definition/BeanDefinition$Autowiring$Mode;)V" = some ⟨[.boolean, (.object "java/util/List"), (.object "com/example/hermit_crab/hermitcrab/definition/BeanDefinition$Autowiring$Mode")], none⟩ := by decide +kernel
theorem d8_0 : decode prog_111_method_2_code 0 = .ok (.new 8, 3) := by decide +kernel
theorem d8_3 : decode prog_111_method_2_code 3 = .ok (.dup, 1) := by decide +kernel
theorem d8_4 : decode prog_111_method_2_code 4 = .ok (.iconst 0, 1) := by decide +kernel
theorem d8_5 : decode prog_111_method_2_code 5 = .ok (.aconst_null, 1) := by decide +kernel
theorem d8_6 : decode prog_111_method_2_code 6 = .ok (.aload_n 0, 1) := by decide +kernel
theorem d8_7 : decode prog_111_method_2_code 7 = .ok (.getfield 17, 3) := by decide +kernel
theorem d8_10 : decode prog_111_method_2_code 10 = .ok (.invokespecial 21, 3) := by decide +kernel
theorem d8_13 : decode prog_111_method_2_code 13 = .ok (.areturn, 1) := by decide +kernel
def Q8 (Z : State) (a1 : Nat) (a4 : Nat) (h0 : Heap) (n0 : Nat) (v : Option Value) (h : Heap) (L : List Loc) : Prop := ∃ b : Nat, v = some (.ref b) ∧ Fr n0 L ∧ Keep h0 h [] ∧ h0.size ≤ b ∧ b < h.size ∧ Exa Z h b "com/example/hermit_crab/hermitcrab/xml/BeanElements$Defaults" ∧ Fld Z h b "com/example/hermit_crab/hermitcrab/xml/BeanElements$Defaults" "lazyInit" "Z" (.int (0 : Int32)) ∧ Fld Z h b "com/example/hermit_crab/hermitcrab/xml/BeanElements$Defaults" "autowireCandidates" "Ljava/util/List;" .null ∧ Fld Z h b "com/example/hermit_crab/hermitcrab/xml/BeanElements$Defaults" "autowire" "Lcom/example/hermit_crab/hermitcrab/definition/BeanDefinition$Autowiring$Mode;" (.ref a4)
set_option maxRecDepth 65536 in
set_option maxHeartbeats 40000000 in
theorem rm8 (l : Launch) (Z : State) (a0 : Array Value) (hw : ∀ d ∈ tables_1, d.before a0 Z = true) (ws : List Jvm.Cond) (a1 : Nat) (a4 : Nat) (h0 : Heap) (n0 : Nat) (Z0 : n0 ≤ h0.size) (F1 : Fld Z h0 a1 "com/example/hermit_crab/hermitcrab/xml/BeanElements$Defaults" "autowire" "Lcom/example/hermit_crab/hermitcrab/definition/BeanDefinition$Autowiring$Mode;" (.ref a4)) :
    MetFree l (⟨"com/example/hermit_crab/hermitcrab/xml/BeanElements$Defaults", "forInnerBeans", "()Lcom/example/hermit_crab/hermitcrab/xml/BeanElements$Defaults;"⟩ : MethodName) (head1 (Jvm.Cond.code (⟨"com/example/hermit_crab/hermitcrab/xml/BeanElements$Defaults", "forInnerBeans", "()Lcom/example/hermit_crab/hermitcrab/xml/BeanElements$Defaults;"⟩ : MethodName) prog_111_method_2_code 1 (some (.object "com/example/hermit_crab/hermitcrab/xml/BeanElements$Defaults")) :: ws) ({ frames := 3, cells := 1, slots := 3, locals := 40 } : Room)) (fun a U => a = #[(.ref a1)] ∧ Z.Warmed39 U.vm ∧ U.heap = h0) (fun _ _ _ _ _ => True) (fun _ U o U' => ∃ v L, o = .returned v ∧ Q8 Z a1 a4 h0 n0 v U'.heap L ∧ FrameEnd U o U' L ({ frames := 3, cells := 1, slots := 3, locals := 40 } : Room).cells ({ frames := 3, cells := 1, slots := 3, locals := 40 } : Room).slots) := by
  refine MetFree.of_bodySF (plainFor_of_name pn_5) hisR ?_
  intro p e s m args below meth c s₁ Bd hml0 hP hK
  obtain ⟨rfl, hZ, hh⟩ := hP
  have hx := Bd.exec
  have hby := Bd.bytes
  have hml : c.maxLocals = 1 := hml0
  have hown : s.vm.findClass "com/example/hermit_crab/hermitcrab/xml/BeanElements$Defaults" = some m.cls := findClass_of_methodNamed Bd.named
  have hnm := (name_of_methodNamed Bd.named Bd.method).1
  have hlk : meth.locks = false := BodyLoose.notSynchronized Bd
  have X0 : Stand p l e ({ frames := 3, cells := 1, slots := 3, locals := 40 } : Room) s m #[(.ref a1)] below meth c s₁ [] 0 0 := Stand.of_body Bd
  have e0 : s₁.heap = h0 := by rw [← hh, Bd.state]; rfl
  have N0 := Fr.nil n0
  have hef : entryFrame m #[(.ref a1)] 1 = mkF m 0 #[.val (.ref a1)] [] := by first | (simp [entryFrame, mkF, argsToLocals, Value.category]; done) | rfl
  show Go p e below s ({ frames := 3, cells := 1, slots := 3, locals := 40 } : Room).cells ({ frames := 3, cells := 1, slots := 3, locals := 40 } : Room).slots (Q8 Z a1 a4 h0 n0) (s₁.setTop (entryFrame m #[(.ref a1)] 1))
  rw [hef]
  have lta : a1 < h0.size := F1.lt
  obtain ⟨T1, h1, X1, e1, E1, A1, D1, -, st1⟩ := newO X0 hx hZ hown (hw _ (List.mem_of_getElem? (i := 56) rfl)) (hw _ (List.mem_of_getElem? (i := 34) rfl)) (hw _ (List.mem_of_getElem? (i := 35) rfl)) e0 (g := (mkF m 0 #[.val (.ref a1)] [])) rfl (hb hby d8_0) (by decide) (by decide)
  obtain ⟨b1, g1⟩ : ∃ z, z = h0.size := ⟨_, rfl⟩
  rw [← g1] at A1 D1 st1
  have lt1 : b1 < h1.size := A1.lt
  refine Go.of st1 ?_
  have hs2 : h0.size ≤ h1.size := E1.1
  have F1_lazyInit : Fld Z h1 b1 "com/example/hermit_crab/hermitcrab/xml/BeanElements$Defaults" "lazyInit" "Z" (.int (0 : Int32)) := D1 (Or.inr (hw _ (List.mem_of_getElem? (i := 46) rfl))) (ty := .boolean) (by decide)
  have F1_autowireCandidates : Fld Z h1 b1 "com/example/hermit_crab/hermitcrab/xml/BeanElements$Defaults" "autowireCandidates" "Ljava/util/List;" .null := D1 (Or.inr (hw _ (List.mem_of_getElem? (i := 48) rfl))) (ty := (.object "java/util/List")) (by decide)
  have F1_autowire : Fld Z h1 b1 "com/example/hermit_crab/hermitcrab/xml/BeanElements$Defaults" "autowire" "Lcom/example/hermit_crab/hermitcrab/definition/BeanDefinition$Autowiring$Mode;" .null := D1 (Or.inr (hw _ (List.mem_of_getElem? (i := 50) rfl))) (ty := (.object "com/example/hermit_crab/hermitcrab/definition/BeanDefinition$Autowiring$Mode")) (by decide)
  show Go _ _ _ _ _ _ _ (T1.setTop (mkF m 3 #[.val (.ref a1)] [(.ref b1)]))
  refine Go.of (fun t k => XS.dup X1.here hx rfl (hb hby d8_3) rfl rfl k) ?_
  show Go _ _ _ _ _ _ _ (T1.setTop (mkF m 4 #[.val (.ref a1)] [(.ref b1), (.ref b1)]))
  refine Go.of (fun t k => XS.iconst X1.here hx rfl (hb hby d8_4) k) ?_
  show Go _ _ _ _ _ _ _ (T1.setTop (mkF m 5 #[.val (.ref a1)] [(.int (0 : Int32)), (.ref b1), (.ref b1)]))
  refine Go.of (fun t k => XS.aconstNull X1.here hx rfl (hb hby d8_5) k) ?_
  show Go _ _ _ _ _ _ _ (T1.setTop (mkF m 6 #[.val (.ref a1)] [.null, (.int (0 : Int32)), (.ref b1), (.ref b1)]))
  refine Go.of (fun t k => XS.aloadN X1.here hx rfl (hb hby d8_6) rfl rfl k) ?_
  show Go _ _ _ _ _ _ _ (T1.setTop (mkF m 7 #[.val (.ref a1)] [(.ref a1), .null, (.int (0 : Int32)), (.ref b1), (.ref b1)]))
  have f3 := (F1.ext E1)
  obtain ⟨T4, X4, e4, st4⟩ := getF X1 hx hZ hown (host := "") (Or.inl (hw _ (List.mem_of_getElem? (i := 49) rfl))) Via.refl e1 f3 (g := (mkF m 7 #[.val (.ref a1)] [(.ref a1), .null, (.int (0 : Int32)), (.ref b1), (.ref b1)])) rfl rfl (hb hby d8_7)
  refine Go.of st4 ?_
  show Go _ _ _ _ _ _ _ (T4.setTop (mkF m 10 #[.val (.ref a1)] [(.ref a4), .null, (.int (0 : Int32)), (.ref b1), (.ref b1)]))
  obtain ⟨_, _, ⟨T5, L5, k5, n5⟩, -, X5, ⟨Lc5, hQ5, l5, y5, z5⟩, st5⟩ := X4.specialBack hx (y := (⟨"com/example/hermit_crab/hermitcrab/xml/BeanElements$Defaults", "<init>", "(ZLjava/util/List;Lcom/example/hermit_crab/hermitcrab/definition/BeanDefinition$Autowiring$Mode;)V"⟩ : MethodName)) rfl hown (mvT hZ (hw _ (List.mem_of_getElem? (i := 57) rfl))) (mvT hZ (hw _ (List.mem_of_getElem? (i := 37) rfl))) (mvT hZ (hw _ (List.mem_of_getElem? (i := 38) rfl))) (by decide) (backOf (W := 1) (rm6n l Z a0 hw [] b1 (0 : Int32) a4 h1 n0 (by omega) A1 (by omega) (Or.inl rfl) F1_lazyInit F1_autowireCandidates F1_autowire) hZ (hw _ (List.mem_of_getElem? (i := 38) rfl)) (hw _ (List.mem_of_getElem? (i := 35) rfl)) (by decide) (by decide)) (g := (mkF m 10 #[.val (.ref a1)] [(.ref a4), .null, (.int (0 : Int32)), (.ref b1), (.ref b1)])) rfl (by rw [hml]; rfl) (Steps.refl _) (a := b1) (argsL := [(.int (0 : Int32)), .null, (.ref a4)]) (rest := [(.ref b1)]) (lenOf pd_1 rfl) rfl (by show 2 * 0 + _ ≤ _; exact Nat.le_of_eq rfl) (hb hby d8_10) (fun _ _ => ⟨rfl, e4, (by decide : 1 + 0 ≤ _), (by decide : 3 + 0 ≤ _)⟩)
  dsimp only [Pt.U, Pt.locs, Pt.cells, Pt.slots] at X5 l5 y5 z5 st5 hQ5
  subst l5 y5 z5
  obtain ⟨rfl, N5q, K5, Ex5, Fa5, Fb5, Fc5⟩ := hQ5
  have N5 := Fr.app N0 N5q
  refine Go.tr st5 ?_
  have hs6 : h1.size ≤ T5.heap.size := K5.1
  show Go _ _ _ _ _ _ _ (T5.setTop (mkF m 13 #[.val (.ref a1)] [(.ref b1)]))
  refine Go.out X5 (v := some (.ref b1)) (fun h => by rw [Bd.returns] at h; cases h) hlk (fun fs hr => retOut X5 hx (t := (.object "com/example/hermit_crab/hermitcrab/xml/BeanElements$Defaults")) Bd.returns rfl (Or.inr (Or.inr (Or.inr (Or.inr ⟨rfl, rfl, rfl⟩)))) (hb hby d8_13) hr) ?_ (by decide) (by decide)
  show Q8 Z a1 a4 h0 n0 _ T5.heap _
  exact ⟨b1, rfl, N5, (((Keep.refl h0 []).ext E1).trans K5 (allS (Or.inr (by omega)) all0)), by omega, Ex5.lt, Ex5, Fa5, Fb5, Fc5⟩
theorem pn_6 : plainName "java/lang/StringLatin1" = true := by first | (simp [plainName, overriddenIn]; done) | decide +kernel
theorem d10_0 : decode jdk_43_method_3_code 0 = .ok (.iload_n 0, 1) := by decide +kernel
theorem d10_1 : decode jdk_43_method_3_code 1 = .ok (.sipush 255, 3) := by decide +kernel
theorem d10_4 : decode jdk_43_method_3_code 4 = .ok (.if_icmp .gt 7, 3) := by decide +kernel
theorem d10_7 : decode jdk_43_method_3_code 7 = .ok (.iconst 1, 1) := by decide +kernel
theorem d10_8 : decode jdk_43_method_3_code 8 = .ok (.goto 4, 3) := by decide +kernel
theorem d10_12 : decode jdk_43_method_3_code 12 = .ok (.ireturn, 1) := by decide +kernel
def Q10 (Z : State) (p1 : Int32) (h0 : Heap) (n0 : Nat) (v : Option Value) (h : Heap) (L : List Loc) : Prop := v = some (.int 1) ∧ Fr n0 L ∧ h = h0
set_option maxRecDepth 65536 in
set_option maxHeartbeats 40000000 in
theorem rm10 (l : Launch) (Z : State) (a0 : Array Value) (hw : ∀ d ∈ tables_1, d.before a0 Z = true) (ws : List Jvm.Cond) (p1 : Int32) (h0 : Heap) (n0 : Nat) (Z0 : n0 ≤ h0.size) (hp : ¬ (255 : Int32) < p1) :
    MetFree l (⟨"java/lang/StringLatin1", "canEncode", "(C)Z"⟩ : MethodName) (head1 (Jvm.Cond.code (⟨"java/lang/StringLatin1", "canEncode", "(C)Z"⟩ : MethodName) jdk_43_method_3_code 1 (some .boolean) :: ws) ({ frames := 0, cells := 0, slots := 0, locals := 0 } : Room)) (fun a U => a = #[(.int p1)] ∧ Z.Warmed39 U.vm ∧ U.heap = h0) (fun _ _ _ _ _ => True) (fun _ U o U' => ∃ v L, o = .returned v ∧ Q10 Z p1 h0 n0 v U'.heap L ∧ FrameEnd U o U' L ({ frames := 0, cells := 0, slots := 0, locals := 0 } : Room).cells ({ frames := 0, cells := 0, slots := 0, locals := 0 } : Room).slots) := by
  refine MetFree.of_bodySF (plainFor_of_name pn_6) hisR ?_
  intro p e s m args below meth c s₁ Bd hml0 hP hK
  obtain ⟨rfl, hZ, hh⟩ := hP
  have hx := Bd.exec
  have hby := Bd.bytes
  have hml : c.maxLocals = 1 := hml0
  have hown : s.vm.findClass "java/lang/StringLatin1" = some m.cls := findClass_of_methodNamed Bd.named
  have hnm := (name_of_methodNamed Bd.named Bd.method).1
  have hlk : meth.locks = false := BodyLoose.notSynchronized Bd
  have X0 : Stand p l e ({ frames := 0, cells := 0, slots := 0, locals := 0 } : Room) s m #[(.int p1)] below meth c s₁ [] 0 0 := Stand.of_body Bd
  have e0 : s₁.heap = h0 := by rw [← hh, Bd.state]; rfl
  have N0 := Fr.nil n0
  have hef : entryFrame m #[(.int p1)] 1 = mkF m 0 #[.val (.int p1)] [] := by first | (simp [entryFrame, mkF, argsToLocals, Value.category]; done) | rfl
  show Go p e below s ({ frames := 0, cells := 0, slots := 0, locals := 0 } : Room).cells ({ frames := 0, cells := 0, slots := 0, locals := 0 } : Room).slots (Q10 Z p1 h0 n0) (s₁.setTop (entryFrame m #[(.int p1)] 1))
  rw [hef]
  refine Go.of (fun t k => XS.iloadN X0.here hx rfl (hb hby d10_0) rfl k) ?_
  show Go _ _ _ _ _ _ _ (s₁.setTop (mkF m 1 #[.val (.int p1)] [(.int p1)]))
  refine Go.of (fun t k => XS.sipush X0.here hx rfl (hb hby d10_1) k) ?_
  show Go _ _ _ _ _ _ _ (s₁.setTop (mkF m 4 #[.val (.int p1)] [(.int (255 : Int32)), (.int p1)]))
  have hc4 : ¬ ((255 : Int32) < p1) := hp
  refine Go.of (fun t k => XS.icmpNo X0.here hx rfl (hb hby d10_4) rfl (flt hc4).2.2.1 k) ?_
  show Go _ _ _ _ _ _ _ (s₁.setTop (mkF m 7 #[.val (.int p1)] []))
  refine Go.of (fun t k => XS.iconst X0.here hx rfl (hb hby d10_7) k) ?_
  show Go _ _ _ _ _ _ _ (s₁.setTop (mkF m 8 #[.val (.int p1)] [(.int (1 : Int32))]))
  refine Go.of (fun t k => XS.goto X0.here hx rfl (pc0 := 8) (pc' := 12) rfl (hb hby d10_8) (by decide) (by decide) k) ?_
  show Go _ _ _ _ _ _ _ (s₁.setTop (mkF m 12 #[.val (.int p1)] [(.int (1 : Int32))]))
  refine Go.out X0 (v := some (.int (1 : Int32))) (fun h => by rw [Bd.returns] at h; cases h) hlk (fun fs hr => retN X0 hx (t := .boolean) Bd.returns (by simp) (hb hby d10_12) hr) ?_ (by decide) (by decide)
  show Q10 Z p1 h0 n0 _ s₁.heap _
  rw [e0]
  exact ⟨rfl, N0, rfl⟩
theorem d11_0 : decode jdk_43_method_46_code 0 = .ok (.iconst 1, 1) := by decide +kernel
theorem d11_1 : decode jdk_43_method_46_code 1 = .ok (.newarray .byte, 2) := by decide +kernel
theorem d11_3 : decode jdk_43_method_46_code 3 = .ok (.dup, 1) := by decide +kernel
theorem d11_4 : decode jdk_43_method_46_code 4 = .ok (.iconst 0, 1) := by decide +kernel
theorem d11_5 : decode jdk_43_method_46_code 5 = .ok (.iload_n 0, 1) := by decide +kernel
theorem d11_6 : decode jdk_43_method_46_code 6 = .ok (.i2b, 1) := by decide +kernel
theorem d11_7 : decode jdk_43_method_46_code 7 = .ok (.bastore, 1) := by decide +kernel
theorem d11_8 : decode jdk_43_method_46_code 8 = .ok (.areturn, 1) := by decide +kernel
def Q11 (Z : State) (p1 : Int32) (h0 : Heap) (n0 : Nat) (v : Option Value) (h : Heap) (L : List Loc) : Prop := ∃ b : Nat, v = some (.ref b) ∧ Fr n0 L ∧ Keep h0 h [] ∧ h0.size ≤ b ∧ b < h.size
set_option maxRecDepth 65536 in
set_option maxHeartbeats 40000000 in
theorem rm11 (l : Launch) (Z : State) (a0 : Array Value) (hw : ∀ d ∈ tables_1, d.before a0 Z = true) (ws : List Jvm.Cond) (p1 : Int32) (h0 : Heap) (n0 : Nat) (Z0 : n0 ≤ h0.size) :
    MetFree l (⟨"java/lang/StringLatin1", "toBytes", "(C)[B"⟩ : MethodName) (head1 (Jvm.Cond.code (⟨"java/lang/StringLatin1", "toBytes", "(C)[B"⟩ : MethodName) jdk_43_method_46_code 1 (some (.array .byte)) :: ws) ({ frames := 0, cells := 1, slots := 1, locals := 0 } : Room)) (fun a U => a = #[(.int p1)] ∧ Z.Warmed39 U.vm ∧ U.heap = h0) (fun _ _ _ _ _ => True) (fun _ U o U' => ∃ v L, o = .returned v ∧ Q11 Z p1 h0 n0 v U'.heap L ∧ FrameEnd U o U' L ({ frames := 0, cells := 1, slots := 1, locals := 0 } : Room).cells ({ frames := 0, cells := 1, slots := 1, locals := 0 } : Room).slots) := by
  refine MetFree.of_bodySF (plainFor_of_name pn_6) hisR ?_
  intro p e s m args below meth c s₁ Bd hml0 hP hK
  obtain ⟨rfl, hZ, hh⟩ := hP
  have hx := Bd.exec
  have hby := Bd.bytes
  have hml : c.maxLocals = 1 := hml0
  have hown : s.vm.findClass "java/lang/StringLatin1" = some m.cls := findClass_of_methodNamed Bd.named
  have hnm := (name_of_methodNamed Bd.named Bd.method).1
  have hlk : meth.locks = false := BodyLoose.notSynchronized Bd
  have X0 : Stand p l e ({ frames := 0, cells := 1, slots := 1, locals := 0 } : Room) s m #[(.int p1)] below meth c s₁ [] 0 0 := Stand.of_body Bd
  have e0 : s₁.heap = h0 := by rw [← hh, Bd.state]; rfl
  have N0 := Fr.nil n0
  have hef : entryFrame m #[(.int p1)] 1 = mkF m 0 #[.val (.int p1)] [] := by first | (simp [entryFrame, mkF, argsToLocals, Value.category]; done) | rfl
  show Go p e below s ({ frames := 0, cells := 1, slots := 1, locals := 0 } : Room).cells ({ frames := 0, cells := 1, slots := 1, locals := 0 } : Room).slots (Q11 Z p1 h0 n0) (s₁.setTop (entryFrame m #[(.int p1)] 1))
  rw [hef]
  refine Go.of (fun t k => XS.iconst X0.here hx rfl (hb hby d11_0) k) ?_
  show Go _ _ _ _ _ _ _ (s₁.setTop (mkF m 1 #[.val (.int p1)] [(.int (1 : Int32))]))
  obtain ⟨T1, h1, k1, X1, e1, E1, A1, st1⟩ := newP X0 hx hZ (hw _ (List.mem_of_getElem? (i := 72) rfl)) e0 (g := (mkF m 1 #[.val (.int p1)] [(.int (1 : Int32))])) rfl (hb hby d11_1) rfl (by decide) (cap := 1) (by decide) (by decide) (by decide) (by decide)
  obtain ⟨b1, g1⟩ : ∃ z, z = h0.size := ⟨_, rfl⟩
  rw [← g1] at A1 st1
  have lt1 : b1 < h1.size := A1.lt
  refine Go.of st1 ?_
  have hs2 : h0.size ≤ h1.size := E1.1
  have V1 : Arv Z h1 b1 k1 .byte (1 : Int32) [(.int (0 : Int32))] (.int (0 : Int32)) := (Arv.new A1 (by decide)).pad (pad_rep [] (.int (0 : Int32)) 1)
  show Go _ _ _ _ _ _ _ (T1.setTop (mkF m 3 #[.val (.int p1)] [(.ref b1)]))
  refine Go.of (fun t k => XS.dup X1.here hx rfl (hb hby d11_3) rfl rfl k) ?_
  show Go _ _ _ _ _ _ _ (T1.setTop (mkF m 4 #[.val (.int p1)] [(.ref b1), (.ref b1)]))
  refine Go.of (fun t k => XS.iconst X1.here hx rfl (hb hby d11_4) k) ?_
  show Go _ _ _ _ _ _ _ (T1.setTop (mkF m 5 #[.val (.int p1)] [(.int (0 : Int32)), (.ref b1), (.ref b1)]))
  refine Go.of (fun t k => XS.iloadN X1.here hx rfl (hb hby d11_5) rfl k) ?_
  show Go _ _ _ _ _ _ _ (T1.setTop (mkF m 6 #[.val (.int p1)] [(.int p1), (.int (0 : Int32)), (.ref b1), (.ref b1)]))
  refine Go.of (fun t k => XS.i2b X1.here hx rfl (hb hby d11_6) rfl k) ?_
  show Go _ _ _ _ _ _ _ (T1.setTop (mkF m 7 #[.val (.int p1)] [(.int (p1.toInt8.toInt32)), (.int (0 : Int32)), (.ref b1), (.ref b1)]))
  obtain ⟨cl3, Ar3, q3, S3, N3', H3, G3⟩ := id V1
  have hin3 := inb_of S3 (j := (0 : Int32)) ⟨by decide, by decide⟩
  obtain ⟨T3, h3, X3, e3, W3, st3⟩ := stB X1 hx hZ e1 Ar3 (j := (0 : Int32)) hin3 (g := (mkF m 7 #[.val (.int p1)] [(.int (p1.toInt8.toInt32)), (.int (0 : Int32)), (.ref b1), (.ref b1)])) rfl rfl (hb hby d11_7)
  have V3 : Arv Z h3 b1 k1 .byte (1 : Int32) [(.int (nar .byte (p1.toInt8.toInt32)))] (.int (0 : Int32)) := Arv.set Ar3 q3 S3 N3' H3 G3 (fits_nar_byte _) W3 0 rfl (Nat.le_of_ble_eq_true rfl)
  refine Go.of st3 ?_
  have hs4 : h1.size ≤ h3.size := Nat.le_of_eq W3.size.symm
  have N3 := Fr.snoc X3 N0 (by omega)
  show Go _ _ _ _ _ _ _ (T3.setTop (mkF m 8 #[.val (.int p1)] [(.ref b1)]))
  refine Go.out X3 (v := some (.ref b1)) (fun h => by rw [Bd.returns] at h; cases h) hlk (fun fs hr => retOut X3 hx (t := (.array .byte)) Bd.returns rfl (Or.inr (Or.inr (Or.inr (Or.inr ⟨rfl, rfl, rfl⟩)))) (hb hby d11_8) hr) ?_ (by decide) (by decide)
  show Q11 Z p1 h0 n0 _ T3.heap _
  rw [e3]
  exact ⟨b1, rfl, N3, (((Keep.refl h0 []).ext E1).wr W3 (Or.inr (by omega))), by omega, Nat.lt_of_lt_of_le lt1 (by omega)⟩
theorem pn_7 : plainName "java/lang/String" = true := by first | (simp [plainName, overriddenIn]; done) | decide +kernel
theorem d12_0 : decode jdk_42_method_151_code 0 = .ok (.aload_n 0, 1) := by decide +kernel
theorem d12_1 : decode jdk_42_method_151_code 1 = .ok (.invokespecial 1, 3) := by decide +kernel
theorem d12_4 : decode jdk_42_method_151_code 4 = .ok (.aload_n 0, 1) := by decide +kernel
theorem d12_5 : decode jdk_42_method_151_code 5 = .ok (.aload_n 1, 1) := by decide +kernel
theorem d12_6 : decode jdk_42_method_151_code 6 = .ok (.putfield 9, 3) := by decide +kernel
theorem d12_9 : decode jdk_42_method_151_code 9 = .ok (.aload_n 0, 1) := by decide +kernel
theorem d12_10 : decode jdk_42_method_151_code 10 = .ok (.iload_n 2, 1) := by decide +kernel
theorem d12_11 : decode jdk_42_method_151_code 11 = .ok (.putfield 15, 3) := by decide +kernel
theorem d12_14 : decode jdk_42_method_151_code 14 = .ok (.return_, 1) := by decide +kernel
def Q12 (Z : State) (a1 : Nat) (a2 : Nat) (h0 : Heap) (n0 : Nat) (v : Option Value) (h : Heap) (L : List Loc) : Prop := v = none ∧ Fr n0 L ∧ Keep h0 h [a1] ∧ Exa Z h a1 "java/lang/String"
set_option maxRecDepth 65536 in
set_option maxHeartbeats 40000000 in
theorem rm12 (l : Launch) (Z : State) (a0 : Array Value) (hw : ∀ d ∈ tables_1, d.before a0 Z = true) (ws : List Jvm.Cond) (a1 : Nat) (a2 : Nat) (h0 : Heap) (n0 : Nat) (Z0 : n0 ≤ h0.size) (E1 : Exa Z h0 a1 "java/lang/String") (g1 : n0 ≤ a1) (F1 : Fld Z h0 a1 "java/lang/String" "value" "[B" .null) (F2 : Fld Z h0 a1 "java/lang/String" "coder" "B" (.int (0 : Int32))) :
    MetFree l (⟨"java/lang/String", "<init>", "([BB)V"⟩ : MethodName) (head1 (Jvm.Cond.code (⟨"java/lang/String", "<init>", "([BB)V"⟩ : MethodName) jdk_42_method_151_code 3 none :: ws) ({ frames := 1, cells := 0, slots := 0, locals := 12 } : Room)) (fun a U => a = #[(.ref a1), (.ref a2), (.int (0 : Int32))] ∧ Z.Warmed39 U.vm ∧ U.heap = h0) (fun _ _ _ _ _ => True) (fun _ U o U' => ∃ v L, o = .returned v ∧ Q12 Z a1 a2 h0 n0 v U'.heap L ∧ FrameEnd U o U' L ({ frames := 1, cells := 0, slots := 0, locals := 12 } : Room).cells ({ frames := 1, cells := 0, slots := 0, locals := 12 } : Room).slots) := by
  refine MetFree.of_bodySF (plainFor_of_name pn_7) hisR ?_
  intro p e s m args below meth c s₁ Bd hml0 hP hK
  obtain ⟨rfl, hZ, hh⟩ := hP
  have hx := Bd.exec
  have hby := Bd.bytes
  have hml : c.maxLocals = 3 := hml0
  have hown : s.vm.findClass "java/lang/String" = some m.cls := findClass_of_methodNamed Bd.named
  have hnm := (name_of_methodNamed Bd.named Bd.method).1
  have hlk : meth.locks = false := BodyLoose.notSynchronized Bd
  have X0 : Stand p l e ({ frames := 1, cells := 0, slots := 0, locals := 12 } : Room) s m #[(.ref a1), (.ref a2), (.int (0 : Int32))] below meth c s₁ [] 0 0 := Stand.of_body Bd
  have e0 : s₁.heap = h0 := by rw [← hh, Bd.state]; rfl
  have N0 := Fr.nil n0
  have hef : entryFrame m #[(.ref a1), (.ref a2), (.int (0 : Int32))] 3 = mkF m 0 #[.val (.ref a1), .val (.ref a2), .val (.int (0 : Int32))] [] := by first | (simp [entryFrame, mkF, argsToLocals, Value.category]; done) | rfl
  show Go p e below s ({ frames := 1, cells := 0, slots := 0, locals := 12 } : Room).cells ({ frames := 1, cells := 0, slots := 0, locals := 12 } : Room).slots (Q12 Z a1 a2 h0 n0) (s₁.setTop (entryFrame m #[(.ref a1), (.ref a2), (.int (0 : Int32))] 3))
  rw [hef]
  refine Go.of (fun t k => XS.aloadN X0.here hx rfl (hb hby d12_0) rfl rfl k) ?_
  show Go _ _ _ _ _ _ _ (s₁.setTop (mkF m 1 #[.val (.ref a1), .val (.ref a2), .val (.int (0 : Int32))] [(.ref a1)]))
  obtain ⟨T1, X1, e1, st1⟩ := initO X0 hx hZ hown (hw _ (List.mem_of_getElem? (i := 77) rfl)) (hw _ (List.mem_of_getElem? (i := 26) rfl)) (hw _ (List.mem_of_getElem? (i := 27) rfl)) e0 (g := (mkF m 1 #[.val (.ref a1), .val (.ref a2), .val (.int (0 : Int32))] [(.ref a1)])) rfl (by rw [hml]; rfl) rfl (hb hby d12_1) (by decide) (W := 0) (by show 2 * 0 + _ ≤ _; exact Nat.le_of_eq rfl) (by decide)
  refine Go.of st1 ?_
  show Go _ _ _ _ _ _ _ (T1.setTop (mkF m 4 #[.val (.ref a1), .val (.ref a2), .val (.int (0 : Int32))] []))
  refine Go.of (fun t k => XS.aloadN X1.here hx rfl (hb hby d12_4) rfl rfl k) ?_
  show Go _ _ _ _ _ _ _ (T1.setTop (mkF m 5 #[.val (.ref a1), .val (.ref a2), .val (.int (0 : Int32))] [(.ref a1)]))
  refine Go.of (fun t k => XS.aloadN X1.here hx rfl (hb hby d12_5) rfl rfl k) ?_
  show Go _ _ _ _ _ _ _ (T1.setTop (mkF m 6 #[.val (.ref a1), .val (.ref a2), .val (.int (0 : Int32))] [(.ref a2), (.ref a1)]))
  obtain ⟨T2, h2, X2, e2, W2, st2⟩ := putF X1 hx hZ hown (host := "") (Or.inl (hw _ (List.mem_of_getElem? (i := 78) rfl))) Via.refl e1 F1 E1 (Or.inr ⟨(hw _ (List.mem_of_getElem? (i := 79) rfl)), rfl, hnm⟩) (hw _ (List.mem_of_getElem? (i := 68) rfl)) (ty := (.array .byte)) (by decide) rfl rfl (g := (mkF m 6 #[.val (.ref a1), .val (.ref a2), .val (.int (0 : Int32))] [(.ref a2), (.ref a1)])) rfl rfl (hb hby d12_6)
  refine Go.of st2 ?_
  have Fw2 := F1.same W2
  have hs3 : h0.size ≤ h2.size := Nat.le_of_eq W2.size.symm
  have N2 := Fr.snoc X2 N0 g1
  show Go _ _ _ _ _ _ _ (T2.setTop (mkF m 9 #[.val (.ref a1), .val (.ref a2), .val (.int (0 : Int32))] []))
  refine Go.of (fun t k => XS.aloadN X2.here hx rfl (hb hby d12_9) rfl rfl k) ?_
  show Go _ _ _ _ _ _ _ (T2.setTop (mkF m 10 #[.val (.ref a1), .val (.ref a2), .val (.int (0 : Int32))] [(.ref a1)]))
  refine Go.of (fun t k => XS.iloadN X2.here hx rfl (hb hby d12_10) rfl k) ?_
  show Go _ _ _ _ _ _ _ (T2.setTop (mkF m 11 #[.val (.ref a1), .val (.ref a2), .val (.int (0 : Int32))] [(.int (0 : Int32)), (.ref a1)]))
  have f4 := (E1.wr W2)
  have f5 := (F2.other W2 (Or.inr (slot_ne (Or.inr (hw _ (List.mem_of_getElem? (i := 81) rfl))) (Or.inr (hw _ (List.mem_of_getElem? (i := 79) rfl))) (by decide) (t := .byte) (t' := (.array .byte)) (by decide) (by decide))))
  obtain ⟨T6, h6, X6, e6, W6, st6⟩ := putFN X2 hx hZ hown (hw _ (List.mem_of_getElem? (i := 80) rfl)) Via.refl e2 f5 f4 (Or.inr ⟨(hw _ (List.mem_of_getElem? (i := 81) rfl)), rfl, hnm⟩) (hw _ (List.mem_of_getElem? (i := 68) rfl)) (ty := .byte) (v' := (.int (0 : Int32))) (by decide) rfl rfl (g := (mkF m 11 #[.val (.ref a1), .val (.ref a2), .val (.int (0 : Int32))] [(.int (0 : Int32)), (.ref a1)])) rfl rfl (hb hby d12_11)
  refine Go.of st6 ?_
  have Fw6 := f5.same W6
  have hs7 : h2.size ≤ h6.size := Nat.le_of_eq W6.size.symm
  have N6 := Fr.snoc X6 N2 g1
  show Go _ _ _ _ _ _ _ (T6.setTop (mkF m 14 #[.val (.ref a1), .val (.ref a2), .val (.int (0 : Int32))] []))
  refine Go.out X6 (v := none) (fun _ => rfl) hlk (fun fs hr => X6.returnOut hx Bd.returns (hb hby d12_14) hr) ?_ (by decide) (by decide)
  show Q12 Z a1 a2 h0 n0 _ T6.heap _
  have f8 := (f4.wr W6)
  rw [e6]
  exact ⟨rfl, N6, (((Keep.refl h0 [a1]).wr W2 (Or.inl (List.mem_of_getElem? (i := 0) rfl))).wr W6 (Or.inl (List.mem_of_getElem? (i := 0) rfl))), f8⟩
theorem pd_2 : parseMethodDescriptor "(C)Z" = some ⟨[.char], some .boolean⟩ := by decide +kernel
theorem pd_3 : parseMethodDescriptor "(C)[B" = some ⟨[.char], some (.array .byte)⟩ := by decide +kernel
theorem pd_4 : parseMethodDescriptor "([BB)V" = some ⟨[(.array .byte), .byte], none⟩ := by decide +kernel
theorem d9_0 : decode jdk_42_method_139_code 0 = .ok (.getstatic 38, 3) := by decide +kernel
theorem d9_3 : decode jdk_42_method_139_code 3 = .ok (.ifCond .eq 23, 3) := by decide +kernel
theorem d9_6 : decode jdk_42_method_139_code 6 = .ok (.iload_n 0, 1) := by decide +kernel
theorem d9_7 : decode jdk_42_method_139_code 7 = .ok (.invokestatic 1015, 3) := by decide +kernel
theorem d9_10 : decode jdk_42_method_139_code 10 = .ok (.ifCond .eq 16, 3) := by decide +kernel
theorem d9_13 : decode jdk_42_method_139_code 13 = .ok (.new 10, 3) := by decide +kernel
theorem d9_16 : decode jdk_42_method_139_code 16 = .ok (.dup, 1) := by decide +kernel
theorem d9_17 : decode jdk_42_method_139_code 17 = .ok (.iload_n 0, 1) := by decide +kernel
theorem d9_18 : decode jdk_42_method_139_code 18 = .ok (.invokestatic 1018, 3) := by decide +kernel
theorem d9_21 : decode jdk_42_method_139_code 21 = .ok (.iconst 0, 1) := by decide +kernel
theorem d9_22 : decode jdk_42_method_139_code 22 = .ok (.invokespecial 209, 3) := by decide +kernel
theorem d9_25 : decode jdk_42_method_139_code 25 = .ok (.areturn, 1) := by decide +kernel
def Q9 (Z : State) (p1 : Int32) (cs : Int32) (h0 : Heap) (n0 : Nat) (v : Option Value) (h : Heap) (L : List Loc) : Prop := ∃ b : Nat, v = some (.ref b) ∧ Fr n0 L ∧ Keep h0 h [] ∧ h0.size ≤ b ∧ b < h.size ∧ Exa Z h b "java/lang/String"
set_option maxRecDepth 65536 in
set_option maxHeartbeats 40000000 in
theorem rm9 (l : Launch) (Z : State) (a0 : Array Value) (hw : ∀ d ∈ tables_1, d.before a0 Z = true) (ws : List Jvm.Cond) (p1 : Int32) (cs : Int32) (h0 : Heap) (n0 : Nat) (Z0 : n0 ≤ h0.size) (S_cs : Sta Z h0 "java/lang/String" "COMPACT_STRINGS" "Z" (.int cs)) (hcs : ¬ cs = (0 : Int32)) (hp : ¬ (255 : Int32) < p1) :
    MetFree l (⟨"java/lang/String", "valueOf", "(C)Ljava/lang/String;"⟩ : MethodName) (head1 (Jvm.Cond.code (⟨"java/lang/String", "valueOf", "(C)Ljava/lang/String;"⟩ : MethodName) jdk_42_method_139_code 1 (some (.object "java/lang/String")) :: ws) ({ frames := 2, cells := 2, slots := 5, locals := 30 } : Room)) (fun a U => a = #[(.int p1)] ∧ Z.Warmed39 U.vm ∧ U.heap = h0) (fun _ _ _ _ _ => True) (fun _ U o U' => ∃ v L, o = .returned v ∧ Q9 Z p1 cs h0 n0 v U'.heap L ∧ FrameEnd U o U' L ({ frames := 2, cells := 2, slots := 5, locals := 30 } : Room).cells ({ frames := 2, cells := 2, slots := 5, locals := 30 } : Room).slots) := by
  refine MetFree.of_bodySF (plainFor_of_name pn_7) hisR ?_
  intro p e s m args below meth c s₁ Bd hml0 hP hK
  obtain ⟨rfl, hZ, hh⟩ := hP
  have hx := Bd.exec
  have hby := Bd.bytes
  have hml : c.maxLocals = 1 := hml0
  have hown : s.vm.findClass "java/lang/String" = some m.cls := findClass_of_methodNamed Bd.named
  have hnm := (name_of_methodNamed Bd.named Bd.method).1
  have hlk : meth.locks = false := BodyLoose.notSynchronized Bd
  have X0 : Stand p l e ({ frames := 2, cells := 2, slots := 5, locals := 30 } : Room) s m #[(.int p1)] below meth c s₁ [] 0 0 := Stand.of_body Bd
  have e0 : s₁.heap = h0 := by rw [← hh, Bd.state]; rfl
  have N0 := Fr.nil n0
  have hef : entryFrame m #[(.int p1)] 1 = mkF m 0 #[.val (.int p1)] [] := by first | (simp [entryFrame, mkF, argsToLocals, Value.category]; done) | rfl
  show Go p e below s ({ frames := 2, cells := 2, slots := 5, locals := 30 } : Room).cells ({ frames := 2, cells := 2, slots := 5, locals := 30 } : Room).slots (Q9 Z p1 cs h0 n0) (s₁.setTop (entryFrame m #[(.int p1)] 1))
  rw [hef]
  obtain ⟨T1, X1, e1, st1⟩ := getS2 X0 hx hZ hown (host := "") (Or.inl (hw _ (List.mem_of_getElem? (i := 62) rfl))) Via.refl e0 S_cs (g := (mkF m 0 #[.val (.int p1)] [])) rfl (hb hby d9_0)
  refine Go.of st1 ?_
  show Go _ _ _ _ _ _ _ (T1.setTop (mkF m 3 #[.val (.int p1)] [(.int cs)]))
  have hc3 : ¬ (cs = (0 : Int32)) := hcs
  refine Go.of (fun t k => XS.ifNo X1.here hx rfl (hb hby d9_3) rfl ((if0 _ _).trans (feq hc3).1) k) ?_
  show Go _ _ _ _ _ _ _ (T1.setTop (mkF m 6 #[.val (.int p1)] []))
  refine Go.of (fun t k => XS.iloadN X1.here hx rfl (hb hby d9_6) rfl k) ?_
  show Go _ _ _ _ _ _ _ (T1.setTop (mkF m 7 #[.val (.int p1)] [(.int p1)]))
  obtain ⟨_, _, ⟨T2, L2, k2, n2⟩, -, X2, ⟨Lc2, hQ2, l2, y2, z2⟩, st2⟩ := Jvm.LawKit.callS X1 hx (y := (⟨"java/lang/StringLatin1", "canEncode", "(C)Z"⟩ : MethodName)) hown (mvT hZ (hw _ (List.mem_of_getElem? (i := 63) rfl))) (mvT hZ (hw _ (List.mem_of_getElem? (i := 64) rfl))) (mvT hZ (hw _ (List.mem_of_getElem? (i := 65) rfl))) (mvT hZ (hw _ (List.mem_of_getElem? (i := 66) rfl))) (by decide) (backOf (W := 0) (rm10 l Z a0 hw [] p1 h0 n0 Z0 hp) hZ (hw _ (List.mem_of_getElem? (i := 66) rfl)) (hw _ (List.mem_of_getElem? (i := 65) rfl)) (by decide) (by decide)) (g := (mkF m 7 #[.val (.int p1)] [(.int p1)])) rfl (by rw [hml]; rfl) (argsL := [(.int p1)]) (rest := []) (lenOf pd_2 rfl) rfl (by show 2 * 0 + _ ≤ _; exact Nat.le_of_eq rfl) (hb hby d9_7) (fun _ _ => ⟨rfl, e1, (by decide : 0 + 0 ≤ _), (by decide : 0 + 0 ≤ _)⟩)
  dsimp only [Pt.U, Pt.locs, Pt.cells, Pt.slots] at X2 l2 y2 z2 st2 hQ2
  subst l2 y2 z2
  obtain ⟨rfl, N2q, e2⟩ := hQ2
  have N2 := Fr.app N0 N2q
  refine Go.of st2 ?_
  show Go _ _ _ _ _ _ _ (T2.setTop (mkF m 10 #[.val (.int p1)] [(.int (1 : Int32))]))
  refine Go.of (fun t k => XS.ifNo X2.here hx rfl (hb hby d9_10) rfl ((if0 _ _).trans (feq (by decide : ¬ ((1 : Int32) = (0 : Int32)))).1) k) ?_
  show Go _ _ _ _ _ _ _ (T2.setTop (mkF m 13 #[.val (.int p1)] []))
  obtain ⟨T3, h3, X3, e3, E3, A3, D3, -, st3⟩ := newO X2 hx hZ hown (hw _ (List.mem_of_getElem? (i := 67) rfl)) (hw _ (List.mem_of_getElem? (i := 68) rfl)) (hw _ (List.mem_of_getElem? (i := 60) rfl)) e2 (g := (mkF m 13 #[.val (.int p1)] [])) rfl (hb hby d9_13) (by decide) (by decide)
  obtain ⟨b3, g3⟩ : ∃ z, z = h0.size := ⟨_, rfl⟩
  rw [← g3] at A3 D3 st3
  have lt3 : b3 < h3.size := A3.lt
  refine Go.of st3 ?_
  have hs4 : h0.size ≤ h3.size := E3.1
  have F3_value : Fld Z h3 b3 "java/lang/String" "value" "[B" .null := D3 (Or.inr (hw _ (List.mem_of_getElem? (i := 79) rfl))) (ty := (.array .byte)) (by decide)
  have F3_coder : Fld Z h3 b3 "java/lang/String" "coder" "B" (.int (0 : Int32)) := D3 (Or.inr (hw _ (List.mem_of_getElem? (i := 81) rfl))) (ty := .byte) (by decide)
  show Go _ _ _ _ _ _ _ (T3.setTop (mkF m 16 #[.val (.int p1)] [(.ref b3)]))
  refine Go.of (fun t k => XS.dup X3.here hx rfl (hb hby d9_16) rfl rfl k) ?_
  show Go _ _ _ _ _ _ _ (T3.setTop (mkF m 17 #[.val (.int p1)] [(.ref b3), (.ref b3)]))
  refine Go.of (fun t k => XS.iloadN X3.here hx rfl (hb hby d9_17) rfl k) ?_
  show Go _ _ _ _ _ _ _ (T3.setTop (mkF m 18 #[.val (.int p1)] [(.int p1), (.ref b3), (.ref b3)]))
  obtain ⟨_, _, ⟨T5, L5, k5, n5⟩, -, X5, ⟨Lc5, hQ5, l5, y5, z5⟩, st5⟩ := Jvm.LawKit.callS X3 hx (y := (⟨"java/lang/StringLatin1", "toBytes", "(C)[B"⟩ : MethodName)) hown (mvT hZ (hw _ (List.mem_of_getElem? (i := 69) rfl))) (mvT hZ (hw _ (List.mem_of_getElem? (i := 70) rfl))) (mvT hZ (hw _ (List.mem_of_getElem? (i := 65) rfl))) (mvT hZ (hw _ (List.mem_of_getElem? (i := 71) rfl))) (by decide) (backOf (W := 2) (rm11 l Z a0 hw [] p1 h3 n0 (by omega) ) hZ (hw _ (List.mem_of_getElem? (i := 71) rfl)) (hw _ (List.mem_of_getElem? (i := 65) rfl)) (by decide) (by decide)) (g := (mkF m 18 #[.val (.int p1)] [(.int p1), (.ref b3), (.ref b3)])) rfl (by rw [hml]; rfl) (argsL := [(.int p1)]) (rest := [(.ref b3), (.ref b3)]) (lenOf pd_3 rfl) rfl (by show 2 * 0 + _ ≤ _; exact Nat.le_of_eq rfl) (hb hby d9_18) (fun _ _ => ⟨rfl, e3, (by decide : 1 + 1 ≤ _), (by decide : 4 + 1 ≤ _)⟩)
  dsimp only [Pt.U, Pt.locs, Pt.cells, Pt.slots] at X5 l5 y5 z5 st5 hQ5
  subst l5 y5 z5
  obtain ⟨b5, rfl, N5q, K5, hge5, hlt5⟩ := hQ5
  have N5 := Fr.app N2 N5q
  refine Go.of st5 ?_
  have hs6 : h3.size ≤ T5.heap.size := K5.1
  show Go _ _ _ _ _ _ _ (T5.setTop (mkF m 21 #[.val (.int p1)] [(.ref b5), (.ref b3), (.ref b3)]))
  refine Go.of (fun t k => XS.iconst X5.here hx rfl (hb hby d9_21) k) ?_
  show Go _ _ _ _ _ _ _ (T5.setTop (mkF m 22 #[.val (.int p1)] [(.int (0 : Int32)), (.ref b5), (.ref b3), (.ref b3)]))
  have f7 := (A3.keep K5)
  have f8 := (F3_value.keep K5 nin0)
  have f9 := (F3_coder.keep K5 nin0)
  obtain ⟨_, _, ⟨T10, L10, k10, n10⟩, -, X10, ⟨Lc10, hQ10, l10, y10, z10⟩, st10⟩ := X5.specialBack hx (y := (⟨"java/lang/String", "<init>", "([BB)V"⟩ : MethodName)) rfl hown (mvT hZ (hw _ (List.mem_of_getElem? (i := 73) rfl))) (mvT hZ (hw _ (List.mem_of_getElem? (i := 74) rfl))) (mvT hZ (hw _ (List.mem_of_getElem? (i := 76) rfl))) (by decide) (backOf (W := 1) (rm12 l Z a0 hw [] b3 b5 T5.heap n0 (by omega) f7 (by omega) f8 f9) hZ (hw _ (List.mem_of_getElem? (i := 76) rfl)) (hw _ (List.mem_of_getElem? (i := 60) rfl)) (by decide) (by decide)) (g := (mkF m 22 #[.val (.int p1)] [(.int (0 : Int32)), (.ref b5), (.ref b3), (.ref b3)])) rfl (by rw [hml]; rfl) (Steps.refl _) (a := b3) (argsL := [(.ref b5), (.int (0 : Int32))]) (rest := [(.ref b3)]) (lenOf pd_4 rfl) rfl (by show 2 * 0 + _ ≤ _; exact Nat.le_of_eq rfl) (hb hby d9_22) (fun _ _ => ⟨rfl, rfl, (by decide : 2 + 0 ≤ _), (by decide : 5 + 0 ≤ _)⟩)
  dsimp only [Pt.U, Pt.locs, Pt.cells, Pt.slots] at X10 l10 y10 z10 st10 hQ10
  subst l10 y10 z10
  obtain ⟨rfl, N10q, K10, Ex10⟩ := hQ10
  have N10 := Fr.app N5 N10q
  refine Go.tr st10 ?_
  have hs11 : T5.heap.size ≤ T10.heap.size := K10.1
  show Go _ _ _ _ _ _ _ (T10.setTop (mkF m 25 #[.val (.int p1)] [(.ref b3)]))
  refine Go.out X10 (v := some (.ref b3)) (fun h => by rw [Bd.returns] at h; cases h) hlk (fun fs hr => retOut X10 hx (t := (.object "java/lang/String")) Bd.returns rfl (Or.inr (Or.inr (Or.inr (Or.inr ⟨rfl, rfl, rfl⟩)))) (hb hby d9_25) hr) ?_ (by decide) (by decide)
  show Q9 Z p1 cs h0 n0 _ T10.heap _
  exact ⟨b3, rfl, N10, ((((Keep.refl h0 []).ext E3).trans K5 all0).trans K10 (allS (Or.inr (by omega)) all0)), by omega, Ex10.lt, Ex10⟩
theorem d13_0 : decode prog_111_method_8_code 0 = .ok (.aload_n 0, 1) := by decide +kernel
theorem d13_1 : decode prog_111_method_8_code 1 = .ok (.getfield 7, 3) := by decide +kernel
theorem d13_4 : decode prog_111_method_8_code 4 = .ok (.ireturn, 1) := by decide +kernel
def Qlz (Z : State) (a1 : Nat) (p2 : Int32) (h0 : Heap) (n0 : Nat) (v : Option Value) (h : Heap) (L : List Loc) : Prop := v = some (.int p2) ∧ Fr n0 L ∧ h = h0
set_option maxRecDepth 65536 in
set_option maxHeartbeats 40000000 in
theorem rmlz (l : Launch) (Z : State) (a0 : Array Value) (hw : ∀ d ∈ tables_1, d.before a0 Z = true) (ws : List Jvm.Cond) (a1 : Nat) (p2 : Int32) (h0 : Heap) (n0 : Nat) (Z0 : n0 ≤ h0.size) (F1 : Fld Z h0 a1 "com/example/hermit_crab/hermitcrab/xml/BeanElements$Defaults" "lazyInit" "Z" (.int p2)) (hz : p2 = 0 ∨ p2 = 1) :
    MetFree l (⟨"com/example/hermit_crab/hermitcrab/xml/BeanElements$Defaults", "lazyInit", "()Z"⟩ : MethodName) (head1 (Jvm.Cond.code (⟨"com/example/hermit_crab/hermitcrab/xml/BeanElements$Defaults", "lazyInit", "()Z"⟩ : MethodName) prog_111_method_8_code 1 (some .boolean) :: ws) ({ frames := 0, cells := 0, slots := 0, locals := 0 } : Room)) (fun a U => a = #[(.ref a1)] ∧ Z.Warmed39 U.vm ∧ U.heap = h0) (fun _ _ _ _ _ => True) (fun _ U o U' => ∃ v L, o = .returned v ∧ Qlz Z a1 p2 h0 n0 v U'.heap L ∧ FrameEnd U o U' L ({ frames := 0, cells := 0, slots := 0, locals := 0 } : Room).cells ({ frames := 0, cells := 0, slots := 0, locals := 0 } : Room).slots) := by
  refine MetFree.of_bodySF (plainFor_of_name pn_5) hisR ?_
  intro p e s m args below meth c s₁ Bd hml0 hP hK
  obtain ⟨rfl, hZ, hh⟩ := hP
  have hx := Bd.exec
  have hby := Bd.bytes
  have hml : c.maxLocals = 1 := hml0
  have hown : s.vm.findClass "com/example/hermit_crab/hermitcrab/xml/BeanElements$Defaults" = some m.cls := findClass_of_methodNamed Bd.named
  have hnm := (name_of_methodNamed Bd.named Bd.method).1
  have hlk : meth.locks = false := BodyLoose.notSynchronized Bd
  have X0 : Stand p l e ({ frames := 0, cells := 0, slots := 0, locals := 0 } : Room) s m #[(.ref a1)] below meth c s₁ [] 0 0 := Stand.of_body Bd
  have e0 : s₁.heap = h0 := by rw [← hh, Bd.state]; rfl
  have N0 := Fr.nil n0
  have hef : entryFrame m #[(.ref a1)] 1 = mkF m 0 #[.val (.ref a1)] [] := by first | (simp [entryFrame, mkF, argsToLocals, Value.category]; done) | rfl
  show Go p e below s ({ frames := 0, cells := 0, slots := 0, locals := 0 } : Room).cells ({ frames := 0, cells := 0, slots := 0, locals := 0 } : Room).slots (Qlz Z a1 p2 h0 n0) (s₁.setTop (entryFrame m #[(.ref a1)] 1))
  rw [hef]
  refine Go.of (fun t k => XS.aloadN X0.here hx rfl (hb hby d13_0) rfl rfl k) ?_
  show Go _ _ _ _ _ _ _ (s₁.setTop (mkF m 1 #[.val (.ref a1)] [(.ref a1)]))
  obtain ⟨T1, X1, e1, st1⟩ := getF X0 hx hZ hown (host := "") (Or.inl (hw _ (List.mem_of_getElem? (i := 45) rfl))) Via.refl e0 F1 (g := (mkF m 1 #[.val (.ref a1)] [(.ref a1)])) rfl rfl (hb hby d13_1)
  refine Go.of st1 ?_
  show Go _ _ _ _ _ _ _ (T1.setTop (mkF m 4 #[.val (.ref a1)] [(.int p2)]))
  refine Go.out X1 (v := some (.int (nar .boolean p2))) (fun h => by rw [Bd.returns] at h; cases h) hlk (fun fs hr => retN X1 hx (t := .boolean) Bd.returns (by simp) (hb hby d13_4) hr) ?_ (by decide) (by decide)
  show Qlz Z a1 p2 h0 n0 _ T1.heap _
  rw [e1]
  exact ⟨by rw [(own_bool hz).2.2], N0, rfl⟩
theorem d14_0 : decode prog_111_method_9_code 0 = .ok (.aload_n 0, 1) := by decide +kernel
theorem d14_1 : decode prog_111_method_9_code 1 = .ok (.getfield 13, 3) := by decide +kernel
theorem d14_4 : decode prog_111_method_9_code 4 = .ok (.areturn, 1) := by decide +kernel
def Qcn (Z : State) (a1 : Nat) (h0 : Heap) (n0 : Nat) (v : Option Value) (h : Heap) (L : List Loc) : Prop := v = some .null ∧ Fr n0 L ∧ h = h0
set_option maxRecDepth 65536 in
set_option maxHeartbeats 40000000 in
theorem rmcn (l : Launch) (Z : State) (a0 : Array Value) (hw : ∀ d ∈ tables_1, d.before a0 Z = true) (ws : List Jvm.Cond) (a1 : Nat) (h0 : Heap) (n0 : Nat) (Z0 : n0 ≤ h0.size) (F1 : Fld Z h0 a1 "com/example/hermit_crab/hermitcrab/xml/BeanElements$Defaults" "autowireCandidates" "Ljava/util/List;" .null) :
    MetFree l (⟨"com/example/hermit_crab/hermitcrab/xml/BeanElements$Defaults", "autowireCandidates", "()Ljava/util/List;"⟩ : MethodName) (head1 (Jvm.Cond.code (⟨"com/example/hermit_crab/hermitcrab/xml/BeanElements$Defaults", "autowireCandidates", "()Ljava/util/List;"⟩ : MethodName) prog_111_method_9_code 1 (some (.object "java/util/List")) :: ws) ({ frames := 0, cells := 0, slots := 0, locals := 0 } : Room)) (fun a U => a = #[(.ref a1)] ∧ Z.Warmed39 U.vm ∧ U.heap = h0) (fun _ _ _ _ _ => True) (fun _ U o U' => ∃ v L, o = .returned v ∧ Qcn Z a1 h0 n0 v U'.heap L ∧ FrameEnd U o U' L ({ frames := 0, cells := 0, slots := 0, locals := 0 } : Room).cells ({ frames := 0, cells := 0, slots := 0, locals := 0 } : Room).slots) := by
  refine MetFree.of_bodySF (plainFor_of_name pn_5) hisR ?_
  intro p e s m args below meth c s₁ Bd hml0 hP hK
  obtain ⟨rfl, hZ, hh⟩ := hP
  have hx := Bd.exec
  have hby := Bd.bytes
  have hml : c.maxLocals = 1 := hml0
  have hown : s.vm.findClass "com/example/hermit_crab/hermitcrab/xml/BeanElements$Defaults" = some m.cls := findClass_of_methodNamed Bd.named
  have hnm := (name_of_methodNamed Bd.named Bd.method).1
  have hlk : meth.locks = false := BodyLoose.notSynchronized Bd
  have X0 : Stand p l e ({ frames := 0, cells := 0, slots := 0, locals := 0 } : Room) s m #[(.ref a1)] below meth c s₁ [] 0 0 := Stand.of_body Bd
  have e0 : s₁.heap = h0 := by rw [← hh, Bd.state]; rfl
  have N0 := Fr.nil n0
  have hef : entryFrame m #[(.ref a1)] 1 = mkF m 0 #[.val (.ref a1)] [] := by first | (simp [entryFrame, mkF, argsToLocals, Value.category]; done) | rfl
  show Go p e below s ({ frames := 0, cells := 0, slots := 0, locals := 0 } : Room).cells ({ frames := 0, cells := 0, slots := 0, locals := 0 } : Room).slots (Qcn Z a1 h0 n0) (s₁.setTop (entryFrame m #[(.ref a1)] 1))
  rw [hef]
  refine Go.of (fun t k => XS.aloadN X0.here hx rfl (hb hby d14_0) rfl rfl k) ?_
  show Go _ _ _ _ _ _ _ (s₁.setTop (mkF m 1 #[.val (.ref a1)] [(.ref a1)]))
  obtain ⟨T1, X1, e1, st1⟩ := getF X0 hx hZ hown (host := "") (Or.inl (hw _ (List.mem_of_getElem? (i := 47) rfl))) Via.refl e0 F1 (g := (mkF m 1 #[.val (.ref a1)] [(.ref a1)])) rfl rfl (hb hby d14_1)
  refine Go.of st1 ?_
  show Go _ _ _ _ _ _ _ (T1.setTop (mkF m 4 #[.val (.ref a1)] [.null]))
  refine Go.out X1 (v := some .null) (fun h => by rw [Bd.returns] at h; cases h) hlk (fun fs hr => retOut X1 hx (t := (.object "java/util/List")) Bd.returns rfl (Or.inr (Or.inr (Or.inr (Or.inr ⟨rfl, rfl, rfl⟩)))) (hb hby d14_4) hr) ?_ (by decide) (by decide)
  show Qcn Z a1 h0 n0 _ T1.heap _
  rw [e1]
  exact ⟨rfl, N0, rfl⟩
def Qcs (Z : State) (a1 : Nat) (a2 : Nat) (h0 : Heap) (n0 : Nat) (v : Option Value) (h : Heap) (L : List Loc) : Prop := v = some (.ref a2) ∧ Fr n0 L ∧ h = h0
set_option maxRecDepth 65536 in
set_option maxHeartbeats 40000000 in
theorem rmcs (l : Launch) (Z : State) (a0 : Array Value) (hw : ∀ d ∈ tables_1, d.before a0 Z = true) (ws : List Jvm.Cond) (a1 : Nat) (a2 : Nat) (h0 : Heap) (n0 : Nat) (Z0 : n0 ≤ h0.size) (F1 : Fld Z h0 a1 "com/example/hermit_crab/hermitcrab/xml/BeanElements$Defaults" "autowireCandidates" "Ljava/util/List;" (.ref a2)) :
    MetFree l (⟨"com/example/hermit_crab/hermitcrab/xml/BeanElements$Defaults", "autowireCandidates", "()Ljava/util/List;"⟩ : MethodName) (head1 (Jvm.Cond.code (⟨"com/example/hermit_crab/hermitcrab/xml/BeanElements$Defaults", "autowireCandidates", "()Ljava/util/List;"⟩ : MethodName) prog_111_method_9_code 1 (some (.object "java/util/List")) :: ws) ({ frames := 0, cells := 0, slots := 0, locals := 0 } : Room)) (fun a U => a = #[(.ref a1)] ∧ Z.Warmed39 U.vm ∧ U.heap = h0) (fun _ _ _ _ _ => True) (fun _ U o U' => ∃ v L, o = .returned v ∧ Qcs Z a1 a2 h0 n0 v U'.heap L ∧ FrameEnd U o U' L ({ frames := 0, cells := 0, slots := 0, locals := 0 } : Room).cells ({ frames := 0, cells := 0, slots := 0, locals := 0 } : Room).slots) := by
  refine MetFree.of_bodySF (plainFor_of_name pn_5) hisR ?_
  intro p e s m args below meth c s₁ Bd hml0 hP hK
  obtain ⟨rfl, hZ, hh⟩ := hP
  have hx := Bd.exec
  have hby := Bd.bytes
  have hml : c.maxLocals = 1 := hml0
  have hown : s.vm.findClass "com/example/hermit_crab/hermitcrab/xml/BeanElements$Defaults" = some m.cls := findClass_of_methodNamed Bd.named
  have hnm := (name_of_methodNamed Bd.named Bd.method).1
  have hlk : meth.locks = false := BodyLoose.notSynchronized Bd
  have X0 : Stand p l e ({ frames := 0, cells := 0, slots := 0, locals := 0 } : Room) s m #[(.ref a1)] below meth c s₁ [] 0 0 := Stand.of_body Bd
  have e0 : s₁.heap = h0 := by rw [← hh, Bd.state]; rfl
  have N0 := Fr.nil n0
  have hef : entryFrame m #[(.ref a1)] 1 = mkF m 0 #[.val (.ref a1)] [] := by first | (simp [entryFrame, mkF, argsToLocals, Value.category]; done) | rfl
  show Go p e below s ({ frames := 0, cells := 0, slots := 0, locals := 0 } : Room).cells ({ frames := 0, cells := 0, slots := 0, locals := 0 } : Room).slots (Qcs Z a1 a2 h0 n0) (s₁.setTop (entryFrame m #[(.ref a1)] 1))
  rw [hef]
  refine Go.of (fun t k => XS.aloadN X0.here hx rfl (hb hby d14_0) rfl rfl k) ?_
  show Go _ _ _ _ _ _ _ (s₁.setTop (mkF m 1 #[.val (.ref a1)] [(.ref a1)]))
  obtain ⟨T1, X1, e1, st1⟩ := getF X0 hx hZ hown (host := "") (Or.inl (hw _ (List.mem_of_getElem? (i := 47) rfl))) Via.refl e0 F1 (g := (mkF m 1 #[.val (.ref a1)] [(.ref a1)])) rfl rfl (hb hby d14_1)
  refine Go.of st1 ?_
  show Go _ _ _ _ _ _ _ (T1.setTop (mkF m 4 #[.val (.ref a1)] [(.ref a2)]))
  refine Go.out X1 (v := some (.ref a2)) (fun h => by rw [Bd.returns] at h; cases h) hlk (fun fs hr => retOut X1 hx (t := (.object "java/util/List")) Bd.returns rfl (Or.inr (Or.inr (Or.inr (Or.inr ⟨rfl, rfl, rfl⟩)))) (hb hby d14_4) hr) ?_ (by decide) (by decide)
  show Qcs Z a1 a2 h0 n0 _ T1.heap _
  rw [e1]
  exact ⟨rfl, N0, rfl⟩
theorem d15_0 : decode prog_111_method_10_code 0 = .ok (.aload_n 0, 1) := by decide +kernel
theorem d15_1 : decode prog_111_method_10_code 1 = .ok (.getfield 17, 3) := by decide +kernel
theorem d15_4 : decode prog_111_method_10_code 4 = .ok (.areturn, 1) := by decide +kernel
def Qau (Z : State) (a1 : Nat) (a2 : Nat) (h0 : Heap) (n0 : Nat) (v : Option Value) (h : Heap) (L : List Loc) : Prop := v = some (.ref a2) ∧ Fr n0 L ∧ h = h0
set_option maxRecDepth 65536 in
set_option maxHeartbeats 40000000 in
theorem rmau (l : Launch) (Z : State) (a0 : Array Value) (hw : ∀ d ∈ tables_1, d.before a0 Z = true) (ws : List Jvm.Cond) (a1 : Nat) (a2 : Nat) (h0 : Heap) (n0 : Nat) (Z0 : n0 ≤ h0.size) (F1 : Fld Z h0 a1 "com/example/hermit_crab/hermitcrab/xml/BeanElements$Defaults" "autowire" "Lcom/example/hermit_crab/hermitcrab/definition/BeanDefinition$Autowiring$Mode;" (.ref a2)) :
    MetFree l (⟨"com/example/hermit_crab/hermitcrab/xml/BeanElements$Defaults", "autowire", "()Lcom/example/hermit_crab/hermitcrab/definition/BeanDefinition$Autowiring$Mode;"⟩ : MethodName) (head1 (Jvm.Cond.code (⟨"com/example/hermit_crab/hermitcrab/xml/BeanElements$Defaults", "autowire", "()Lcom/example/hermit_crab/hermitcrab/definition/BeanDefinition$Autowiring$Mode;"⟩ : MethodName) prog_111_method_10_code 1 (some (.object "com/example/hermit_crab/hermitcrab/definition/BeanDefinition$Autowiring$Mode")) :: ws) ({ frames := 0, cells := 0, slots := 0, locals := 0 } : Room)) (fun a U => a = #[(.ref a1)] ∧ Z.Warmed39 U.vm ∧ U.heap = h0) (fun _ _ _ _ _ => True) (fun _ U o U' => ∃ v L, o = .returned v ∧ Qau Z a1 a2 h0 n0 v U'.heap L ∧ FrameEnd U o U' L ({ frames := 0, cells := 0, slots := 0, locals := 0 } : Room).cells ({ frames := 0, cells := 0, slots := 0, locals := 0 } : Room).slots) := by
  refine MetFree.of_bodySF (plainFor_of_name pn_5) hisR ?_
  intro p e s m args below meth c s₁ Bd hml0 hP hK
  obtain ⟨rfl, hZ, hh⟩ := hP
  have hx := Bd.exec
  have hby := Bd.bytes
  have hml : c.maxLocals = 1 := hml0
  have hown : s.vm.findClass "com/example/hermit_crab/hermitcrab/xml/BeanElements$Defaults" = some m.cls := findClass_of_methodNamed Bd.named
  have hnm := (name_of_methodNamed Bd.named Bd.method).1
  have hlk : meth.locks = false := BodyLoose.notSynchronized Bd
  have X0 : Stand p l e ({ frames := 0, cells := 0, slots := 0, locals := 0 } : Room) s m #[(.ref a1)] below meth c s₁ [] 0 0 := Stand.of_body Bd
  have e0 : s₁.heap = h0 := by rw [← hh, Bd.state]; rfl
  have N0 := Fr.nil n0
  have hef : entryFrame m #[(.ref a1)] 1 = mkF m 0 #[.val (.ref a1)] [] := by first | (simp [entryFrame, mkF, argsToLocals, Value.category]; done) | rfl
  show Go p e below s ({ frames := 0, cells := 0, slots := 0, locals := 0 } : Room).cells ({ frames := 0, cells := 0, slots := 0, locals := 0 } : Room).slots (Qau Z a1 a2 h0 n0) (s₁.setTop (entryFrame m #[(.ref a1)] 1))
  rw [hef]
  refine Go.of (fun t k => XS.aloadN X0.here hx rfl (hb hby d15_0) rfl rfl k) ?_
  show Go _ _ _ _ _ _ _ (s₁.setTop (mkF m 1 #[.val (.ref a1)] [(.ref a1)]))
  obtain ⟨T1, X1, e1, st1⟩ := getF X0 hx hZ hown (host := "") (Or.inl (hw _ (List.mem_of_getElem? (i := 49) rfl))) Via.refl e0 F1 (g := (mkF m 1 #[.val (.ref a1)] [(.ref a1)])) rfl rfl (hb hby d15_1)
  refine Go.of st1 ?_
  show Go _ _ _ _ _ _ _ (T1.setTop (mkF m 4 #[.val (.ref a1)] [(.ref a2)]))
  refine Go.out X1 (v := some (.ref a2)) (fun h => by rw [Bd.returns] at h; cases h) hlk (fun fs hr => retOut X1 hx (t := (.object "com/example/hermit_crab/hermitcrab/definition/BeanDefinition$Autowiring$Mode")) Bd.returns rfl (Or.inr (Or.inr (Or.inr (Or.inr ⟨rfl, rfl, rfl⟩)))) (hb hby d15_4) hr) ?_ (by decide) (by decide)
  show Qau Z a1 a2 h0 n0 _ T1.heap _
  rw [e1]
  exact ⟨rfl, N0, rfl⟩
theorem d16_0 : decode prog_111_method_4_code 0 = .ok (.aload_n 0, 1) := by decide +kernel
theorem d16_1 : decode prog_111_method_4_code 1 = .ok (.getfield 13, 3) := by decide +kernel
theorem d16_4 : decode prog_111_method_4_code 4 = .ok (.ifnonnull 5, 3) := by decide +kernel
theorem d16_7 : decode prog_111_method_4_code 7 = .ok (.iconst 1, 1) := by decide +kernel
theorem d16_8 : decode prog_111_method_4_code 8 = .ok (.ireturn, 1) := by decide +kernel
def Q16 (Z : State) (a1 : Nat) (a2 : Nat) (h0 : Heap) (n0 : Nat) (v : Option Value) (h : Heap) (L : List Loc) : Prop := v = some (.int 1) ∧ Fr n0 L ∧ h = h0
set_option maxRecDepth 65536 in
set_option maxHeartbeats 40000000 in
theorem rm16 (l : Launch) (Z : State) (a0 : Array Value) (hw : ∀ d ∈ tables_1, d.before a0 Z = true) (ws : List Jvm.Cond) (a1 : Nat) (a2 : Nat) (h0 : Heap) (n0 : Nat) (Z0 : n0 ≤ h0.size) (F1 : Fld Z h0 a1 "com/example/hermit_crab/hermitcrab/xml/BeanElements$Defaults" "autowireCandidates" "Ljava/util/List;" .null) :
    MetFree l (⟨"com/example/hermit_crab/hermitcrab/xml/BeanElements$Defaults", "isAutowireCandidate", "(Ljava/lang/String;)Z"⟩ : MethodName) (head1 (Jvm.Cond.code (⟨"com/example/hermit_crab/hermitcrab/xml/BeanElements$Defaults", "isAutowireCandidate", "(Ljava/lang/String;)Z"⟩ : MethodName) prog_111_method_4_code 4 (some .boolean) :: ws) ({ frames := 0, cells := 0, slots := 0, locals := 0 } : Room)) (fun a U => a = #[(.ref a1), (.ref a2)] ∧ Z.Warmed39 U.vm ∧ U.heap = h0) (fun _ _ _ _ _ => True) (fun _ U o U' => ∃ v L, o = .returned v ∧ Q16 Z a1 a2 h0 n0 v U'.heap L ∧ FrameEnd U o U' L ({ frames := 0, cells := 0, slots := 0, locals := 0 } : Room).cells ({ frames := 0, cells := 0, slots := 0, locals := 0 } : Room).slots) := by
  refine MetFree.of_bodySF (plainFor_of_name pn_5) hisR ?_
  intro p e s m args below meth c s₁ Bd hml0 hP hK
  obtain ⟨rfl, hZ, hh⟩ := hP
  have hx := Bd.exec
  have hby := Bd.bytes
  have hml : c.maxLocals = 4 := hml0
  have hown : s.vm.findClass "com/example/hermit_crab/hermitcrab/xml/BeanElements$Defaults" = some m.cls := findClass_of_methodNamed Bd.named
  have hnm := (name_of_methodNamed Bd.named Bd.method).1
  have hlk : meth.locks = false := BodyLoose.notSynchronized Bd
  have X0 : Stand p l e ({ frames := 0, cells := 0, slots := 0, locals := 0 } : Room) s m #[(.ref a1), (.ref a2)] below meth c s₁ [] 0 0 := Stand.of_body Bd
  have e0 : s₁.heap = h0 := by rw [← hh, Bd.state]; rfl
  have N0 := Fr.nil n0
  have hef : entryFrame m #[(.ref a1), (.ref a2)] 4 = mkF m 0 #[.val (.ref a1), .val (.ref a2), .unset, .unset] [] := by first | (simp [entryFrame, mkF, argsToLocals, Value.category]; done) | rfl
  show Go p e below s ({ frames := 0, cells := 0, slots := 0, locals := 0 } : Room).cells ({ frames := 0, cells := 0, slots := 0, locals := 0 } : Room).slots (Q16 Z a1 a2 h0 n0) (s₁.setTop (entryFrame m #[(.ref a1), (.ref a2)] 4))
  rw [hef]
  refine Go.of (fun t k => XS.aloadN X0.here hx rfl (hb hby d16_0) rfl rfl k) ?_
  show Go _ _ _ _ _ _ _ (s₁.setTop (mkF m 1 #[.val (.ref a1), .val (.ref a2), .unset, .unset] [(.ref a1)]))
  obtain ⟨T1, X1, e1, st1⟩ := getF X0 hx hZ hown (host := "") (Or.inl (hw _ (List.mem_of_getElem? (i := 47) rfl))) Via.refl e0 F1 (g := (mkF m 1 #[.val (.ref a1), .val (.ref a2), .unset, .unset] [(.ref a1)])) rfl rfl (hb hby d16_1)
  refine Go.of st1 ?_
  show Go _ _ _ _ _ _ _ (T1.setTop (mkF m 4 #[.val (.ref a1), .val (.ref a2), .unset, .unset] [.null]))
  refine Go.of (fun t k => XS.ifnonnullNo X1.here hx rfl (hb hby d16_4) rfl k) ?_
  show Go _ _ _ _ _ _ _ (T1.setTop (mkF m 7 #[.val (.ref a1), .val (.ref a2), .unset, .unset] []))
  refine Go.of (fun t k => XS.iconst X1.here hx rfl (hb hby d16_7) k) ?_
  show Go _ _ _ _ _ _ _ (T1.setTop (mkF m 8 #[.val (.ref a1), .val (.ref a2), .unset, .unset] [(.int (1 : Int32))]))
  refine Go.out X1 (v := some (.int (1 : Int32))) (fun h => by rw [Bd.returns] at h; cases h) hlk (fun fs hr => retN X1 hx (t := .boolean) Bd.returns (by simp) (hb hby d16_8) hr) ?_ (by decide) (by decide)
  show Q16 Z a1 a2 h0 n0 _ T1.heap _
  rw [e1]
  exact ⟨rfl, N0, rfl⟩
theorem pd_5 : parseMethodDescriptor "(I)Lcom/example/hermit_crab/hermitcrab/definition/BeanDefinition$Autowiring$Mode;" = some ⟨[.int], some (.object "com/example/hermit_crab/hermitcrab/definition/BeanDefinition$Autowiring$Mode")⟩ := by decide +kernel
theorem pd_6 : parseMethodDescriptor "()Lcom/example/hermit_crab/hermitcrab/xml/BeanElements$Defaults;" = some ⟨[], some (.object "com/example/hermit_crab/hermitcrab/xml/BeanElements$Defaults")⟩ := by decide +kernel
theorem pd_7 : parseMethodDescriptor "(C)Ljava/lang/String;" = some ⟨[.char], some (.object "java/lang/String")⟩ := by decide +kernel
theorem pd_8 : parseMethodDescriptor "()Z" = some ⟨[], some .boolean⟩ := by decide +kernel
theorem pd_9 : parseMethodDescriptor "()Ljava/util/List;" = some ⟨[], some (.object "java/util/List")⟩ := by decide +kernel
theorem pd_10 : parseMethodDescriptor "()Lcom/example/hermit_crab/hermitcrab/definition/BeanDefinition$Autowiring$Mode;" = some ⟨[], some (.object "com/example/hermit_crab/hermitcrab/definition/BeanDefinition$Autowiring$Mode")⟩ := by decide +kernel
theorem pd_11 : parseMethodDescriptor "(Ljava/lang/String;)Z" = some ⟨[(.object "java/lang/String")], some .boolean⟩ := by decide +kernel
def Q0 (Z : State) (p1 : Int32) (p2 : Int32) (p3 : Int32) (wNO : Nat) (wBN : Nat) (wBT : Nat) (wCO : Nat) (wD : Nat) (cs : Int32) (h0 : Heap) (n0 : Nat) (v : Option Value) (h : Heap) (L : List Loc) : Prop := v = some (.int 1) ∧ Fr n0 L
set_option maxRecDepth 65536 in
set_option maxHeartbeats 40000000 in
theorem rm0 (l : Launch) (Z : State) (a0 : Array Value) (hw : ∀ d ∈ tables_1, d.before a0 Z = true) (ws : List Jvm.Cond) (p1 : Int32) (p2 : Int32) (p3 : Int32) (wNO : Nat) (wBN : Nat) (wBT : Nat) (wCO : Nat) (wD : Nat) (cs : Int32) (h0 : Heap) (n0 : Nat) (Z0 : n0 ≤ h0.size) (O0 : Old Z n0 h0) (S_NO : Sta Z Z.heap "com/example/hermit_crab/hermitcrab/definition/BeanDefinition$Autowiring$Mode" "NO" "Lcom/example/hermit_crab/hermitcrab/definition/BeanDefinition$Autowiring$Mode;" (.ref wNO)) (S_BY_NAME : Sta Z Z.heap "com/example/hermit_crab/hermitcrab/definition/BeanDefinition$Autowiring$Mode" "BY_NAME" "Lcom/example/hermit_crab/hermitcrab/definition/BeanDefinition$Autowiring$Mode;" (.ref wBN)) (S_BY_TYPE : Sta Z Z.heap "com/example/hermit_crab/hermitcrab/definition/BeanDefinition$Autowiring$Mode" "BY_TYPE" "Lcom/example/hermit_crab/hermitcrab/definition/BeanDefinition$Autowiring$Mode;" (.ref wBT)) (S_CONSTRUCTOR : Sta Z Z.heap "com/example/hermit_crab/hermitcrab/definition/BeanDefinition$Autowiring$Mode" "CONSTRUCTOR" "Lcom/example/hermit_crab/hermitcrab/definition/BeanDefinition$Autowiring$Mode;" (.ref wCO)) (S_D : Sta Z Z.heap "java/util/ArrayList" "DEFAULTCAPACITY_EMPTY_ELEMENTDATA" "[Ljava/lang/Object;" (.ref wD)) (S_cs : Sta Z Z.heap "java/lang/String" "COMPACT_STRINGS" "Z" (.int cs)) (hcs : ¬ cs = (0 : Int32)) :
    MetFree l x (head1 (Jvm.Cond.code x code maxLocals ret :: ws) room_1) (fun a U => a = #[(.int p1), (.int p2), (.int p3)] ∧ Z.Warmed39 U.vm ∧ U.heap = h0) (fun _ _ _ _ _ => True) (fun _ U o U' => ∃ v L, o = .returned v ∧ Q0 Z p1 p2 p3 wNO wBN wBT wCO wD cs h0 n0 v U'.heap L ∧ FrameEnd U o U' L room_1.cells room_1.slots) := by
  refine MetFree.of_bodySF (plainFor_of_name pn_0) hisR ?_
  intro p e s m args below meth c s₁ Bd hml0 hP hK
  obtain ⟨rfl, hZ, hh⟩ := hP
  have hx := Bd.exec
  have hby := Bd.bytes
  have hml : c.maxLocals = 10 := hml0
  have hown : s.vm.findClass "com/example/hermit_crab/hermitcrab/xml/DefaultsForInnerBeansPinLaw" = some m.cls := findClass_of_methodNamed Bd.named
  have hnm := (name_of_methodNamed Bd.named Bd.method).1
  have hlk : meth.locks = false := BodyLoose.notSynchronized Bd
  have X0 : Stand p l e room_1 s m #[(.int p1), (.int p2), (.int p3)] below meth c s₁ [] 0 0 := Stand.of_body Bd
  have e0 : s₁.heap = h0 := by rw [← hh, Bd.state]; rfl
  have N0 := Fr.nil n0
  have hef : entryFrame m #[(.int p1), (.int p2), (.int p3)] maxLocals = mkF m 0 #[.val (.int p1), .val (.int p2), .val (.int p3), .unset, .unset, .unset, .unset, .unset, .unset, .unset] [] := by first | (simp [entryFrame, mkF, argsToLocals, Value.category, maxLocals]; done) | rfl
  show Go p e below s room_1.cells room_1.slots (Q0 Z p1 p2 p3 wNO wBN wBT wCO wD cs h0 n0) (s₁.setTop (entryFrame m #[(.int p1), (.int p2), (.int p3)] maxLocals))
  rw [hef]
  refine Go.of (fun t k => XS.iloadN X0.here hx rfl (hb hby at_0) rfl k) ?_
  show Go _ _ _ _ _ _ _ (s₁.setTop (mkF m 1 #[.val (.int p1), .val (.int p2), .val (.int p3), .unset, .unset, .unset, .unset, .unset, .unset, .unset] [(.int p1)]))
  refine Go.of (fun t k => XS.iconst X0.here hx rfl (hb hby at_1) k) ?_
  show Go _ _ _ _ _ _ _ (s₁.setTop (mkF m 2 #[.val (.int p1), .val (.int p2), .val (.int p3), .unset, .unset, .unset, .unset, .unset, .unset, .unset] [(.int (1 : Int32)), (.int p1)]))
  refine Go.of (fun t k => XS.iand X0.here hx rfl (hb hby at_2) rfl k) ?_
  show Go _ _ _ _ _ _ _ (s₁.setTop (mkF m 3 #[.val (.int p1), .val (.int p2), .val (.int p3), .unset, .unset, .unset, .unset, .unset, .unset, .unset] [(.int (p1 &&& (1 : Int32)))]))
  have k11_2 : ∀ (z : Int32) (hz : z = 0 ∨ z = 1), Go p e below s room_1.cells room_1.slots (Q0 Z p1 p2 p3 wNO wBN wBT wCO wD cs h0 n0) (s₁.setTop (mkF m 11 #[.val (.int p1), .val (.int p2), .val (.int p3), .unset, .unset, .unset, .unset, .unset, .unset, .unset] [(.int z)])) := by
    intro z hz
    refine Go.of (fun t k => XS.istoreN X0.here hx rfl (hb hby at_11) rfl (l' := #[.val (.int p1), .val (.int p2), .val (.int p3), .val (.int z), .unset, .unset, .unset, .unset, .unset, .unset]) rfl k) ?_
    show Go _ _ _ _ _ _ _ (s₁.setTop (mkF m 12 #[.val (.int p1), .val (.int p2), .val (.int p3), .val (.int z), .unset, .unset, .unset, .unset, .unset, .unset] []))
    refine Go.of (fun t k => XS.iloadN X0.here hx rfl (hb hby at_12) rfl k) ?_
    show Go _ _ _ _ _ _ _ (s₁.setTop (mkF m 13 #[.val (.int p1), .val (.int p2), .val (.int p3), .val (.int z), .unset, .unset, .unset, .unset, .unset, .unset] [(.int p1)]))
    refine Go.of (fun t k => XS.iconst X0.here hx rfl (hb hby at_13) k) ?_
    show Go _ _ _ _ _ _ _ (s₁.setTop (mkF m 14 #[.val (.int p1), .val (.int p2), .val (.int p3), .val (.int z), .unset, .unset, .unset, .unset, .unset, .unset] [(.int (2 : Int32)), (.int p1)]))
    refine Go.of (fun t k => XS.iand X0.here hx rfl (hb hby at_14) rfl k) ?_
    show Go _ _ _ _ _ _ _ (s₁.setTop (mkF m 15 #[.val (.int p1), .val (.int p2), .val (.int p3), .val (.int z), .unset, .unset, .unset, .unset, .unset, .unset] [(.int (p1 &&& (2 : Int32)))]))
    by_cases hc15_3 : (p1 &&& (2 : Int32)) = (0 : Int32)
    · skip
      refine Go.of (fun t k => XS.ifYes X0.here hx rfl (pc0 := 15) (pc' := 22) rfl (hb hby at_15) rfl ((if0 _ _).trans (teq hc15_3).1) (by decide) (by decide) k) ?_
      show Go _ _ _ _ _ _ _ (s₁.setTop (mkF m 22 #[.val (.int p1), .val (.int p2), .val (.int p3), .val (.int z), .unset, .unset, .unset, .unset, .unset, .unset] []))
      refine Go.of (fun t k => XS.iconst X0.here hx rfl (hb hby at_22) k) ?_
      show Go _ _ _ _ _ _ _ (s₁.setTop (mkF m 23 #[.val (.int p1), .val (.int p2), .val (.int p3), .val (.int z), .unset, .unset, .unset, .unset, .unset, .unset] [(.int (0 : Int32))]))
      refine Go.of (fun t k => XS.istore X0.here hx rfl (hb hby at_23) rfl (l' := #[.val (.int p1), .val (.int p2), .val (.int p3), .val (.int z), .val (.int (0 : Int32)), .unset, .unset, .unset, .unset, .unset]) rfl k) ?_
      show Go _ _ _ _ _ _ _ (s₁.setTop (mkF m 25 #[.val (.int p1), .val (.int p2), .val (.int p3), .val (.int z), .val (.int (0 : Int32)), .unset, .unset, .unset, .unset, .unset] []))
      refine Go.of (fun t k => XS.iloadN X0.here hx rfl (hb hby at_25) rfl k) ?_
      show Go _ _ _ _ _ _ _ (s₁.setTop (mkF m 26 #[.val (.int p1), .val (.int p2), .val (.int p3), .val (.int z), .val (.int (0 : Int32)), .unset, .unset, .unset, .unset, .unset] [(.int p2)]))
      refine Go.of (fun t k => XS.iconst X0.here hx rfl (hb hby at_26) k) ?_
      show Go _ _ _ _ _ _ _ (s₁.setTop (mkF m 27 #[.val (.int p1), .val (.int p2), .val (.int p3), .val (.int z), .val (.int (0 : Int32)), .unset, .unset, .unset, .unset, .unset] [(.int (3 : Int32)), (.int p2)]))
      refine Go.of (fun t k => XS.iand X0.here hx rfl (hb hby at_27) rfl k) ?_
      show Go _ _ _ _ _ _ _ (s₁.setTop (mkF m 28 #[.val (.int p1), .val (.int p2), .val (.int p3), .val (.int z), .val (.int (0 : Int32)), .unset, .unset, .unset, .unset, .unset] [(.int (p2 &&& (3 : Int32)))]))
      obtain ⟨_, _, ⟨T4, L4, k4, n4⟩, -, X4, ⟨Lc4, hQ4, l4, y4, z4⟩, st4⟩ := Jvm.LawKit.callS X0 hx (y := (⟨"com/example/hermit_crab/hermitcrab/xml/DefaultsForInnerBeansPinLaw", "mode", "(I)Lcom/example/hermit_crab/hermitcrab/definition/BeanDefinition$Autowiring$Mode;"⟩ : MethodName)) hown (mvT hZ (hw _ (List.mem_of_getElem? (i := 0) rfl))) (mvT hZ (hw _ (List.mem_of_getElem? (i := 1) rfl))) (mvT hZ (hw _ (List.mem_of_getElem? (i := 2) rfl))) (mvT hZ (hw _ (List.mem_of_getElem? (i := 3) rfl))) (by decide) (backOf (W := 0) (rm1 l Z a0 hw [] (p2 &&& (3 : Int32)) wNO wBN wBT wCO h0 n0 Z0 (S_NO.ext O0.2) (S_BY_NAME.ext O0.2) (S_BY_TYPE.ext O0.2) (S_CONSTRUCTOR.ext O0.2)) hZ (hw _ (List.mem_of_getElem? (i := 3) rfl)) (hw _ (List.mem_of_getElem? (i := 2) rfl)) (by decide) (by decide)) (g := (mkF m 28 #[.val (.int p1), .val (.int p2), .val (.int p3), .val (.int z), .val (.int (0 : Int32)), .unset, .unset, .unset, .unset, .unset] [(.int (p2 &&& (3 : Int32)))])) rfl (by rw [hml]; rfl) (argsL := [(.int (p2 &&& (3 : Int32)))]) (rest := []) (lenOf pd_5 rfl) rfl (by show 2 * 0 + _ ≤ _; exact Nat.le_of_eq rfl) (hb hby at_28) (fun _ _ => ⟨rfl, e0, (by decide : 0 + 0 ≤ _), (by decide : 0 + 0 ≤ _)⟩)
      dsimp only [Pt.U, Pt.locs, Pt.cells, Pt.slots] at X4 l4 y4 z4 st4 hQ4
      subst l4 y4 z4
      obtain ⟨rfl, N4q, e4⟩ := hQ4
      have N4 := Fr.app N0 N4q
      refine Go.of st4 ?_
      show Go _ _ _ _ _ _ _ (T4.setTop (mkF m 31 #[.val (.int p1), .val (.int p2), .val (.int p3), .val (.int z), .val (.int (0 : Int32)), .unset, .unset, .unset, .unset, .unset] [(.ref (own_pick (p2 &&& (3 : Int32)) wNO wBN wBT wCO))]))
      refine Go.of (fun t k => XS.astore X4.here hx rfl (hb hby at_31) rfl rfl (l' := #[.val (.int p1), .val (.int p2), .val (.int p3), .val (.int z), .val (.int (0 : Int32)), .val (.ref (own_pick (p2 &&& (3 : Int32)) wNO wBN wBT wCO)), .unset, .unset, .unset, .unset]) rfl k) ?_
      show Go _ _ _ _ _ _ _ (T4.setTop (mkF m 33 #[.val (.int p1), .val (.int p2), .val (.int p3), .val (.int z), .val (.int (0 : Int32)), .val (.ref (own_pick (p2 &&& (3 : Int32)) wNO wBN wBT wCO)), .unset, .unset, .unset, .unset] []))
      refine Go.of (fun t k => XS.iload X4.here hx rfl (hb hby at_33) rfl k) ?_
      show Go _ _ _ _ _ _ _ (T4.setTop (mkF m 35 #[.val (.int p1), .val (.int p2), .val (.int p3), .val (.int z), .val (.int (0 : Int32)), .val (.ref (own_pick (p2 &&& (3 : Int32)) wNO wBN wBT wCO)), .unset, .unset, .unset, .unset] [(.int (0 : Int32))]))
      refine Go.of (fun t k => XS.ifYes X4.here hx rfl (pc0 := 35) (pc' := 42) rfl (hb hby at_35) rfl ((if0 _ _).trans (teq (by decide : (0 : Int32) = (0 : Int32))).1) (by decide) (by decide) k) ?_
      show Go _ _ _ _ _ _ _ (T4.setTop (mkF m 42 #[.val (.int p1), .val (.int p2), .val (.int p3), .val (.int z), .val (.int (0 : Int32)), .val (.ref (own_pick (p2 &&& (3 : Int32)) wNO wBN wBT wCO)), .unset, .unset, .unset, .unset] []))
      obtain ⟨T5, h5, X5, e5, E5, A5, D5, -, st5⟩ := newO X4 hx hZ hown (hw _ (List.mem_of_getElem? (i := 7) rfl)) (hw _ (List.mem_of_getElem? (i := 8) rfl)) (hw _ (List.mem_of_getElem? (i := 9) rfl)) e4 (g := (mkF m 42 #[.val (.int p1), .val (.int p2), .val (.int p3), .val (.int z), .val (.int (0 : Int32)), .val (.ref (own_pick (p2 &&& (3 : Int32)) wNO wBN wBT wCO)), .unset, .unset, .unset, .unset] [])) rfl (hb hby at_42) (by decide) (by decide)
      obtain ⟨b5, g5⟩ : ∃ z, z = h0.size := ⟨_, rfl⟩
      rw [← g5] at A5 D5 st5
      have lt5 : b5 < h5.size := A5.lt
      refine Go.of st5 ?_
      have hs6 : h0.size ≤ h5.size := E5.1
      have F5_modCount : Fld Z h5 b5 "java/util/AbstractList" "modCount" "I" (.int (0 : Int32)) := D5 (Or.inl (hw _ (List.mem_of_getElem? (i := 29) rfl))) (ty := .int) (by decide)
      have F5_elementData : Fld Z h5 b5 "java/util/ArrayList" "elementData" "[Ljava/lang/Object;" .null := D5 (Or.inl (hw _ (List.mem_of_getElem? (i := 32) rfl))) (ty := (.array (.object "java/lang/Object"))) (by decide)
      show Go _ _ _ _ _ _ _ (T5.setTop (mkF m 45 #[.val (.int p1), .val (.int p2), .val (.int p3), .val (.int z), .val (.int (0 : Int32)), .val (.ref (own_pick (p2 &&& (3 : Int32)) wNO wBN wBT wCO)), .unset, .unset, .unset, .unset] [(.ref b5)]))
      refine Go.of (fun t k => XS.dup X5.here hx rfl (hb hby at_45) rfl rfl k) ?_
      show Go _ _ _ _ _ _ _ (T5.setTop (mkF m 46 #[.val (.int p1), .val (.int p2), .val (.int p3), .val (.int z), .val (.int (0 : Int32)), .val (.ref (own_pick (p2 &&& (3 : Int32)) wNO wBN wBT wCO)), .unset, .unset, .unset, .unset] [(.ref b5), (.ref b5)]))
      have f7 := (O0.ext E5)
      obtain ⟨_, _, ⟨T8, L8, k8, n8⟩, -, X8, ⟨Lc8, hQ8, l8, y8, z8⟩, st8⟩ := X5.specialBack hx (y := (⟨"java/util/ArrayList", "<init>", "()V"⟩ : MethodName)) rfl hown (mvT hZ (hw _ (List.mem_of_getElem? (i := 10) rfl))) (mvT hZ (hw _ (List.mem_of_getElem? (i := 11) rfl))) (mvT hZ (hw _ (List.mem_of_getElem? (i := 12) rfl))) (by decide) (backOf (W := 1) (rm2 l Z a0 hw [] b5 wD h5 n0 (by omega) f7 S_D A5 (by omega) F5_modCount F5_elementData) hZ (hw _ (List.mem_of_getElem? (i := 12) rfl)) (hw _ (List.mem_of_getElem? (i := 9) rfl)) (by decide) (by decide)) (g := (mkF m 46 #[.val (.int p1), .val (.int p2), .val (.int p3), .val (.int z), .val (.int (0 : Int32)), .val (.ref (own_pick (p2 &&& (3 : Int32)) wNO wBN wBT wCO)), .unset, .unset, .unset, .unset] [(.ref b5), (.ref b5)])) rfl (by rw [hml]; rfl) (Steps.refl _) (a := b5) (argsL := []) (rest := [(.ref b5)]) (lenOf pd_0 rfl) rfl (by show 2 * 0 + _ ≤ _; exact Nat.le_of_eq rfl) (hb hby at_46) (fun _ _ => ⟨rfl, e5, (by decide : 1 + 0 ≤ _), (by decide : 3 + 0 ≤ _)⟩)
      dsimp only [Pt.U, Pt.locs, Pt.cells, Pt.slots] at X8 l8 y8 z8 st8 hQ8
      subst l8 y8 z8
      obtain ⟨rfl, N8q, K8, Ex8⟩ := hQ8
      have N8 := Fr.app N4 N8q
      refine Go.tr st8 ?_
      have hs9 : h5.size ≤ T8.heap.size := K8.1
      show Go _ _ _ _ _ _ _ (T8.setTop (mkF m 49 #[.val (.int p1), .val (.int p2), .val (.int p3), .val (.int z), .val (.int (0 : Int32)), .val (.ref (own_pick (p2 &&& (3 : Int32)) wNO wBN wBT wCO)), .unset, .unset, .unset, .unset] [(.ref b5)]))
      refine Go.of (fun t k => XS.astore X8.here hx rfl (hb hby at_49) rfl rfl (l' := #[.val (.int p1), .val (.int p2), .val (.int p3), .val (.int z), .val (.int (0 : Int32)), .val (.ref (own_pick (p2 &&& (3 : Int32)) wNO wBN wBT wCO)), .val (.ref b5), .unset, .unset, .unset]) rfl k) ?_
      show Go _ _ _ _ _ _ _ (T8.setTop (mkF m 51 #[.val (.int p1), .val (.int p2), .val (.int p3), .val (.int z), .val (.int (0 : Int32)), .val (.ref (own_pick (p2 &&& (3 : Int32)) wNO wBN wBT wCO)), .val (.ref b5), .unset, .unset, .unset] []))
      obtain ⟨T10, h10, X10, e10, E10, A10, D10, -, st10⟩ := newO X8 hx hZ hown (hw _ (List.mem_of_getElem? (i := 33) rfl)) (hw _ (List.mem_of_getElem? (i := 34) rfl)) (hw _ (List.mem_of_getElem? (i := 35) rfl)) rfl (g := (mkF m 51 #[.val (.int p1), .val (.int p2), .val (.int p3), .val (.int z), .val (.int (0 : Int32)), .val (.ref (own_pick (p2 &&& (3 : Int32)) wNO wBN wBT wCO)), .val (.ref b5), .unset, .unset, .unset] [])) rfl (hb hby at_51) (by decide) (by decide)
      obtain ⟨b10, g10⟩ : ∃ z, z = T8.heap.size := ⟨_, rfl⟩
      rw [← g10] at A10 D10 st10
      have lt10 : b10 < h10.size := A10.lt
      refine Go.of st10 ?_
      have hs11 : T8.heap.size ≤ h10.size := E10.1
      have F10_lazyInit : Fld Z h10 b10 "com/example/hermit_crab/hermitcrab/xml/BeanElements$Defaults" "lazyInit" "Z" (.int (0 : Int32)) := D10 (Or.inr (hw _ (List.mem_of_getElem? (i := 46) rfl))) (ty := .boolean) (by decide)
      have F10_autowireCandidates : Fld Z h10 b10 "com/example/hermit_crab/hermitcrab/xml/BeanElements$Defaults" "autowireCandidates" "Ljava/util/List;" .null := D10 (Or.inr (hw _ (List.mem_of_getElem? (i := 48) rfl))) (ty := (.object "java/util/List")) (by decide)
      have F10_autowire : Fld Z h10 b10 "com/example/hermit_crab/hermitcrab/xml/BeanElements$Defaults" "autowire" "Lcom/example/hermit_crab/hermitcrab/definition/BeanDefinition$Autowiring$Mode;" .null := D10 (Or.inr (hw _ (List.mem_of_getElem? (i := 50) rfl))) (ty := (.object "com/example/hermit_crab/hermitcrab/definition/BeanDefinition$Autowiring$Mode")) (by decide)
      show Go _ _ _ _ _ _ _ (T10.setTop (mkF m 54 #[.val (.int p1), .val (.int p2), .val (.int p3), .val (.int z), .val (.int (0 : Int32)), .val (.ref (own_pick (p2 &&& (3 : Int32)) wNO wBN wBT wCO)), .val (.ref b5), .unset, .unset, .unset] [(.ref b10)]))
      refine Go.of (fun t k => XS.dup X10.here hx rfl (hb hby at_54) rfl rfl k) ?_
      show Go _ _ _ _ _ _ _ (T10.setTop (mkF m 55 #[.val (.int p1), .val (.int p2), .val (.int p3), .val (.int z), .val (.int (0 : Int32)), .val (.ref (own_pick (p2 &&& (3 : Int32)) wNO wBN wBT wCO)), .val (.ref b5), .unset, .unset, .unset] [(.ref b10), (.ref b10)]))
      refine Go.of (fun t k => XS.iloadN X10.here hx rfl (hb hby at_55) rfl k) ?_
      show Go _ _ _ _ _ _ _ (T10.setTop (mkF m 56 #[.val (.int p1), .val (.int p2), .val (.int p3), .val (.int z), .val (.int (0 : Int32)), .val (.ref (own_pick (p2 &&& (3 : Int32)) wNO wBN wBT wCO)), .val (.ref b5), .unset, .unset, .unset] [(.int z), (.ref b10), (.ref b10)]))
      refine Go.of (fun t k => XS.aload X10.here hx rfl (hb hby at_56) rfl rfl k) ?_
      show Go _ _ _ _ _ _ _ (T10.setTop (mkF m 58 #[.val (.int p1), .val (.int p2), .val (.int p3), .val (.int z), .val (.int (0 : Int32)), .val (.ref (own_pick (p2 &&& (3 : Int32)) wNO wBN wBT wCO)), .val (.ref b5), .unset, .unset, .unset] [(.ref b5), (.int z), (.ref b10), (.ref b10)]))
      refine Go.of (fun t k => XS.aload X10.here hx rfl (hb hby at_58) rfl rfl k) ?_
      show Go _ _ _ _ _ _ _ (T10.setTop (mkF m 60 #[.val (.int p1), .val (.int p2), .val (.int p3), .val (.int z), .val (.int (0 : Int32)), .val (.ref (own_pick (p2 &&& (3 : Int32)) wNO wBN wBT wCO)), .val (.ref b5), .unset, .unset, .unset] [(.ref (own_pick (p2 &&& (3 : Int32)) wNO wBN wBT wCO)), (.ref b5), (.int z), (.ref b10), (.ref b10)]))
      obtain ⟨_, _, ⟨T12, L12, k12, n12⟩, -, X12, ⟨Lc12, hQ12, l12, y12, z12⟩, st12⟩ := X10.specialBack hx (y := (⟨"com/example/hermit_crab/hermitcrab/xml/BeanElements$Defaults", "<init>", "(ZLjava/util/List;Lcom/example/hermit_crab/hermitcrab/definition/BeanDefinition$Autowiring$Mode;)V"⟩ : MethodName)) rfl hown (mvT hZ (hw _ (List.mem_of_getElem? (i := 36) rfl))) (mvT hZ (hw _ (List.mem_of_getElem? (i := 37) rfl))) (mvT hZ (hw _ (List.mem_of_getElem? (i := 38) rfl))) (by decide) (backOf (W := 1) (rm6s l Z a0 hw [] b10 z b5 (own_pick (p2 &&& (3 : Int32)) wNO wBN wBT wCO) h10 n0 (by omega) A10 (by omega) hz F10_lazyInit F10_autowireCandidates F10_autowire) hZ (hw _ (List.mem_of_getElem? (i := 38) rfl)) (hw _ (List.mem_of_getElem? (i := 35) rfl)) (by decide) (by decide)) (g := (mkF m 60 #[.val (.int p1), .val (.int p2), .val (.int p3), .val (.int z), .val (.int (0 : Int32)), .val (.ref (own_pick (p2 &&& (3 : Int32)) wNO wBN wBT wCO)), .val (.ref b5), .unset, .unset, .unset] [(.ref (own_pick (p2 &&& (3 : Int32)) wNO wBN wBT wCO)), (.ref b5), (.int z), (.ref b10), (.ref b10)])) rfl (by rw [hml]; rfl) (Steps.refl _) (a := b10) (argsL := [(.int z), (.ref b5), (.ref (own_pick (p2 &&& (3 : Int32)) wNO wBN wBT wCO))]) (rest := [(.ref b10)]) (lenOf pd_1 rfl) rfl (by show 2 * 0 + _ ≤ _; exact Nat.le_of_eq rfl) (hb hby at_60) (fun _ _ => ⟨rfl, e10, (by decide : 2 + 0 ≤ _), (by decide : 6 + 0 ≤ _)⟩)
      dsimp only [Pt.U, Pt.locs, Pt.cells, Pt.slots] at X12 l12 y12 z12 st12 hQ12
      subst l12 y12 z12
      obtain ⟨rfl, N12q, K12, Ex12, Fa12, Fb12, Fc12⟩ := hQ12
      have N12 := Fr.app N8 N12q
      refine Go.tr st12 ?_
      have hs13 : h10.size ≤ T12.heap.size := K12.1
      show Go _ _ _ _ _ _ _ (T12.setTop (mkF m 63 #[.val (.int p1), .val (.int p2), .val (.int p3), .val (.int z), .val (.int (0 : Int32)), .val (.ref (own_pick (p2 &&& (3 : Int32)) wNO wBN wBT wCO)), .val (.ref b5), .unset, .unset, .unset] [(.ref b10)]))
      refine Go.of (fun t k => XS.astore X12.here hx rfl (hb hby at_63) rfl rfl (l' := #[.val (.int p1), .val (.int p2), .val (.int p3), .val (.int z), .val (.int (0 : Int32)), .val (.ref (own_pick (p2 &&& (3 : Int32)) wNO wBN wBT wCO)), .val (.ref b5), .val (.ref b10), .unset, .unset]) rfl k) ?_
      show Go _ _ _ _ _ _ _ (T12.setTop (mkF m 65 #[.val (.int p1), .val (.int p2), .val (.int p3), .val (.int z), .val (.int (0 : Int32)), .val (.ref (own_pick (p2 &&& (3 : Int32)) wNO wBN wBT wCO)), .val (.ref b5), .val (.ref b10), .unset, .unset] []))
      refine Go.of (fun t k => XS.aload X12.here hx rfl (hb hby at_65) rfl rfl k) ?_
      show Go _ _ _ _ _ _ _ (T12.setTop (mkF m 67 #[.val (.int p1), .val (.int p2), .val (.int p3), .val (.int z), .val (.int (0 : Int32)), .val (.ref (own_pick (p2 &&& (3 : Int32)) wNO wBN wBT wCO)), .val (.ref b5), .val (.ref b10), .unset, .unset] [(.ref b10)]))
      obtain ⟨cq14, kq14, q14a, q14b, q14c⟩ := isOf hZ rfl Ex12
      obtain ⟨_, _, ⟨T14, L14, k14, n14⟩, -, X14, ⟨Lc14, hQ14, l14, y14, z14⟩, st14⟩ := X12.virtualBack hx (y := (⟨"com/example/hermit_crab/hermitcrab/xml/BeanElements$Defaults", "forInnerBeans", "()Lcom/example/hermit_crab/hermitcrab/xml/BeanElements$Defaults;"⟩ : MethodName)) (z := (⟨"com/example/hermit_crab/hermitcrab/xml/BeanElements$Defaults", "forInnerBeans", "()Lcom/example/hermit_crab/hermitcrab/xml/BeanElements$Defaults;"⟩ : MethodName)) hown (mvT hZ (hw _ (List.mem_of_getElem? (i := 51) rfl))) (mvT hZ (hw _ (List.mem_of_getElem? (i := 52) rfl))) (notFace_of_selects (args := #[]) (mvT hZ (hw _ (List.mem_of_getElem? (i := 54) rfl)))) (mvT hZ (hw _ (List.mem_of_getElem? (i := 54) rfl))) (mvT hZ (hw _ (List.mem_of_getElem? (i := 53) rfl))) (by decide) (backOf (W := 0) (rm8 l Z a0 hw [] b10 (own_pick (p2 &&& (3 : Int32)) wNO wBN wBT wCO) T12.heap n0 (by omega) Fc12) hZ (hw _ (List.mem_of_getElem? (i := 55) rfl)) (hw _ (List.mem_of_getElem? (i := 35) rfl)) (by decide) (by decide)) q14a q14c (g := (mkF m 67 #[.val (.int p1), .val (.int p2), .val (.int p3), .val (.int z), .val (.int (0 : Int32)), .val (.ref (own_pick (p2 &&& (3 : Int32)) wNO wBN wBT wCO)), .val (.ref b5), .val (.ref b10), .unset, .unset] [(.ref b10)])) rfl (by rw [hml]; rfl) (Steps.refl _) (argsL := []) (rest := []) (lenOf pd_6 rfl) rfl (by show 2 * 0 + _ ≤ _; exact Nat.le_of_eq rfl) (hb hby at_67) (fun _ _ => ⟨rfl, rfl, (by decide : 2 + 1 ≤ _), (by decide : 6 + 3 ≤ _)⟩)
      dsimp only [Pt.U, Pt.locs, Pt.cells, Pt.slots] at X14 l14 y14 z14 st14 hQ14
      subst l14 y14 z14
      obtain ⟨b14, rfl, N14q, K14, hge14, hlt14, Ex14, Fa14, Fb14, Fc14⟩ := hQ14
      have N14 := Fr.app N12 N14q
      refine Go.tr st14 ?_
      have hs15 : T12.heap.size ≤ T14.heap.size := K14.1
      show Go _ _ _ _ _ _ _ (T14.setTop (mkF m 70 #[.val (.int p1), .val (.int p2), .val (.int p3), .val (.int z), .val (.int (0 : Int32)), .val (.ref (own_pick (p2 &&& (3 : Int32)) wNO wBN wBT wCO)), .val (.ref b5), .val (.ref b10), .unset, .unset] [(.ref b14)]))
      refine Go.of (fun t k => XS.astore X14.here hx rfl (hb hby at_70) rfl rfl (l' := #[.val (.int p1), .val (.int p2), .val (.int p3), .val (.int z), .val (.int (0 : Int32)), .val (.ref (own_pick (p2 &&& (3 : Int32)) wNO wBN wBT wCO)), .val (.ref b5), .val (.ref b10), .val (.ref b14), .unset]) rfl k) ?_
      show Go _ _ _ _ _ _ _ (T14.setTop (mkF m 72 #[.val (.int p1), .val (.int p2), .val (.int p3), .val (.int z), .val (.int (0 : Int32)), .val (.ref (own_pick (p2 &&& (3 : Int32)) wNO wBN wBT wCO)), .val (.ref b5), .val (.ref b10), .val (.ref b14), .unset] []))
      refine Go.of (fun t k => XS.iloadN X14.here hx rfl (hb hby at_72) rfl k) ?_
      show Go _ _ _ _ _ _ _ (T14.setTop (mkF m 73 #[.val (.int p1), .val (.int p2), .val (.int p3), .val (.int z), .val (.int (0 : Int32)), .val (.ref (own_pick (p2 &&& (3 : Int32)) wNO wBN wBT wCO)), .val (.ref b5), .val (.ref b10), .val (.ref b14), .unset] [(.int p3)]))
      refine Go.of (fun t k => XS.sipush X14.here hx rfl (hb hby at_73) k) ?_
      show Go _ _ _ _ _ _ _ (T14.setTop (mkF m 76 #[.val (.int p1), .val (.int p2), .val (.int p3), .val (.int z), .val (.int (0 : Int32)), .val (.ref (own_pick (p2 &&& (3 : Int32)) wNO wBN wBT wCO)), .val (.ref b5), .val (.ref b10), .val (.ref b14), .unset] [(.int (255 : Int32)), (.int p3)]))
      refine Go.of (fun t k => XS.iand X14.here hx rfl (hb hby at_76) rfl k) ?_
      show Go _ _ _ _ _ _ _ (T14.setTop (mkF m 77 #[.val (.int p1), .val (.int p2), .val (.int p3), .val (.int z), .val (.int (0 : Int32)), .val (.ref (own_pick (p2 &&& (3 : Int32)) wNO wBN wBT wCO)), .val (.ref b5), .val (.ref b10), .val (.ref b14), .unset] [(.int (p3 &&& (255 : Int32)))]))
      refine Go.of (fun t k => XS.i2c X14.here hx rfl (hb hby at_77) rfl k) ?_
      show Go _ _ _ _ _ _ _ (T14.setTop (mkF m 78 #[.val (.int p1), .val (.int p2), .val (.int p3), .val (.int z), .val (.int (0 : Int32)), .val (.ref (own_pick (p2 &&& (3 : Int32)) wNO wBN wBT wCO)), .val (.ref b5), .val (.ref b10), .val (.ref b14), .unset] [(.int ((p3 &&& (255 : Int32)).toUInt32.toUInt16.toUInt32.toInt32))]))
      have f16 := ((((f7.keep K8 (allS (by omega) all0)).ext E10).keep K12 (allS (by omega) all0)).keep K14 all0)
      obtain ⟨_, _, ⟨T17, L17, k17, n17⟩, -, X17, ⟨Lc17, hQ17, l17, y17, z17⟩, st17⟩ := Jvm.LawKit.callS X14 hx (y := (⟨"java/lang/String", "valueOf", "(C)Ljava/lang/String;"⟩ : MethodName)) hown (mvT hZ (hw _ (List.mem_of_getElem? (i := 58) rfl))) (mvT hZ (hw _ (List.mem_of_getElem? (i := 59) rfl))) (mvT hZ (hw _ (List.mem_of_getElem? (i := 60) rfl))) (mvT hZ (hw _ (List.mem_of_getElem? (i := 61) rfl))) (by decide) (backOf (W := 0) (rm9 l Z a0 hw [] ((p3 &&& (255 : Int32)).toUInt32.toUInt16.toUInt32.toInt32) cs T14.heap n0 (by omega) (S_cs.ext f16.2) hcs (own_char p3)) hZ (hw _ (List.mem_of_getElem? (i := 61) rfl)) (hw _ (List.mem_of_getElem? (i := 60) rfl)) (by decide) (by decide)) (g := (mkF m 78 #[.val (.int p1), .val (.int p2), .val (.int p3), .val (.int z), .val (.int (0 : Int32)), .val (.ref (own_pick (p2 &&& (3 : Int32)) wNO wBN wBT wCO)), .val (.ref b5), .val (.ref b10), .val (.ref b14), .unset] [(.int ((p3 &&& (255 : Int32)).toUInt32.toUInt16.toUInt32.toInt32))])) rfl (by rw [hml]; rfl) (argsL := [(.int ((p3 &&& (255 : Int32)).toUInt32.toUInt16.toUInt32.toInt32))]) (rest := []) (lenOf pd_7 rfl) rfl (by show 2 * 0 + _ ≤ _; exact Nat.le_of_eq rfl) (hb hby at_78) (fun _ _ => ⟨rfl, rfl, (by decide : 3 + 2 ≤ _), (by decide : 9 + 5 ≤ _)⟩)
      dsimp only [Pt.U, Pt.locs, Pt.cells, Pt.slots] at X17 l17 y17 z17 st17 hQ17
      subst l17 y17 z17
      obtain ⟨b17, rfl, N17q, K17, hge17, hlt17, Ex17⟩ := hQ17
      have N17 := Fr.app N14 N17q
      refine Go.of st17 ?_
      have hs18 : T14.heap.size ≤ T17.heap.size := K17.1
      show Go _ _ _ _ _ _ _ (T17.setTop (mkF m 81 #[.val (.int p1), .val (.int p2), .val (.int p3), .val (.int z), .val (.int (0 : Int32)), .val (.ref (own_pick (p2 &&& (3 : Int32)) wNO wBN wBT wCO)), .val (.ref b5), .val (.ref b10), .val (.ref b14), .unset] [(.ref b17)]))
      refine Go.of (fun t k => XS.astore X17.here hx rfl (hb hby at_81) rfl rfl (l' := #[.val (.int p1), .val (.int p2), .val (.int p3), .val (.int z), .val (.int (0 : Int32)), .val (.ref (own_pick (p2 &&& (3 : Int32)) wNO wBN wBT wCO)), .val (.ref b5), .val (.ref b10), .val (.ref b14), .val (.ref b17)]) rfl k) ?_
      show Go _ _ _ _ _ _ _ (T17.setTop (mkF m 83 #[.val (.int p1), .val (.int p2), .val (.int p3), .val (.int z), .val (.int (0 : Int32)), .val (.ref (own_pick (p2 &&& (3 : Int32)) wNO wBN wBT wCO)), .val (.ref b5), .val (.ref b10), .val (.ref b14), .val (.ref b17)] []))
      refine Go.of (fun t k => XS.aload X17.here hx rfl (hb hby at_83) rfl rfl k) ?_
      show Go _ _ _ _ _ _ _ (T17.setTop (mkF m 85 #[.val (.int p1), .val (.int p2), .val (.int p3), .val (.int z), .val (.int (0 : Int32)), .val (.ref (own_pick (p2 &&& (3 : Int32)) wNO wBN wBT wCO)), .val (.ref b5), .val (.ref b10), .val (.ref b14), .val (.ref b17)] [(.ref b14)]))
      have f19 := (Fa14.keep K17 nin0)
      have f21 := (Ex14.keep K17)
      obtain ⟨cq20, kq20, q20a, q20b, q20c⟩ := isOf hZ rfl f21
      obtain ⟨_, _, ⟨T20, L20, k20, n20⟩, -, X20, ⟨Lc20, hQ20, l20, y20, z20⟩, st20⟩ := X17.virtualBack hx (y := (⟨"com/example/hermit_crab/hermitcrab/xml/BeanElements$Defaults", "lazyInit", "()Z"⟩ : MethodName)) (z := (⟨"com/example/hermit_crab/hermitcrab/xml/BeanElements$Defaults", "lazyInit", "()Z"⟩ : MethodName)) hown (mvT hZ (hw _ (List.mem_of_getElem? (i := 82) rfl))) (mvT hZ (hw _ (List.mem_of_getElem? (i := 83) rfl))) (notFace_of_selects (args := #[]) (mvT hZ (hw _ (List.mem_of_getElem? (i := 85) rfl)))) (mvT hZ (hw _ (List.mem_of_getElem? (i := 85) rfl))) (mvT hZ (hw _ (List.mem_of_getElem? (i := 84) rfl))) (by decide) (backOf (W := 0) (rmlz l Z a0 hw [] b14 (0 : Int32) T17.heap n0 (by omega) f19 (Or.inl rfl)) hZ (hw _ (List.mem_of_getElem? (i := 86) rfl)) (hw _ (List.mem_of_getElem? (i := 35) rfl)) (by decide) (by decide)) q20a q20c (g := (mkF m 85 #[.val (.int p1), .val (.int p2), .val (.int p3), .val (.int z), .val (.int (0 : Int32)), .val (.ref (own_pick (p2 &&& (3 : Int32)) wNO wBN wBT wCO)), .val (.ref b5), .val (.ref b10), .val (.ref b14), .val (.ref b17)] [(.ref b14)])) rfl (by rw [hml]; rfl) (Steps.refl _) (argsL := []) (rest := []) (lenOf pd_8 rfl) rfl (by show 2 * 0 + _ ≤ _; exact Nat.le_of_eq rfl) (hb hby at_85) (fun _ _ => ⟨rfl, rfl, (by decide : 5 + 0 ≤ _), (by decide : 14 + 0 ≤ _)⟩)
      dsimp only [Pt.U, Pt.locs, Pt.cells, Pt.slots] at X20 l20 y20 z20 st20 hQ20
      subst l20 y20 z20
      obtain ⟨rfl, N20q, e20⟩ := hQ20
      have N20 := Fr.app N17 N20q
      refine Go.tr st20 ?_
      show Go _ _ _ _ _ _ _ (T20.setTop (mkF m 88 #[.val (.int p1), .val (.int p2), .val (.int p3), .val (.int z), .val (.int (0 : Int32)), .val (.ref (own_pick (p2 &&& (3 : Int32)) wNO wBN wBT wCO)), .val (.ref b5), .val (.ref b10), .val (.ref b14), .val (.ref b17)] [(.int (0 : Int32))]))
      refine Go.of (fun t k => XS.ifNo X20.here hx rfl (hb hby at_88) rfl ((if0 _ _).trans (teq (by decide : (0 : Int32) = (0 : Int32))).2) k) ?_
      show Go _ _ _ _ _ _ _ (T20.setTop (mkF m 91 #[.val (.int p1), .val (.int p2), .val (.int p3), .val (.int z), .val (.int (0 : Int32)), .val (.ref (own_pick (p2 &&& (3 : Int32)) wNO wBN wBT wCO)), .val (.ref b5), .val (.ref b10), .val (.ref b14), .val (.ref b17)] []))
      refine Go.of (fun t k => XS.aload X20.here hx rfl (hb hby at_91) rfl rfl k) ?_
      show Go _ _ _ _ _ _ _ (T20.setTop (mkF m 93 #[.val (.int p1), .val (.int p2), .val (.int p3), .val (.int z), .val (.int (0 : Int32)), .val (.ref (own_pick (p2 &&& (3 : Int32)) wNO wBN wBT wCO)), .val (.ref b5), .val (.ref b10), .val (.ref b14), .val (.ref b17)] [(.ref b14)]))
      have f22 := (Fb14.keep K17 nin0)
      obtain ⟨cq23, kq23, q23a, q23b, q23c⟩ := isOf hZ e20 f21
      obtain ⟨_, _, ⟨T23, L23, k23, n23⟩, -, X23, ⟨Lc23, hQ23, l23, y23, z23⟩, st23⟩ := X20.virtualBack hx (y := (⟨"com/example/hermit_crab/hermitcrab/xml/BeanElements$Defaults", "autowireCandidates", "()Ljava/util/List;"⟩ : MethodName)) (z := (⟨"com/example/hermit_crab/hermitcrab/xml/BeanElements$Defaults", "autowireCandidates", "()Ljava/util/List;"⟩ : MethodName)) hown (mvT hZ (hw _ (List.mem_of_getElem? (i := 87) rfl))) (mvT hZ (hw _ (List.mem_of_getElem? (i := 88) rfl))) (notFace_of_selects (args := #[]) (mvT hZ (hw _ (List.mem_of_getElem? (i := 90) rfl)))) (mvT hZ (hw _ (List.mem_of_getElem? (i := 90) rfl))) (mvT hZ (hw _ (List.mem_of_getElem? (i := 89) rfl))) (by decide) (backOf (W := 0) (rmcn l Z a0 hw [] b14 T17.heap n0 (by omega) f22) hZ (hw _ (List.mem_of_getElem? (i := 91) rfl)) (hw _ (List.mem_of_getElem? (i := 35) rfl)) (by decide) (by decide)) q23a q23c (g := (mkF m 93 #[.val (.int p1), .val (.int p2), .val (.int p3), .val (.int z), .val (.int (0 : Int32)), .val (.ref (own_pick (p2 &&& (3 : Int32)) wNO wBN wBT wCO)), .val (.ref b5), .val (.ref b10), .val (.ref b14), .val (.ref b17)] [(.ref b14)])) rfl (by rw [hml]; rfl) (Steps.refl _) (argsL := []) (rest := []) (lenOf pd_9 rfl) rfl (by show 2 * 0 + _ ≤ _; exact Nat.le_of_eq rfl) (hb hby at_93) (fun _ _ => ⟨rfl, e20, (by decide : 5 + 0 ≤ _), (by decide : 14 + 0 ≤ _)⟩)
      dsimp only [Pt.U, Pt.locs, Pt.cells, Pt.slots] at X23 l23 y23 z23 st23 hQ23
      subst l23 y23 z23
      obtain ⟨rfl, N23q, e23⟩ := hQ23
      have N23 := Fr.app N20 N23q
      refine Go.tr st23 ?_
      show Go _ _ _ _ _ _ _ (T23.setTop (mkF m 96 #[.val (.int p1), .val (.int p2), .val (.int p3), .val (.int z), .val (.int (0 : Int32)), .val (.ref (own_pick (p2 &&& (3 : Int32)) wNO wBN wBT wCO)), .val (.ref b5), .val (.ref b10), .val (.ref b14), .val (.ref b17)] [.null]))
      refine Go.of (fun t k => XS.ifnonnullNo X23.here hx rfl (hb hby at_96) rfl k) ?_
      show Go _ _ _ _ _ _ _ (T23.setTop (mkF m 99 #[.val (.int p1), .val (.int p2), .val (.int p3), .val (.int z), .val (.int (0 : Int32)), .val (.ref (own_pick (p2 &&& (3 : Int32)) wNO wBN wBT wCO)), .val (.ref b5), .val (.ref b10), .val (.ref b14), .val (.ref b17)] []))
      refine Go.of (fun t k => XS.aload X23.here hx rfl (hb hby at_99) rfl rfl k) ?_
      show Go _ _ _ _ _ _ _ (T23.setTop (mkF m 101 #[.val (.int p1), .val (.int p2), .val (.int p3), .val (.int z), .val (.int (0 : Int32)), .val (.ref (own_pick (p2 &&& (3 : Int32)) wNO wBN wBT wCO)), .val (.ref b5), .val (.ref b10), .val (.ref b14), .val (.ref b17)] [(.ref b14)]))
      have f24 := (Fc14.keep K17 nin0)
      obtain ⟨cq25, kq25, q25a, q25b, q25c⟩ := isOf hZ e23 f21
      obtain ⟨_, _, ⟨T25, L25, k25, n25⟩, -, X25, ⟨Lc25, hQ25, l25, y25, z25⟩, st25⟩ := X23.virtualBack hx (y := (⟨"com/example/hermit_crab/hermitcrab/xml/BeanElements$Defaults", "autowire", "()Lcom/example/hermit_crab/hermitcrab/definition/BeanDefinition$Autowiring$Mode;"⟩ : MethodName)) (z := (⟨"com/example/hermit_crab/hermitcrab/xml/BeanElements$Defaults", "autowire", "()Lcom/example/hermit_crab/hermitcrab/definition/BeanDefinition$Autowiring$Mode;"⟩ : MethodName)) hown (mvT hZ (hw _ (List.mem_of_getElem? (i := 92) rfl))) (mvT hZ (hw _ (List.mem_of_getElem? (i := 93) rfl))) (notFace_of_selects (args := #[]) (mvT hZ (hw _ (List.mem_of_getElem? (i := 95) rfl)))) (mvT hZ (hw _ (List.mem_of_getElem? (i := 95) rfl))) (mvT hZ (hw _ (List.mem_of_getElem? (i := 94) rfl))) (by decide) (backOf (W := 0) (rmau l Z a0 hw [] b14 (own_pick (p2 &&& (3 : Int32)) wNO wBN wBT wCO) T17.heap n0 (by omega) f24) hZ (hw _ (List.mem_of_getElem? (i := 96) rfl)) (hw _ (List.mem_of_getElem? (i := 35) rfl)) (by decide) (by decide)) q25a q25c (g := (mkF m 101 #[.val (.int p1), .val (.int p2), .val (.int p3), .val (.int z), .val (.int (0 : Int32)), .val (.ref (own_pick (p2 &&& (3 : Int32)) wNO wBN wBT wCO)), .val (.ref b5), .val (.ref b10), .val (.ref b14), .val (.ref b17)] [(.ref b14)])) rfl (by rw [hml]; rfl) (Steps.refl _) (argsL := []) (rest := []) (lenOf pd_10 rfl) rfl (by show 2 * 0 + _ ≤ _; exact Nat.le_of_eq rfl) (hb hby at_101) (fun _ _ => ⟨rfl, e23, (by decide : 5 + 0 ≤ _), (by decide : 14 + 0 ≤ _)⟩)
      dsimp only [Pt.U, Pt.locs, Pt.cells, Pt.slots] at X25 l25 y25 z25 st25 hQ25
      subst l25 y25 z25
      obtain ⟨rfl, N25q, e25⟩ := hQ25
      have N25 := Fr.app N23 N25q
      refine Go.tr st25 ?_
      show Go _ _ _ _ _ _ _ (T25.setTop (mkF m 104 #[.val (.int p1), .val (.int p2), .val (.int p3), .val (.int z), .val (.int (0 : Int32)), .val (.ref (own_pick (p2 &&& (3 : Int32)) wNO wBN wBT wCO)), .val (.ref b5), .val (.ref b10), .val (.ref b14), .val (.ref b17)] [(.ref (own_pick (p2 &&& (3 : Int32)) wNO wBN wBT wCO))]))
      refine Go.of (fun t k => XS.aload X25.here hx rfl (hb hby at_104) rfl rfl k) ?_
      show Go _ _ _ _ _ _ _ (T25.setTop (mkF m 106 #[.val (.int p1), .val (.int p2), .val (.int p3), .val (.int z), .val (.int (0 : Int32)), .val (.ref (own_pick (p2 &&& (3 : Int32)) wNO wBN wBT wCO)), .val (.ref b5), .val (.ref b10), .val (.ref b14), .val (.ref b17)] [(.ref (own_pick (p2 &&& (3 : Int32)) wNO wBN wBT wCO)), (.ref (own_pick (p2 &&& (3 : Int32)) wNO wBN wBT wCO))]))
      refine Go.of (fun t k => Jvm.RoadKit.acmp (g := (mkF m 106 #[.val (.int p1), .val (.int p2), .val (.int p3), .val (.int z), .val (.int (0 : Int32)), .val (.ref (own_pick (p2 &&& (3 : Int32)) wNO wBN wBT wCO)), .val (.ref b5), .val (.ref b10), .val (.ref b14), .val (.ref b17)] [(.ref (own_pick (p2 &&& (3 : Int32)) wNO wBN wBT wCO)), (.ref (own_pick (p2 &&& (3 : Int32)) wNO wBN wBT wCO))])) X25 hx rfl rfl rfl (pc0 := 106) (pc' := 109) (same := true) rfl (hb hby at_106) rfl (decide_eq_true rfl) (by decide) (by decide) k) ?_
      show Go _ _ _ _ _ _ _ (T25.setTop (mkF m 109 #[.val (.int p1), .val (.int p2), .val (.int p3), .val (.int z), .val (.int (0 : Int32)), .val (.ref (own_pick (p2 &&& (3 : Int32)) wNO wBN wBT wCO)), .val (.ref b5), .val (.ref b10), .val (.ref b14), .val (.ref b17)] []))
      refine Go.of (fun t k => XS.aload X25.here hx rfl (hb hby at_109) rfl rfl k) ?_
      show Go _ _ _ _ _ _ _ (T25.setTop (mkF m 111 #[.val (.int p1), .val (.int p2), .val (.int p3), .val (.int z), .val (.int (0 : Int32)), .val (.ref (own_pick (p2 &&& (3 : Int32)) wNO wBN wBT wCO)), .val (.ref b5), .val (.ref b10), .val (.ref b14), .val (.ref b17)] [(.ref b14)]))
      refine Go.of (fun t k => XS.aload X25.here hx rfl (hb hby at_111) rfl rfl k) ?_
      show Go _ _ _ _ _ _ _ (T25.setTop (mkF m 113 #[.val (.int p1), .val (.int p2), .val (.int p3), .val (.int z), .val (.int (0 : Int32)), .val (.ref (own_pick (p2 &&& (3 : Int32)) wNO wBN wBT wCO)), .val (.ref b5), .val (.ref b10), .val (.ref b14), .val (.ref b17)] [(.ref b17), (.ref b14)]))
      obtain ⟨cq26, kq26, q26a, q26b, q26c⟩ := isOf hZ e25 f21
      obtain ⟨_, _, ⟨T26, L26, k26, n26⟩, -, X26, ⟨Lc26, hQ26, l26, y26, z26⟩, st26⟩ := X25.virtualBack hx (y := (⟨"com/example/hermit_crab/hermitcrab/xml/BeanElements$Defaults", "isAutowireCandidate", "(Ljava/lang/String;)Z"⟩ : MethodName)) (z := (⟨"com/example/hermit_crab/hermitcrab/xml/BeanElements$Defaults", "isAutowireCandidate", "(Ljava/lang/String;)Z"⟩ : MethodName)) hown (mvT hZ (hw _ (List.mem_of_getElem? (i := 97) rfl))) (mvT hZ (hw _ (List.mem_of_getElem? (i := 98) rfl))) (notFace_of_selects (args := #[]) (mvT hZ (hw _ (List.mem_of_getElem? (i := 100) rfl)))) (mvT hZ (hw _ (List.mem_of_getElem? (i := 100) rfl))) (mvT hZ (hw _ (List.mem_of_getElem? (i := 99) rfl))) (by decide) (backOf (W := 0) (rm16 l Z a0 hw [] b14 b17 T17.heap n0 (by omega) f22) hZ (hw _ (List.mem_of_getElem? (i := 101) rfl)) (hw _ (List.mem_of_getElem? (i := 35) rfl)) (by decide) (by decide)) q26a q26c (g := (mkF m 113 #[.val (.int p1), .val (.int p2), .val (.int p3), .val (.int z), .val (.int (0 : Int32)), .val (.ref (own_pick (p2 &&& (3 : Int32)) wNO wBN wBT wCO)), .val (.ref b5), .val (.ref b10), .val (.ref b14), .val (.ref b17)] [(.ref b17), (.ref b14)])) rfl (by rw [hml]; rfl) (Steps.refl _) (argsL := [(.ref b17)]) (rest := []) (lenOf pd_11 rfl) rfl (by show 2 * 0 + _ ≤ _; exact Nat.le_of_eq rfl) (hb hby at_113) (fun _ _ => ⟨rfl, e25, (by decide : 5 + 0 ≤ _), (by decide : 14 + 0 ≤ _)⟩)
      dsimp only [Pt.U, Pt.locs, Pt.cells, Pt.slots] at X26 l26 y26 z26 st26 hQ26
      subst l26 y26 z26
      obtain ⟨rfl, N26q, e26⟩ := hQ26
      have N26 := Fr.app N25 N26q
      refine Go.tr st26 ?_
      show Go _ _ _ _ _ _ _ (T26.setTop (mkF m 116 #[.val (.int p1), .val (.int p2), .val (.int p3), .val (.int z), .val (.int (0 : Int32)), .val (.ref (own_pick (p2 &&& (3 : Int32)) wNO wBN wBT wCO)), .val (.ref b5), .val (.ref b10), .val (.ref b14), .val (.ref b17)] [(.int (1 : Int32))]))
      refine Go.of (fun t k => XS.ifNo X26.here hx rfl (hb hby at_116) rfl ((if0 _ _).trans (feq (by decide : ¬ ((1 : Int32) = (0 : Int32)))).1) k) ?_
      show Go _ _ _ _ _ _ _ (T26.setTop (mkF m 119 #[.val (.int p1), .val (.int p2), .val (.int p3), .val (.int z), .val (.int (0 : Int32)), .val (.ref (own_pick (p2 &&& (3 : Int32)) wNO wBN wBT wCO)), .val (.ref b5), .val (.ref b10), .val (.ref b14), .val (.ref b17)] []))
      refine Go.of (fun t k => XS.aload X26.here hx rfl (hb hby at_119) rfl rfl k) ?_
      show Go _ _ _ _ _ _ _ (T26.setTop (mkF m 121 #[.val (.int p1), .val (.int p2), .val (.int p3), .val (.int z), .val (.int (0 : Int32)), .val (.ref (own_pick (p2 &&& (3 : Int32)) wNO wBN wBT wCO)), .val (.ref b5), .val (.ref b10), .val (.ref b14), .val (.ref b17)] [(.ref b10)]))
      have f27 := ((Fa12.keep K14 nin0).keep K17 nin0)
      have f29 := ((Ex12.keep K14).keep K17)
      obtain ⟨cq28, kq28, q28a, q28b, q28c⟩ := isOf hZ e26 f29
      obtain ⟨_, _, ⟨T28, L28, k28, n28⟩, -, X28, ⟨Lc28, hQ28, l28, y28, z28⟩, st28⟩ := X26.virtualBack hx (y := (⟨"com/example/hermit_crab/hermitcrab/xml/BeanElements$Defaults", "lazyInit", "()Z"⟩ : MethodName)) (z := (⟨"com/example/hermit_crab/hermitcrab/xml/BeanElements$Defaults", "lazyInit", "()Z"⟩ : MethodName)) hown (mvT hZ (hw _ (List.mem_of_getElem? (i := 82) rfl))) (mvT hZ (hw _ (List.mem_of_getElem? (i := 83) rfl))) (notFace_of_selects (args := #[]) (mvT hZ (hw _ (List.mem_of_getElem? (i := 85) rfl)))) (mvT hZ (hw _ (List.mem_of_getElem? (i := 85) rfl))) (mvT hZ (hw _ (List.mem_of_getElem? (i := 84) rfl))) (by decide) (backOf (W := 0) (rmlz l Z a0 hw [] b10 z T17.heap n0 (by omega) f27 hz) hZ (hw _ (List.mem_of_getElem? (i := 86) rfl)) (hw _ (List.mem_of_getElem? (i := 35) rfl)) (by decide) (by decide)) q28a q28c (g := (mkF m 121 #[.val (.int p1), .val (.int p2), .val (.int p3), .val (.int z), .val (.int (0 : Int32)), .val (.ref (own_pick (p2 &&& (3 : Int32)) wNO wBN wBT wCO)), .val (.ref b5), .val (.ref b10), .val (.ref b14), .val (.ref b17)] [(.ref b10)])) rfl (by rw [hml]; rfl) (Steps.refl _) (argsL := []) (rest := []) (lenOf pd_8 rfl) rfl (by show 2 * 0 + _ ≤ _; exact Nat.le_of_eq rfl) (hb hby at_121) (fun _ _ => ⟨rfl, e26, (by decide : 5 + 0 ≤ _), (by decide : 14 + 0 ≤ _)⟩)
      dsimp only [Pt.U, Pt.locs, Pt.cells, Pt.slots] at X28 l28 y28 z28 st28 hQ28
      subst l28 y28 z28
      obtain ⟨rfl, N28q, e28⟩ := hQ28
      have N28 := Fr.app N26 N28q
      refine Go.tr st28 ?_
      show Go _ _ _ _ _ _ _ (T28.setTop (mkF m 124 #[.val (.int p1), .val (.int p2), .val (.int p3), .val (.int z), .val (.int (0 : Int32)), .val (.ref (own_pick (p2 &&& (3 : Int32)) wNO wBN wBT wCO)), .val (.ref b5), .val (.ref b10), .val (.ref b14), .val (.ref b17)] [(.int z)]))
      refine Go.of (fun t k => XS.iloadN X28.here hx rfl (hb hby at_124) rfl k) ?_
      show Go _ _ _ _ _ _ _ (T28.setTop (mkF m 125 #[.val (.int p1), .val (.int p2), .val (.int p3), .val (.int z), .val (.int (0 : Int32)), .val (.ref (own_pick (p2 &&& (3 : Int32)) wNO wBN wBT wCO)), .val (.ref b5), .val (.ref b10), .val (.ref b14), .val (.ref b17)] [(.int z), (.int z)]))
      refine Go.of (fun t k => XS.icmpNo X28.here hx rfl (hb hby at_125) rfl (teq (rfl : z = z)).2 k) ?_
      show Go _ _ _ _ _ _ _ (T28.setTop (mkF m 128 #[.val (.int p1), .val (.int p2), .val (.int p3), .val (.int z), .val (.int (0 : Int32)), .val (.ref (own_pick (p2 &&& (3 : Int32)) wNO wBN wBT wCO)), .val (.ref b5), .val (.ref b10), .val (.ref b14), .val (.ref b17)] []))
      refine Go.of (fun t k => XS.aload X28.here hx rfl (hb hby at_128) rfl rfl k) ?_
      show Go _ _ _ _ _ _ _ (T28.setTop (mkF m 130 #[.val (.int p1), .val (.int p2), .val (.int p3), .val (.int z), .val (.int (0 : Int32)), .val (.ref (own_pick (p2 &&& (3 : Int32)) wNO wBN wBT wCO)), .val (.ref b5), .val (.ref b10), .val (.ref b14), .val (.ref b17)] [(.ref b10)]))
      have f30 := ((Fb12.keep K14 nin0).keep K17 nin0)
      obtain ⟨cq31, kq31, q31a, q31b, q31c⟩ := isOf hZ e28 f29
      obtain ⟨_, _, ⟨T31, L31, k31, n31⟩, -, X31, ⟨Lc31, hQ31, l31, y31, z31⟩, st31⟩ := X28.virtualBack hx (y := (⟨"com/example/hermit_crab/hermitcrab/xml/BeanElements$Defaults", "autowireCandidates", "()Ljava/util/List;"⟩ : MethodName)) (z := (⟨"com/example/hermit_crab/hermitcrab/xml/BeanElements$Defaults", "autowireCandidates", "()Ljava/util/List;"⟩ : MethodName)) hown (mvT hZ (hw _ (List.mem_of_getElem? (i := 87) rfl))) (mvT hZ (hw _ (List.mem_of_getElem? (i := 88) rfl))) (notFace_of_selects (args := #[]) (mvT hZ (hw _ (List.mem_of_getElem? (i := 90) rfl)))) (mvT hZ (hw _ (List.mem_of_getElem? (i := 90) rfl))) (mvT hZ (hw _ (List.mem_of_getElem? (i := 89) rfl))) (by decide) (backOf (W := 0) (rmcs l Z a0 hw [] b10 b5 T17.heap n0 (by omega) f30) hZ (hw _ (List.mem_of_getElem? (i := 91) rfl)) (hw _ (List.mem_of_getElem? (i := 35) rfl)) (by decide) (by decide)) q31a q31c (g := (mkF m 130 #[.val (.int p1), .val (.int p2), .val (.int p3), .val (.int z), .val (.int (0 : Int32)), .val (.ref (own_pick (p2 &&& (3 : Int32)) wNO wBN wBT wCO)), .val (.ref b5), .val (.ref b10), .val (.ref b14), .val (.ref b17)] [(.ref b10)])) rfl (by rw [hml]; rfl) (Steps.refl _) (argsL := []) (rest := []) (lenOf pd_9 rfl) rfl (by show 2 * 0 + _ ≤ _; exact Nat.le_of_eq rfl) (hb hby at_130) (fun _ _ => ⟨rfl, e28, (by decide : 5 + 0 ≤ _), (by decide : 14 + 0 ≤ _)⟩)
      dsimp only [Pt.U, Pt.locs, Pt.cells, Pt.slots] at X31 l31 y31 z31 st31 hQ31
      subst l31 y31 z31
      obtain ⟨rfl, N31q, e31⟩ := hQ31
      have N31 := Fr.app N28 N31q
      refine Go.tr st31 ?_
      show Go _ _ _ _ _ _ _ (T31.setTop (mkF m 133 #[.val (.int p1), .val (.int p2), .val (.int p3), .val (.int z), .val (.int (0 : Int32)), .val (.ref (own_pick (p2 &&& (3 : Int32)) wNO wBN wBT wCO)), .val (.ref b5), .val (.ref b10), .val (.ref b14), .val (.ref b17)] [(.ref b5)]))
      refine Go.of (fun t k => XS.aload X31.here hx rfl (hb hby at_133) rfl rfl k) ?_
      show Go _ _ _ _ _ _ _ (T31.setTop (mkF m 135 #[.val (.int p1), .val (.int p2), .val (.int p3), .val (.int z), .val (.int (0 : Int32)), .val (.ref (own_pick (p2 &&& (3 : Int32)) wNO wBN wBT wCO)), .val (.ref b5), .val (.ref b10), .val (.ref b14), .val (.ref b17)] [(.ref b5), (.ref b5)]))
      refine Go.of (fun t k => Jvm.RoadKit.acmp (g := (mkF m 135 #[.val (.int p1), .val (.int p2), .val (.int p3), .val (.int z), .val (.int (0 : Int32)), .val (.ref (own_pick (p2 &&& (3 : Int32)) wNO wBN wBT wCO)), .val (.ref b5), .val (.ref b10), .val (.ref b14), .val (.ref b17)] [(.ref b5), (.ref b5)])) X31 hx rfl rfl rfl (pc0 := 135) (pc' := 138) (same := true) rfl (hb hby at_135) rfl (decide_eq_true rfl) (by decide) (by decide) k) ?_
      show Go _ _ _ _ _ _ _ (T31.setTop (mkF m 138 #[.val (.int p1), .val (.int p2), .val (.int p3), .val (.int z), .val (.int (0 : Int32)), .val (.ref (own_pick (p2 &&& (3 : Int32)) wNO wBN wBT wCO)), .val (.ref b5), .val (.ref b10), .val (.ref b14), .val (.ref b17)] []))
      refine Go.of (fun t k => XS.aload X31.here hx rfl (hb hby at_138) rfl rfl k) ?_
      show Go _ _ _ _ _ _ _ (T31.setTop (mkF m 140 #[.val (.int p1), .val (.int p2), .val (.int p3), .val (.int z), .val (.int (0 : Int32)), .val (.ref (own_pick (p2 &&& (3 : Int32)) wNO wBN wBT wCO)), .val (.ref b5), .val (.ref b10), .val (.ref b14), .val (.ref b17)] [(.ref b10)]))
      have f32 := ((Fc12.keep K14 nin0).keep K17 nin0)
      obtain ⟨cq33, kq33, q33a, q33b, q33c⟩ := isOf hZ e31 f29
      obtain ⟨_, _, ⟨T33, L33, k33, n33⟩, -, X33, ⟨Lc33, hQ33, l33, y33, z33⟩, st33⟩ := X31.virtualBack hx (y := (⟨"com/example/hermit_crab/hermitcrab/xml/BeanElements$Defaults", "autowire", "()Lcom/example/hermit_crab/hermitcrab/definition/BeanDefinition$Autowiring$Mode;"⟩ : MethodName)) (z := (⟨"com/example/hermit_crab/hermitcrab/xml/BeanElements$Defaults", "autowire", "()Lcom/example/hermit_crab/hermitcrab/definition/BeanDefinition$Autowiring$Mode;"⟩ : MethodName)) hown (mvT hZ (hw _ (List.mem_of_getElem? (i := 92) rfl))) (mvT hZ (hw _ (List.mem_of_getElem? (i := 93) rfl))) (notFace_of_selects (args := #[]) (mvT hZ (hw _ (List.mem_of_getElem? (i := 95) rfl)))) (mvT hZ (hw _ (List.mem_of_getElem? (i := 95) rfl))) (mvT hZ (hw _ (List.mem_of_getElem? (i := 94) rfl))) (by decide) (backOf (W := 0) (rmau l Z a0 hw [] b10 (own_pick (p2 &&& (3 : Int32)) wNO wBN wBT wCO) T17.heap n0 (by omega) f32) hZ (hw _ (List.mem_of_getElem? (i := 96) rfl)) (hw _ (List.mem_of_getElem? (i := 35) rfl)) (by decide) (by decide)) q33a q33c (g := (mkF m 140 #[.val (.int p1), .val (.int p2), .val (.int p3), .val (.int z), .val (.int (0 : Int32)), .val (.ref (own_pick (p2 &&& (3 : Int32)) wNO wBN wBT wCO)), .val (.ref b5), .val (.ref b10), .val (.ref b14), .val (.ref b17)] [(.ref b10)])) rfl (by rw [hml]; rfl) (Steps.refl _) (argsL := []) (rest := []) (lenOf pd_10 rfl) rfl (by show 2 * 0 + _ ≤ _; exact Nat.le_of_eq rfl) (hb hby at_140) (fun _ _ => ⟨rfl, e31, (by decide : 5 + 0 ≤ _), (by decide : 14 + 0 ≤ _)⟩)
      dsimp only [Pt.U, Pt.locs, Pt.cells, Pt.slots] at X33 l33 y33 z33 st33 hQ33
      subst l33 y33 z33
      obtain ⟨rfl, N33q, e33⟩ := hQ33
      have N33 := Fr.app N31 N33q
      refine Go.tr st33 ?_
      show Go _ _ _ _ _ _ _ (T33.setTop (mkF m 143 #[.val (.int p1), .val (.int p2), .val (.int p3), .val (.int z), .val (.int (0 : Int32)), .val (.ref (own_pick (p2 &&& (3 : Int32)) wNO wBN wBT wCO)), .val (.ref b5), .val (.ref b10), .val (.ref b14), .val (.ref b17)] [(.ref (own_pick (p2 &&& (3 : Int32)) wNO wBN wBT wCO))]))
      refine Go.of (fun t k => XS.aload X33.here hx rfl (hb hby at_143) rfl rfl k) ?_
      show Go _ _ _ _ _ _ _ (T33.setTop (mkF m 145 #[.val (.int p1), .val (.int p2), .val (.int p3), .val (.int z), .val (.int (0 : Int32)), .val (.ref (own_pick (p2 &&& (3 : Int32)) wNO wBN wBT wCO)), .val (.ref b5), .val (.ref b10), .val (.ref b14), .val (.ref b17)] [(.ref (own_pick (p2 &&& (3 : Int32)) wNO wBN wBT wCO)), (.ref (own_pick (p2 &&& (3 : Int32)) wNO wBN wBT wCO))]))
      refine Go.of (fun t k => Jvm.RoadKit.acmp (g := (mkF m 145 #[.val (.int p1), .val (.int p2), .val (.int p3), .val (.int z), .val (.int (0 : Int32)), .val (.ref (own_pick (p2 &&& (3 : Int32)) wNO wBN wBT wCO)), .val (.ref b5), .val (.ref b10), .val (.ref b14), .val (.ref b17)] [(.ref (own_pick (p2 &&& (3 : Int32)) wNO wBN wBT wCO)), (.ref (own_pick (p2 &&& (3 : Int32)) wNO wBN wBT wCO))])) X33 hx rfl rfl rfl (pc0 := 145) (pc' := 148) (same := true) rfl (hb hby at_145) rfl (decide_eq_true rfl) (by decide) (by decide) k) ?_
      show Go _ _ _ _ _ _ _ (T33.setTop (mkF m 148 #[.val (.int p1), .val (.int p2), .val (.int p3), .val (.int z), .val (.int (0 : Int32)), .val (.ref (own_pick (p2 &&& (3 : Int32)) wNO wBN wBT wCO)), .val (.ref b5), .val (.ref b10), .val (.ref b14), .val (.ref b17)] []))
      refine Go.of (fun t k => XS.iconst X33.here hx rfl (hb hby at_148) k) ?_
      show Go _ _ _ _ _ _ _ (T33.setTop (mkF m 149 #[.val (.int p1), .val (.int p2), .val (.int p3), .val (.int z), .val (.int (0 : Int32)), .val (.ref (own_pick (p2 &&& (3 : Int32)) wNO wBN wBT wCO)), .val (.ref b5), .val (.ref b10), .val (.ref b14), .val (.ref b17)] [(.int (1 : Int32))]))
      refine Go.of (fun t k => XS.goto X33.here hx rfl (pc0 := 149) (pc' := 153) rfl (hb hby at_149) (by decide) (by decide) k) ?_
      show Go _ _ _ _ _ _ _ (T33.setTop (mkF m 153 #[.val (.int p1), .val (.int p2), .val (.int p3), .val (.int z), .val (.int (0 : Int32)), .val (.ref (own_pick (p2 &&& (3 : Int32)) wNO wBN wBT wCO)), .val (.ref b5), .val (.ref b10), .val (.ref b14), .val (.ref b17)] [(.int (1 : Int32))]))
      refine Go.out X33 (v := some (.int (1 : Int32))) (fun h => by rw [Bd.returns] at h; cases h) hlk (fun fs hr => retN X33 hx (t := .boolean) Bd.returns (by simp) (hb hby at_153) hr) ?_ (by decide) (by decide)
      show Q0 Z p1 p2 p3 wNO wBN wBT wCO wD cs h0 n0 _ T33.heap _
      rw [e33]
      exact ⟨rfl, N33⟩
    · skip
      refine Go.of (fun t k => XS.ifNo X0.here hx rfl (hb hby at_15) rfl ((if0 _ _).trans (feq hc15_3).1) k) ?_
      show Go _ _ _ _ _ _ _ (s₁.setTop (mkF m 18 #[.val (.int p1), .val (.int p2), .val (.int p3), .val (.int z), .unset, .unset, .unset, .unset, .unset, .unset] []))
      refine Go.of (fun t k => XS.iconst X0.here hx rfl (hb hby at_18) k) ?_
      show Go _ _ _ _ _ _ _ (s₁.setTop (mkF m 19 #[.val (.int p1), .val (.int p2), .val (.int p3), .val (.int z), .unset, .unset, .unset, .unset, .unset, .unset] [(.int (1 : Int32))]))
      refine Go.of (fun t k => XS.goto X0.here hx rfl (pc0 := 19) (pc' := 23) rfl (hb hby at_19) (by decide) (by decide) k) ?_
      show Go _ _ _ _ _ _ _ (s₁.setTop (mkF m 23 #[.val (.int p1), .val (.int p2), .val (.int p3), .val (.int z), .unset, .unset, .unset, .unset, .unset, .unset] [(.int (1 : Int32))]))
      refine Go.of (fun t k => XS.istore X0.here hx rfl (hb hby at_23) rfl (l' := #[.val (.int p1), .val (.int p2), .val (.int p3), .val (.int z), .val (.int (1 : Int32)), .unset, .unset, .unset, .unset, .unset]) rfl k) ?_
      show Go _ _ _ _ _ _ _ (s₁.setTop (mkF m 25 #[.val (.int p1), .val (.int p2), .val (.int p3), .val (.int z), .val (.int (1 : Int32)), .unset, .unset, .unset, .unset, .unset] []))
      refine Go.of (fun t k => XS.iloadN X0.here hx rfl (hb hby at_25) rfl k) ?_
      show Go _ _ _ _ _ _ _ (s₁.setTop (mkF m 26 #[.val (.int p1), .val (.int p2), .val (.int p3), .val (.int z), .val (.int (1 : Int32)), .unset, .unset, .unset, .unset, .unset] [(.int p2)]))
      refine Go.of (fun t k => XS.iconst X0.here hx rfl (hb hby at_26) k) ?_
      show Go _ _ _ _ _ _ _ (s₁.setTop (mkF m 27 #[.val (.int p1), .val (.int p2), .val (.int p3), .val (.int z), .val (.int (1 : Int32)), .unset, .unset, .unset, .unset, .unset] [(.int (3 : Int32)), (.int p2)]))
      refine Go.of (fun t k => XS.iand X0.here hx rfl (hb hby at_27) rfl k) ?_
      show Go _ _ _ _ _ _ _ (s₁.setTop (mkF m 28 #[.val (.int p1), .val (.int p2), .val (.int p3), .val (.int z), .val (.int (1 : Int32)), .unset, .unset, .unset, .unset, .unset] [(.int (p2 &&& (3 : Int32)))]))
      obtain ⟨_, _, ⟨T34, L34, k34, n34⟩, -, X34, ⟨Lc34, hQ34, l34, y34, z34⟩, st34⟩ := Jvm.LawKit.callS X0 hx (y := (⟨"com/example/hermit_crab/hermitcrab/xml/DefaultsForInnerBeansPinLaw", "mode", "(I)Lcom/example/hermit_crab/hermitcrab/definition/BeanDefinition$Autowiring$Mode;"⟩ : MethodName)) hown (mvT hZ (hw _ (List.mem_of_getElem? (i := 0) rfl))) (mvT hZ (hw _ (List.mem_of_getElem? (i := 1) rfl))) (mvT hZ (hw _ (List.mem_of_getElem? (i := 2) rfl))) (mvT hZ (hw _ (List.mem_of_getElem? (i := 3) rfl))) (by decide) (backOf (W := 0) (rm1 l Z a0 hw [] (p2 &&& (3 : Int32)) wNO wBN wBT wCO h0 n0 Z0 (S_NO.ext O0.2) (S_BY_NAME.ext O0.2) (S_BY_TYPE.ext O0.2) (S_CONSTRUCTOR.ext O0.2)) hZ (hw _ (List.mem_of_getElem? (i := 3) rfl)) (hw _ (List.mem_of_getElem? (i := 2) rfl)) (by decide) (by decide)) (g := (mkF m 28 #[.val (.int p1), .val (.int p2), .val (.int p3), .val (.int z), .val (.int (1 : Int32)), .unset, .unset, .unset, .unset, .unset] [(.int (p2 &&& (3 : Int32)))])) rfl (by rw [hml]; rfl) (argsL := [(.int (p2 &&& (3 : Int32)))]) (rest := []) (lenOf pd_5 rfl) rfl (by show 2 * 0 + _ ≤ _; exact Nat.le_of_eq rfl) (hb hby at_28) (fun _ _ => ⟨rfl, e0, (by decide : 0 + 0 ≤ _), (by decide : 0 + 0 ≤ _)⟩)
      dsimp only [Pt.U, Pt.locs, Pt.cells, Pt.slots] at X34 l34 y34 z34 st34 hQ34
      subst l34 y34 z34
      obtain ⟨rfl, N34q, e34⟩ := hQ34
      have N34 := Fr.app N0 N34q
      refine Go.of st34 ?_
      show Go _ _ _ _ _ _ _ (T34.setTop (mkF m 31 #[.val (.int p1), .val (.int p2), .val (.int p3), .val (.int z), .val (.int (1 : Int32)), .unset, .unset, .unset, .unset, .unset] [(.ref (own_pick (p2 &&& (3 : Int32)) wNO wBN wBT wCO))]))
      refine Go.of (fun t k => XS.astore X34.here hx rfl (hb hby at_31) rfl rfl (l' := #[.val (.int p1), .val (.int p2), .val (.int p3), .val (.int z), .val (.int (1 : Int32)), .val (.ref (own_pick (p2 &&& (3 : Int32)) wNO wBN wBT wCO)), .unset, .unset, .unset, .unset]) rfl k) ?_
      show Go _ _ _ _ _ _ _ (T34.setTop (mkF m 33 #[.val (.int p1), .val (.int p2), .val (.int p3), .val (.int z), .val (.int (1 : Int32)), .val (.ref (own_pick (p2 &&& (3 : Int32)) wNO wBN wBT wCO)), .unset, .unset, .unset, .unset] []))
      refine Go.of (fun t k => XS.iload X34.here hx rfl (hb hby at_33) rfl k) ?_
      show Go _ _ _ _ _ _ _ (T34.setTop (mkF m 35 #[.val (.int p1), .val (.int p2), .val (.int p3), .val (.int z), .val (.int (1 : Int32)), .val (.ref (own_pick (p2 &&& (3 : Int32)) wNO wBN wBT wCO)), .unset, .unset, .unset, .unset] [(.int (1 : Int32))]))
      refine Go.of (fun t k => XS.ifNo X34.here hx rfl (hb hby at_35) rfl ((if0 _ _).trans (feq (by decide : ¬ ((1 : Int32) = (0 : Int32)))).1) k) ?_
      show Go _ _ _ _ _ _ _ (T34.setTop (mkF m 38 #[.val (.int p1), .val (.int p2), .val (.int p3), .val (.int z), .val (.int (1 : Int32)), .val (.ref (own_pick (p2 &&& (3 : Int32)) wNO wBN wBT wCO)), .unset, .unset, .unset, .unset] []))
      refine Go.of (fun t k => XS.aconstNull X34.here hx rfl (hb hby at_38) k) ?_
      show Go _ _ _ _ _ _ _ (T34.setTop (mkF m 39 #[.val (.int p1), .val (.int p2), .val (.int p3), .val (.int z), .val (.int (1 : Int32)), .val (.ref (own_pick (p2 &&& (3 : Int32)) wNO wBN wBT wCO)), .unset, .unset, .unset, .unset] [.null]))
      refine Go.of (fun t k => XS.goto X34.here hx rfl (pc0 := 39) (pc' := 49) rfl (hb hby at_39) (by decide) (by decide) k) ?_
      show Go _ _ _ _ _ _ _ (T34.setTop (mkF m 49 #[.val (.int p1), .val (.int p2), .val (.int p3), .val (.int z), .val (.int (1 : Int32)), .val (.ref (own_pick (p2 &&& (3 : Int32)) wNO wBN wBT wCO)), .unset, .unset, .unset, .unset] [.null]))
      refine Go.of (fun t k => XS.astore X34.here hx rfl (hb hby at_49) rfl rfl (l' := #[.val (.int p1), .val (.int p2), .val (.int p3), .val (.int z), .val (.int (1 : Int32)), .val (.ref (own_pick (p2 &&& (3 : Int32)) wNO wBN wBT wCO)), .val .null, .unset, .unset, .unset]) rfl k) ?_
      show Go _ _ _ _ _ _ _ (T34.setTop (mkF m 51 #[.val (.int p1), .val (.int p2), .val (.int p3), .val (.int z), .val (.int (1 : Int32)), .val (.ref (own_pick (p2 &&& (3 : Int32)) wNO wBN wBT wCO)), .val .null, .unset, .unset, .unset] []))
      obtain ⟨T35, h35, X35, e35, E35, A35, D35, -, st35⟩ := newO X34 hx hZ hown (hw _ (List.mem_of_getElem? (i := 33) rfl)) (hw _ (List.mem_of_getElem? (i := 34) rfl)) (hw _ (List.mem_of_getElem? (i := 35) rfl)) e34 (g := (mkF m 51 #[.val (.int p1), .val (.int p2), .val (.int p3), .val (.int z), .val (.int (1 : Int32)), .val (.ref (own_pick (p2 &&& (3 : Int32)) wNO wBN wBT wCO)), .val .null, .unset, .unset, .unset] [])) rfl (hb hby at_51) (by decide) (by decide)
      obtain ⟨b35, g35⟩ : ∃ z, z = h0.size := ⟨_, rfl⟩
      rw [← g35] at A35 D35 st35
      have lt35 : b35 < h35.size := A35.lt
      refine Go.of st35 ?_
      have hs36 : h0.size ≤ h35.size := E35.1
      have F35_lazyInit : Fld Z h35 b35 "com/example/hermit_crab/hermitcrab/xml/BeanElements$Defaults" "lazyInit" "Z" (.int (0 : Int32)) := D35 (Or.inr (hw _ (List.mem_of_getElem? (i := 46) rfl))) (ty := .boolean) (by decide)
      have F35_autowireCandidates : Fld Z h35 b35 "com/example/hermit_crab/hermitcrab/xml/BeanElements$Defaults" "autowireCandidates" "Ljava/util/List;" .null := D35 (Or.inr (hw _ (List.mem_of_getElem? (i := 48) rfl))) (ty := (.object "java/util/List")) (by decide)
      have F35_autowire : Fld Z h35 b35 "com/example/hermit_crab/hermitcrab/xml/BeanElements$Defaults" "autowire" "Lcom/example/hermit_crab/hermitcrab/definition/BeanDefinition$Autowiring$Mode;" .null := D35 (Or.inr (hw _ (List.mem_of_getElem? (i := 50) rfl))) (ty := (.object "com/example/hermit_crab/hermitcrab/definition/BeanDefinition$Autowiring$Mode")) (by decide)
      show Go _ _ _ _ _ _ _ (T35.setTop (mkF m 54 #[.val (.int p1), .val (.int p2), .val (.int p3), .val (.int z), .val (.int (1 : Int32)), .val (.ref (own_pick (p2 &&& (3 : Int32)) wNO wBN wBT wCO)), .val .null, .unset, .unset, .unset] [(.ref b35)]))
      refine Go.of (fun t k => XS.dup X35.here hx rfl (hb hby at_54) rfl rfl k) ?_
      show Go _ _ _ _ _ _ _ (T35.setTop (mkF m 55 #[.val (.int p1), .val (.int p2), .val (.int p3), .val (.int z), .val (.int (1 : Int32)), .val (.ref (own_pick (p2 &&& (3 : Int32)) wNO wBN wBT wCO)), .val .null, .unset, .unset, .unset] [(.ref b35), (.ref b35)]))
      refine Go.of (fun t k => XS.iloadN X35.here hx rfl (hb hby at_55) rfl k) ?_
      show Go _ _ _ _ _ _ _ (T35.setTop (mkF m 56 #[.val (.int p1), .val (.int p2), .val (.int p3), .val (.int z), .val (.int (1 : Int32)), .val (.ref (own_pick (p2 &&& (3 : Int32)) wNO wBN wBT wCO)), .val .null, .unset, .unset, .unset] [(.int z), (.ref b35), (.ref b35)]))
      refine Go.of (fun t k => XS.aload X35.here hx rfl (hb hby at_56) rfl rfl k) ?_
      show Go _ _ _ _ _ _ _ (T35.setTop (mkF m 58 #[.val (.int p1), .val (.int p2), .val (.int p3), .val (.int z), .val (.int (1 : Int32)), .val (.ref (own_pick (p2 &&& (3 : Int32)) wNO wBN wBT wCO)), .val .null, .unset, .unset, .unset] [.null, (.int z), (.ref b35), (.ref b35)]))
      refine Go.of (fun t k => XS.aload X35.here hx rfl (hb hby at_58) rfl rfl k) ?_
      show Go _ _ _ _ _ _ _ (T35.setTop (mkF m 60 #[.val (.int p1), .val (.int p2), .val (.int p3), .val (.int z), .val (.int (1 : Int32)), .val (.ref (own_pick (p2 &&& (3 : Int32)) wNO wBN wBT wCO)), .val .null, .unset, .unset, .unset] [(.ref (own_pick (p2 &&& (3 : Int32)) wNO wBN wBT wCO)), .null, (.int z), (.ref b35), (.ref b35)]))
      obtain ⟨_, _, ⟨T37, L37, k37, n37⟩, -, X37, ⟨Lc37, hQ37, l37, y37, z37⟩, st37⟩ := X35.specialBack hx (y := (⟨"com/example/hermit_crab/hermitcrab/xml/BeanElements$Defaults", "<init>", "(ZLjava/util/List;Lcom/example/hermit_crab/hermitcrab/definition/BeanDefinition$Autowiring$Mode;)V"⟩ : MethodName)) rfl hown (mvT hZ (hw _ (List.mem_of_getElem? (i := 36) rfl))) (mvT hZ (hw _ (List.mem_of_getElem? (i := 37) rfl))) (mvT hZ (hw _ (List.mem_of_getElem? (i := 38) rfl))) (by decide) (backOf (W := 1) (rm6n l Z a0 hw [] b35 z (own_pick (p2 &&& (3 : Int32)) wNO wBN wBT wCO) h35 n0 (by omega) A35 (by omega) hz F35_lazyInit F35_autowireCandidates F35_autowire) hZ (hw _ (List.mem_of_getElem? (i := 38) rfl)) (hw _ (List.mem_of_getElem? (i := 35) rfl)) (by decide) (by decide)) (g := (mkF m 60 #[.val (.int p1), .val (.int p2), .val (.int p3), .val (.int z), .val (.int (1 : Int32)), .val (.ref (own_pick (p2 &&& (3 : Int32)) wNO wBN wBT wCO)), .val .null, .unset, .unset, .unset] [(.ref (own_pick (p2 &&& (3 : Int32)) wNO wBN wBT wCO)), .null, (.int z), (.ref b35), (.ref b35)])) rfl (by rw [hml]; rfl) (Steps.refl _) (a := b35) (argsL := [(.int z), .null, (.ref (own_pick (p2 &&& (3 : Int32)) wNO wBN wBT wCO))]) (rest := [(.ref b35)]) (lenOf pd_1 rfl) rfl (by show 2 * 0 + _ ≤ _; exact Nat.le_of_eq rfl) (hb hby at_60) (fun _ _ => ⟨rfl, e35, (by decide : 1 + 0 ≤ _), (by decide : 3 + 0 ≤ _)⟩)
      dsimp only [Pt.U, Pt.locs, Pt.cells, Pt.slots] at X37 l37 y37 z37 st37 hQ37
      subst l37 y37 z37
      obtain ⟨rfl, N37q, K37, Ex37, Fa37, Fb37, Fc37⟩ := hQ37
      have N37 := Fr.app N34 N37q
      refine Go.tr st37 ?_
      have hs38 : h35.size ≤ T37.heap.size := K37.1
      show Go _ _ _ _ _ _ _ (T37.setTop (mkF m 63 #[.val (.int p1), .val (.int p2), .val (.int p3), .val (.int z), .val (.int (1 : Int32)), .val (.ref (own_pick (p2 &&& (3 : Int32)) wNO wBN wBT wCO)), .val .null, .unset, .unset, .unset] [(.ref b35)]))
      refine Go.of (fun t k => XS.astore X37.here hx rfl (hb hby at_63) rfl rfl (l' := #[.val (.int p1), .val (.int p2), .val (.int p3), .val (.int z), .val (.int (1 : Int32)), .val (.ref (own_pick (p2 &&& (3 : Int32)) wNO wBN wBT wCO)), .val .null, .val (.ref b35), .unset, .unset]) rfl k) ?_
      show Go _ _ _ _ _ _ _ (T37.setTop (mkF m 65 #[.val (.int p1), .val (.int p2), .val (.int p3), .val (.int z), .val (.int (1 : Int32)), .val (.ref (own_pick (p2 &&& (3 : Int32)) wNO wBN wBT wCO)), .val .null, .val (.ref b35), .unset, .unset] []))
      refine Go.of (fun t k => XS.aload X37.here hx rfl (hb hby at_65) rfl rfl k) ?_
      show Go _ _ _ _ _ _ _ (T37.setTop (mkF m 67 #[.val (.int p1), .val (.int p2), .val (.int p3), .val (.int z), .val (.int (1 : Int32)), .val (.ref (own_pick (p2 &&& (3 : Int32)) wNO wBN wBT wCO)), .val .null, .val (.ref b35), .unset, .unset] [(.ref b35)]))
      obtain ⟨cq39, kq39, q39a, q39b, q39c⟩ := isOf hZ rfl Ex37
      obtain ⟨_, _, ⟨T39, L39, k39, n39⟩, -, X39, ⟨Lc39, hQ39, l39, y39, z39⟩, st39⟩ := X37.virtualBack hx (y := (⟨"com/example/hermit_crab/hermitcrab/xml/BeanElements$Defaults", "forInnerBeans", "()Lcom/example/hermit_crab/hermitcrab/xml/BeanElements$Defaults;"⟩ : MethodName)) (z := (⟨"com/example/hermit_crab/hermitcrab/xml/BeanElements$Defaults", "forInnerBeans", "()Lcom/example/hermit_crab/hermitcrab/xml/BeanElements$Defaults;"⟩ : MethodName)) hown (mvT hZ (hw _ (List.mem_of_getElem? (i := 51) rfl))) (mvT hZ (hw _ (List.mem_of_getElem? (i := 52) rfl))) (notFace_of_selects (args := #[]) (mvT hZ (hw _ (List.mem_of_getElem? (i := 54) rfl)))) (mvT hZ (hw _ (List.mem_of_getElem? (i := 54) rfl))) (mvT hZ (hw _ (List.mem_of_getElem? (i := 53) rfl))) (by decide) (backOf (W := 0) (rm8 l Z a0 hw [] b35 (own_pick (p2 &&& (3 : Int32)) wNO wBN wBT wCO) T37.heap n0 (by omega) Fc37) hZ (hw _ (List.mem_of_getElem? (i := 55) rfl)) (hw _ (List.mem_of_getElem? (i := 35) rfl)) (by decide) (by decide)) q39a q39c (g := (mkF m 67 #[.val (.int p1), .val (.int p2), .val (.int p3), .val (.int z), .val (.int (1 : Int32)), .val (.ref (own_pick (p2 &&& (3 : Int32)) wNO wBN wBT wCO)), .val .null, .val (.ref b35), .unset, .unset] [(.ref b35)])) rfl (by rw [hml]; rfl) (Steps.refl _) (argsL := []) (rest := []) (lenOf pd_6 rfl) rfl (by show 2 * 0 + _ ≤ _; exact Nat.le_of_eq rfl) (hb hby at_67) (fun _ _ => ⟨rfl, rfl, (by decide : 1 + 1 ≤ _), (by decide : 3 + 3 ≤ _)⟩)
      dsimp only [Pt.U, Pt.locs, Pt.cells, Pt.slots] at X39 l39 y39 z39 st39 hQ39
      subst l39 y39 z39
      obtain ⟨b39, rfl, N39q, K39, hge39, hlt39, Ex39, Fa39, Fb39, Fc39⟩ := hQ39
      have N39 := Fr.app N37 N39q
      refine Go.tr st39 ?_
      have hs40 : T37.heap.size ≤ T39.heap.size := K39.1
      show Go _ _ _ _ _ _ _ (T39.setTop (mkF m 70 #[.val (.int p1), .val (.int p2), .val (.int p3), .val (.int z), .val (.int (1 : Int32)), .val (.ref (own_pick (p2 &&& (3 : Int32)) wNO wBN wBT wCO)), .val .null, .val (.ref b35), .unset, .unset] [(.ref b39)]))
      refine Go.of (fun t k => XS.astore X39.here hx rfl (hb hby at_70) rfl rfl (l' := #[.val (.int p1), .val (.int p2), .val (.int p3), .val (.int z), .val (.int (1 : Int32)), .val (.ref (own_pick (p2 &&& (3 : Int32)) wNO wBN wBT wCO)), .val .null, .val (.ref b35), .val (.ref b39), .unset]) rfl k) ?_
      show Go _ _ _ _ _ _ _ (T39.setTop (mkF m 72 #[.val (.int p1), .val (.int p2), .val (.int p3), .val (.int z), .val (.int (1 : Int32)), .val (.ref (own_pick (p2 &&& (3 : Int32)) wNO wBN wBT wCO)), .val .null, .val (.ref b35), .val (.ref b39), .unset] []))
      refine Go.of (fun t k => XS.iloadN X39.here hx rfl (hb hby at_72) rfl k) ?_
      show Go _ _ _ _ _ _ _ (T39.setTop (mkF m 73 #[.val (.int p1), .val (.int p2), .val (.int p3), .val (.int z), .val (.int (1 : Int32)), .val (.ref (own_pick (p2 &&& (3 : Int32)) wNO wBN wBT wCO)), .val .null, .val (.ref b35), .val (.ref b39), .unset] [(.int p3)]))
      refine Go.of (fun t k => XS.sipush X39.here hx rfl (hb hby at_73) k) ?_
      show Go _ _ _ _ _ _ _ (T39.setTop (mkF m 76 #[.val (.int p1), .val (.int p2), .val (.int p3), .val (.int z), .val (.int (1 : Int32)), .val (.ref (own_pick (p2 &&& (3 : Int32)) wNO wBN wBT wCO)), .val .null, .val (.ref b35), .val (.ref b39), .unset] [(.int (255 : Int32)), (.int p3)]))
      refine Go.of (fun t k => XS.iand X39.here hx rfl (hb hby at_76) rfl k) ?_
      show Go _ _ _ _ _ _ _ (T39.setTop (mkF m 77 #[.val (.int p1), .val (.int p2), .val (.int p3), .val (.int z), .val (.int (1 : Int32)), .val (.ref (own_pick (p2 &&& (3 : Int32)) wNO wBN wBT wCO)), .val .null, .val (.ref b35), .val (.ref b39), .unset] [(.int (p3 &&& (255 : Int32)))]))
      refine Go.of (fun t k => XS.i2c X39.here hx rfl (hb hby at_77) rfl k) ?_
      show Go _ _ _ _ _ _ _ (T39.setTop (mkF m 78 #[.val (.int p1), .val (.int p2), .val (.int p3), .val (.int z), .val (.int (1 : Int32)), .val (.ref (own_pick (p2 &&& (3 : Int32)) wNO wBN wBT wCO)), .val .null, .val (.ref b35), .val (.ref b39), .unset] [(.int ((p3 &&& (255 : Int32)).toUInt32.toUInt16.toUInt32.toInt32))]))
      have f41 := (((O0.ext E35).keep K37 (allS (by omega) all0)).keep K39 all0)
      obtain ⟨_, _, ⟨T42, L42, k42, n42⟩, -, X42, ⟨Lc42, hQ42, l42, y42, z42⟩, st42⟩ := Jvm.LawKit.callS X39 hx (y := (⟨"java/lang/String", "valueOf", "(C)Ljava/lang/String;"⟩ : MethodName)) hown (mvT hZ (hw _ (List.mem_of_getElem? (i := 58) rfl))) (mvT hZ (hw _ (List.mem_of_getElem? (i := 59) rfl))) (mvT hZ (hw _ (List.mem_of_getElem? (i := 60) rfl))) (mvT hZ (hw _ (List.mem_of_getElem? (i := 61) rfl))) (by decide) (backOf (W := 0) (rm9 l Z a0 hw [] ((p3 &&& (255 : Int32)).toUInt32.toUInt16.toUInt32.toInt32) cs T39.heap n0 (by omega) (S_cs.ext f41.2) hcs (own_char p3)) hZ (hw _ (List.mem_of_getElem? (i := 61) rfl)) (hw _ (List.mem_of_getElem? (i := 60) rfl)) (by decide) (by decide)) (g := (mkF m 78 #[.val (.int p1), .val (.int p2), .val (.int p3), .val (.int z), .val (.int (1 : Int32)), .val (.ref (own_pick (p2 &&& (3 : Int32)) wNO wBN wBT wCO)), .val .null, .val (.ref b35), .val (.ref b39), .unset] [(.int ((p3 &&& (255 : Int32)).toUInt32.toUInt16.toUInt32.toInt32))])) rfl (by rw [hml]; rfl) (argsL := [(.int ((p3 &&& (255 : Int32)).toUInt32.toUInt16.toUInt32.toInt32))]) (rest := []) (lenOf pd_7 rfl) rfl (by show 2 * 0 + _ ≤ _; exact Nat.le_of_eq rfl) (hb hby at_78) (fun _ _ => ⟨rfl, rfl, (by decide : 2 + 2 ≤ _), (by decide : 6 + 5 ≤ _)⟩)
      dsimp only [Pt.U, Pt.locs, Pt.cells, Pt.slots] at X42 l42 y42 z42 st42 hQ42
      subst l42 y42 z42
      obtain ⟨b42, rfl, N42q, K42, hge42, hlt42, Ex42⟩ := hQ42
      have N42 := Fr.app N39 N42q
      refine Go.of st42 ?_
      have hs43 : T39.heap.size ≤ T42.heap.size := K42.1
      show Go _ _ _ _ _ _ _ (T42.setTop (mkF m 81 #[.val (.int p1), .val (.int p2), .val (.int p3), .val (.int z), .val (.int (1 : Int32)), .val (.ref (own_pick (p2 &&& (3 : Int32)) wNO wBN wBT wCO)), .val .null, .val (.ref b35), .val (.ref b39), .unset] [(.ref b42)]))
      refine Go.of (fun t k => XS.astore X42.here hx rfl (hb hby at_81) rfl rfl (l' := #[.val (.int p1), .val (.int p2), .val (.int p3), .val (.int z), .val (.int (1 : Int32)), .val (.ref (own_pick (p2 &&& (3 : Int32)) wNO wBN wBT wCO)), .val .null, .val (.ref b35), .val (.ref b39), .val (.ref b42)]) rfl k) ?_
      show Go _ _ _ _ _ _ _ (T42.setTop (mkF m 83 #[.val (.int p1), .val (.int p2), .val (.int p3), .val (.int z), .val (.int (1 : Int32)), .val (.ref (own_pick (p2 &&& (3 : Int32)) wNO wBN wBT wCO)), .val .null, .val (.ref b35), .val (.ref b39), .val (.ref b42)] []))
      refine Go.of (fun t k => XS.aload X42.here hx rfl (hb hby at_83) rfl rfl k) ?_
      show Go _ _ _ _ _ _ _ (T42.setTop (mkF m 85 #[.val (.int p1), .val (.int p2), .val (.int p3), .val (.int z), .val (.int (1 : Int32)), .val (.ref (own_pick (p2 &&& (3 : Int32)) wNO wBN wBT wCO)), .val .null, .val (.ref b35), .val (.ref b39), .val (.ref b42)] [(.ref b39)]))
      have f44 := (Fa39.keep K42 nin0)
      have f46 := (Ex39.keep K42)
      obtain ⟨cq45, kq45, q45a, q45b, q45c⟩ := isOf hZ rfl f46
      obtain ⟨_, _, ⟨T45, L45, k45, n45⟩, -, X45, ⟨Lc45, hQ45, l45, y45, z45⟩, st45⟩ := X42.virtualBack hx (y := (⟨"com/example/hermit_crab/hermitcrab/xml/BeanElements$Defaults", "lazyInit", "()Z"⟩ : MethodName)) (z := (⟨"com/example/hermit_crab/hermitcrab/xml/BeanElements$Defaults", "lazyInit", "()Z"⟩ : MethodName)) hown (mvT hZ (hw _ (List.mem_of_getElem? (i := 82) rfl))) (mvT hZ (hw _ (List.mem_of_getElem? (i := 83) rfl))) (notFace_of_selects (args := #[]) (mvT hZ (hw _ (List.mem_of_getElem? (i := 85) rfl)))) (mvT hZ (hw _ (List.mem_of_getElem? (i := 85) rfl))) (mvT hZ (hw _ (List.mem_of_getElem? (i := 84) rfl))) (by decide) (backOf (W := 0) (rmlz l Z a0 hw [] b39 (0 : Int32) T42.heap n0 (by omega) f44 (Or.inl rfl)) hZ (hw _ (List.mem_of_getElem? (i := 86) rfl)) (hw _ (List.mem_of_getElem? (i := 35) rfl)) (by decide) (by decide)) q45a q45c (g := (mkF m 85 #[.val (.int p1), .val (.int p2), .val (.int p3), .val (.int z), .val (.int (1 : Int32)), .val (.ref (own_pick (p2 &&& (3 : Int32)) wNO wBN wBT wCO)), .val .null, .val (.ref b35), .val (.ref b39), .val (.ref b42)] [(.ref b39)])) rfl (by rw [hml]; rfl) (Steps.refl _) (argsL := []) (rest := []) (lenOf pd_8 rfl) rfl (by show 2 * 0 + _ ≤ _; exact Nat.le_of_eq rfl) (hb hby at_85) (fun _ _ => ⟨rfl, rfl, (by decide : 4 + 0 ≤ _), (by decide : 11 + 0 ≤ _)⟩)
      dsimp only [Pt.U, Pt.locs, Pt.cells, Pt.slots] at X45 l45 y45 z45 st45 hQ45
      subst l45 y45 z45
      obtain ⟨rfl, N45q, e45⟩ := hQ45
      have N45 := Fr.app N42 N45q
      refine Go.tr st45 ?_
      show Go _ _ _ _ _ _ _ (T45.setTop (mkF m 88 #[.val (.int p1), .val (.int p2), .val (.int p3), .val (.int z), .val (.int (1 : Int32)), .val (.ref (own_pick (p2 &&& (3 : Int32)) wNO wBN wBT wCO)), .val .null, .val (.ref b35), .val (.ref b39), .val (.ref b42)] [(.int (0 : Int32))]))
      refine Go.of (fun t k => XS.ifNo X45.here hx rfl (hb hby at_88) rfl ((if0 _ _).trans (teq (by decide : (0 : Int32) = (0 : Int32))).2) k) ?_
      show Go _ _ _ _ _ _ _ (T45.setTop (mkF m 91 #[.val (.int p1), .val (.int p2), .val (.int p3), .val (.int z), .val (.int (1 : Int32)), .val (.ref (own_pick (p2 &&& (3 : Int32)) wNO wBN wBT wCO)), .val .null, .val (.ref b35), .val (.ref b39), .val (.ref b42)] []))
      refine Go.of (fun t k => XS.aload X45.here hx rfl (hb hby at_91) rfl rfl k) ?_
      show Go _ _ _ _ _ _ _ (T45.setTop (mkF m 93 #[.val (.int p1), .val (.int p2), .val (.int p3), .val (.int z), .val (.int (1 : Int32)), .val (.ref (own_pick (p2 &&& (3 : Int32)) wNO wBN wBT wCO)), .val .null, .val (.ref b35), .val (.ref b39), .val (.ref b42)] [(.ref b39)]))
      have f47 := (Fb39.keep K42 nin0)
      obtain ⟨cq48, kq48, q48a, q48b, q48c⟩ := isOf hZ e45 f46
      obtain ⟨_, _, ⟨T48, L48, k48, n48⟩, -, X48, ⟨Lc48, hQ48, l48, y48, z48⟩, st48⟩ := X45.virtualBack hx (y := (⟨"com/example/hermit_crab/hermitcrab/xml/BeanElements$Defaults", "autowireCandidates", "()Ljava/util/List;"⟩ : MethodName)) (z := (⟨"com/example/hermit_crab/hermitcrab/xml/BeanElements$Defaults", "autowireCandidates", "()Ljava/util/List;"⟩ : MethodName)) hown (mvT hZ (hw _ (List.mem_of_getElem? (i := 87) rfl))) (mvT hZ (hw _ (List.mem_of_getElem? (i := 88) rfl))) (notFace_of_selects (args := #[]) (mvT hZ (hw _ (List.mem_of_getElem? (i := 90) rfl)))) (mvT hZ (hw _ (List.mem_of_getElem? (i := 90) rfl))) (mvT hZ (hw _ (List.mem_of_getElem? (i := 89) rfl))) (by decide) (backOf (W := 0) (rmcn l Z a0 hw [] b39 T42.heap n0 (by omega) f47) hZ (hw _ (List.mem_of_getElem? (i := 91) rfl)) (hw _ (List.mem_of_getElem? (i := 35) rfl)) (by decide) (by decide)) q48a q48c (g := (mkF m 93 #[.val (.int p1), .val (.int p2), .val (.int p3), .val (.int z), .val (.int (1 : Int32)), .val (.ref (own_pick (p2 &&& (3 : Int32)) wNO wBN wBT wCO)), .val .null, .val (.ref b35), .val (.ref b39), .val (.ref b42)] [(.ref b39)])) rfl (by rw [hml]; rfl) (Steps.refl _) (argsL := []) (rest := []) (lenOf pd_9 rfl) rfl (by show 2 * 0 + _ ≤ _; exact Nat.le_of_eq rfl) (hb hby at_93) (fun _ _ => ⟨rfl, e45, (by decide : 4 + 0 ≤ _), (by decide : 11 + 0 ≤ _)⟩)
      dsimp only [Pt.U, Pt.locs, Pt.cells, Pt.slots] at X48 l48 y48 z48 st48 hQ48
      subst l48 y48 z48
      obtain ⟨rfl, N48q, e48⟩ := hQ48
      have N48 := Fr.app N45 N48q
      refine Go.tr st48 ?_
      show Go _ _ _ _ _ _ _ (T48.setTop (mkF m 96 #[.val (.int p1), .val (.int p2), .val (.int p3), .val (.int z), .val (.int (1 : Int32)), .val (.ref (own_pick (p2 &&& (3 : Int32)) wNO wBN wBT wCO)), .val .null, .val (.ref b35), .val (.ref b39), .val (.ref b42)] [.null]))
      refine Go.of (fun t k => XS.ifnonnullNo X48.here hx rfl (hb hby at_96) rfl k) ?_
      show Go _ _ _ _ _ _ _ (T48.setTop (mkF m 99 #[.val (.int p1), .val (.int p2), .val (.int p3), .val (.int z), .val (.int (1 : Int32)), .val (.ref (own_pick (p2 &&& (3 : Int32)) wNO wBN wBT wCO)), .val .null, .val (.ref b35), .val (.ref b39), .val (.ref b42)] []))
      refine Go.of (fun t k => XS.aload X48.here hx rfl (hb hby at_99) rfl rfl k) ?_
      show Go _ _ _ _ _ _ _ (T48.setTop (mkF m 101 #[.val (.int p1), .val (.int p2), .val (.int p3), .val (.int z), .val (.int (1 : Int32)), .val (.ref (own_pick (p2 &&& (3 : Int32)) wNO wBN wBT wCO)), .val .null, .val (.ref b35), .val (.ref b39), .val (.ref b42)] [(.ref b39)]))
      have f49 := (Fc39.keep K42 nin0)
      obtain ⟨cq50, kq50, q50a, q50b, q50c⟩ := isOf hZ e48 f46
      obtain ⟨_, _, ⟨T50, L50, k50, n50⟩, -, X50, ⟨Lc50, hQ50, l50, y50, z50⟩, st50⟩ := X48.virtualBack hx (y := (⟨"com/example/hermit_crab/hermitcrab/xml/BeanElements$Defaults", "autowire", "()Lcom/example/hermit_crab/hermitcrab/definition/BeanDefinition$Autowiring$Mode;"⟩ : MethodName)) (z := (⟨"com/example/hermit_crab/hermitcrab/xml/BeanElements$Defaults", "autowire", "()Lcom/example/hermit_crab/hermitcrab/definition/BeanDefinition$Autowiring$Mode;"⟩ : MethodName)) hown (mvT hZ (hw _ (List.mem_of_getElem? (i := 92) rfl))) (mvT hZ (hw _ (List.mem_of_getElem? (i := 93) rfl))) (notFace_of_selects (args := #[]) (mvT hZ (hw _ (List.mem_of_getElem? (i := 95) rfl)))) (mvT hZ (hw _ (List.mem_of_getElem? (i := 95) rfl))) (mvT hZ (hw _ (List.mem_of_getElem? (i := 94) rfl))) (by decide) (backOf (W := 0) (rmau l Z a0 hw [] b39 (own_pick (p2 &&& (3 : Int32)) wNO wBN wBT wCO) T42.heap n0 (by omega) f49) hZ (hw _ (List.mem_of_getElem? (i := 96) rfl)) (hw _ (List.mem_of_getElem? (i := 35) rfl)) (by decide) (by decide)) q50a q50c (g := (mkF m 101 #[.val (.int p1), .val (.int p2), .val (.int p3), .val (.int z), .val (.int (1 : Int32)), .val (.ref (own_pick (p2 &&& (3 : Int32)) wNO wBN wBT wCO)), .val .null, .val (.ref b35), .val (.ref b39), .val (.ref b42)] [(.ref b39)])) rfl (by rw [hml]; rfl) (Steps.refl _) (argsL := []) (rest := []) (lenOf pd_10 rfl) rfl (by show 2 * 0 + _ ≤ _; exact Nat.le_of_eq rfl) (hb hby at_101) (fun _ _ => ⟨rfl, e48, (by decide : 4 + 0 ≤ _), (by decide : 11 + 0 ≤ _)⟩)
      dsimp only [Pt.U, Pt.locs, Pt.cells, Pt.slots] at X50 l50 y50 z50 st50 hQ50
      subst l50 y50 z50
      obtain ⟨rfl, N50q, e50⟩ := hQ50
      have N50 := Fr.app N48 N50q
      refine Go.tr st50 ?_
      show Go _ _ _ _ _ _ _ (T50.setTop (mkF m 104 #[.val (.int p1), .val (.int p2), .val (.int p3), .val (.int z), .val (.int (1 : Int32)), .val (.ref (own_pick (p2 &&& (3 : Int32)) wNO wBN wBT wCO)), .val .null, .val (.ref b35), .val (.ref b39), .val (.ref b42)] [(.ref (own_pick (p2 &&& (3 : Int32)) wNO wBN wBT wCO))]))
      refine Go.of (fun t k => XS.aload X50.here hx rfl (hb hby at_104) rfl rfl k) ?_
      show Go _ _ _ _ _ _ _ (T50.setTop (mkF m 106 #[.val (.int p1), .val (.int p2), .val (.int p3), .val (.int z), .val (.int (1 : Int32)), .val (.ref (own_pick (p2 &&& (3 : Int32)) wNO wBN wBT wCO)), .val .null, .val (.ref b35), .val (.ref b39), .val (.ref b42)] [(.ref (own_pick (p2 &&& (3 : Int32)) wNO wBN wBT wCO)), (.ref (own_pick (p2 &&& (3 : Int32)) wNO wBN wBT wCO))]))
      refine Go.of (fun t k => Jvm.RoadKit.acmp (g := (mkF m 106 #[.val (.int p1), .val (.int p2), .val (.int p3), .val (.int z), .val (.int (1 : Int32)), .val (.ref (own_pick (p2 &&& (3 : Int32)) wNO wBN wBT wCO)), .val .null, .val (.ref b35), .val (.ref b39), .val (.ref b42)] [(.ref (own_pick (p2 &&& (3 : Int32)) wNO wBN wBT wCO)), (.ref (own_pick (p2 &&& (3 : Int32)) wNO wBN wBT wCO))])) X50 hx rfl rfl rfl (pc0 := 106) (pc' := 109) (same := true) rfl (hb hby at_106) rfl (decide_eq_true rfl) (by decide) (by decide) k) ?_
      show Go _ _ _ _ _ _ _ (T50.setTop (mkF m 109 #[.val (.int p1), .val (.int p2), .val (.int p3), .val (.int z), .val (.int (1 : Int32)), .val (.ref (own_pick (p2 &&& (3 : Int32)) wNO wBN wBT wCO)), .val .null, .val (.ref b35), .val (.ref b39), .val (.ref b42)] []))
      refine Go.of (fun t k => XS.aload X50.here hx rfl (hb hby at_109) rfl rfl k) ?_
      show Go _ _ _ _ _ _ _ (T50.setTop (mkF m 111 #[.val (.int p1), .val (.int p2), .val (.int p3), .val (.int z), .val (.int (1 : Int32)), .val (.ref (own_pick (p2 &&& (3 : Int32)) wNO wBN wBT wCO)), .val .null, .val (.ref b35), .val (.ref b39), .val (.ref b42)] [(.ref b39)]))
      refine Go.of (fun t k => XS.aload X50.here hx rfl (hb hby at_111) rfl rfl k) ?_
      show Go _ _ _ _ _ _ _ (T50.setTop (mkF m 113 #[.val (.int p1), .val (.int p2), .val (.int p3), .val (.int z), .val (.int (1 : Int32)), .val (.ref (own_pick (p2 &&& (3 : Int32)) wNO wBN wBT wCO)), .val .null, .val (.ref b35), .val (.ref b39), .val (.ref b42)] [(.ref b42), (.ref b39)]))
      obtain ⟨cq51, kq51, q51a, q51b, q51c⟩ := isOf hZ e50 f46
      obtain ⟨_, _, ⟨T51, L51, k51, n51⟩, -, X51, ⟨Lc51, hQ51, l51, y51, z51⟩, st51⟩ := X50.virtualBack hx (y := (⟨"com/example/hermit_crab/hermitcrab/xml/BeanElements$Defaults", "isAutowireCandidate", "(Ljava/lang/String;)Z"⟩ : MethodName)) (z := (⟨"com/example/hermit_crab/hermitcrab/xml/BeanElements$Defaults", "isAutowireCandidate", "(Ljava/lang/String;)Z"⟩ : MethodName)) hown (mvT hZ (hw _ (List.mem_of_getElem? (i := 97) rfl))) (mvT hZ (hw _ (List.mem_of_getElem? (i := 98) rfl))) (notFace_of_selects (args := #[]) (mvT hZ (hw _ (List.mem_of_getElem? (i := 100) rfl)))) (mvT hZ (hw _ (List.mem_of_getElem? (i := 100) rfl))) (mvT hZ (hw _ (List.mem_of_getElem? (i := 99) rfl))) (by decide) (backOf (W := 0) (rm16 l Z a0 hw [] b39 b42 T42.heap n0 (by omega) f47) hZ (hw _ (List.mem_of_getElem? (i := 101) rfl)) (hw _ (List.mem_of_getElem? (i := 35) rfl)) (by decide) (by decide)) q51a q51c (g := (mkF m 113 #[.val (.int p1), .val (.int p2), .val (.int p3), .val (.int z), .val (.int (1 : Int32)), .val (.ref (own_pick (p2 &&& (3 : Int32)) wNO wBN wBT wCO)), .val .null, .val (.ref b35), .val (.ref b39), .val (.ref b42)] [(.ref b42), (.ref b39)])) rfl (by rw [hml]; rfl) (Steps.refl _) (argsL := [(.ref b42)]) (rest := []) (lenOf pd_11 rfl) rfl (by show 2 * 0 + _ ≤ _; exact Nat.le_of_eq rfl) (hb hby at_113) (fun _ _ => ⟨rfl, e50, (by decide : 4 + 0 ≤ _), (by decide : 11 + 0 ≤ _)⟩)
      dsimp only [Pt.U, Pt.locs, Pt.cells, Pt.slots] at X51 l51 y51 z51 st51 hQ51
      subst l51 y51 z51
      obtain ⟨rfl, N51q, e51⟩ := hQ51
      have N51 := Fr.app N50 N51q
      refine Go.tr st51 ?_
      show Go _ _ _ _ _ _ _ (T51.setTop (mkF m 116 #[.val (.int p1), .val (.int p2), .val (.int p3), .val (.int z), .val (.int (1 : Int32)), .val (.ref (own_pick (p2 &&& (3 : Int32)) wNO wBN wBT wCO)), .val .null, .val (.ref b35), .val (.ref b39), .val (.ref b42)] [(.int (1 : Int32))]))
      refine Go.of (fun t k => XS.ifNo X51.here hx rfl (hb hby at_116) rfl ((if0 _ _).trans (feq (by decide : ¬ ((1 : Int32) = (0 : Int32)))).1) k) ?_
      show Go _ _ _ _ _ _ _ (T51.setTop (mkF m 119 #[.val (.int p1), .val (.int p2), .val (.int p3), .val (.int z), .val (.int (1 : Int32)), .val (.ref (own_pick (p2 &&& (3 : Int32)) wNO wBN wBT wCO)), .val .null, .val (.ref b35), .val (.ref b39), .val (.ref b42)] []))
      refine Go.of (fun t k => XS.aload X51.here hx rfl (hb hby at_119) rfl rfl k) ?_
      show Go _ _ _ _ _ _ _ (T51.setTop (mkF m 121 #[.val (.int p1), .val (.int p2), .val (.int p3), .val (.int z), .val (.int (1 : Int32)), .val (.ref (own_pick (p2 &&& (3 : Int32)) wNO wBN wBT wCO)), .val .null, .val (.ref b35), .val (.ref b39), .val (.ref b42)] [(.ref b35)]))
      have f52 := ((Fa37.keep K39 nin0).keep K42 nin0)
      have f54 := ((Ex37.keep K39).keep K42)
      obtain ⟨cq53, kq53, q53a, q53b, q53c⟩ := isOf hZ e51 f54
      obtain ⟨_, _, ⟨T53, L53, k53, n53⟩, -, X53, ⟨Lc53, hQ53, l53, y53, z53⟩, st53⟩ := X51.virtualBack hx (y := (⟨"com/example/hermit_crab/hermitcrab/xml/BeanElements$Defaults", "lazyInit", "()Z"⟩ : MethodName)) (z := (⟨"com/example/hermit_crab/hermitcrab/xml/BeanElements$Defaults", "lazyInit", "()Z"⟩ : MethodName)) hown (mvT hZ (hw _ (List.mem_of_getElem? (i := 82) rfl))) (mvT hZ (hw _ (List.mem_of_getElem? (i := 83) rfl))) (notFace_of_selects (args := #[]) (mvT hZ (hw _ (List.mem_of_getElem? (i := 85) rfl)))) (mvT hZ (hw _ (List.mem_of_getElem? (i := 85) rfl))) (mvT hZ (hw _ (List.mem_of_getElem? (i := 84) rfl))) (by decide) (backOf (W := 0) (rmlz l Z a0 hw [] b35 z T42.heap n0 (by omega) f52 hz) hZ (hw _ (List.mem_of_getElem? (i := 86) rfl)) (hw _ (List.mem_of_getElem? (i := 35) rfl)) (by decide) (by decide)) q53a q53c (g := (mkF m 121 #[.val (.int p1), .val (.int p2), .val (.int p3), .val (.int z), .val (.int (1 : Int32)), .val (.ref (own_pick (p2 &&& (3 : Int32)) wNO wBN wBT wCO)), .val .null, .val (.ref b35), .val (.ref b39), .val (.ref b42)] [(.ref b35)])) rfl (by rw [hml]; rfl) (Steps.refl _) (argsL := []) (rest := []) (lenOf pd_8 rfl) rfl (by show 2 * 0 + _ ≤ _; exact Nat.le_of_eq rfl) (hb hby at_121) (fun _ _ => ⟨rfl, e51, (by decide : 4 + 0 ≤ _), (by decide : 11 + 0 ≤ _)⟩)
      dsimp only [Pt.U, Pt.locs, Pt.cells, Pt.slots] at X53 l53 y53 z53 st53 hQ53
      subst l53 y53 z53
      obtain ⟨rfl, N53q, e53⟩ := hQ53
      have N53 := Fr.app N51 N53q
      refine Go.tr st53 ?_
      show Go _ _ _ _ _ _ _ (T53.setTop (mkF m 124 #[.val (.int p1), .val (.int p2), .val (.int p3), .val (.int z), .val (.int (1 : Int32)), .val (.ref (own_pick (p2 &&& (3 : Int32)) wNO wBN wBT wCO)), .val .null, .val (.ref b35), .val (.ref b39), .val (.ref b42)] [(.int z)]))
      refine Go.of (fun t k => XS.iloadN X53.here hx rfl (hb hby at_124) rfl k) ?_
      show Go _ _ _ _ _ _ _ (T53.setTop (mkF m 125 #[.val (.int p1), .val (.int p2), .val (.int p3), .val (.int z), .val (.int (1 : Int32)), .val (.ref (own_pick (p2 &&& (3 : Int32)) wNO wBN wBT wCO)), .val .null, .val (.ref b35), .val (.ref b39), .val (.ref b42)] [(.int z), (.int z)]))
      refine Go.of (fun t k => XS.icmpNo X53.here hx rfl (hb hby at_125) rfl (teq (rfl : z = z)).2 k) ?_
      show Go _ _ _ _ _ _ _ (T53.setTop (mkF m 128 #[.val (.int p1), .val (.int p2), .val (.int p3), .val (.int z), .val (.int (1 : Int32)), .val (.ref (own_pick (p2 &&& (3 : Int32)) wNO wBN wBT wCO)), .val .null, .val (.ref b35), .val (.ref b39), .val (.ref b42)] []))
      refine Go.of (fun t k => XS.aload X53.here hx rfl (hb hby at_128) rfl rfl k) ?_
      show Go _ _ _ _ _ _ _ (T53.setTop (mkF m 130 #[.val (.int p1), .val (.int p2), .val (.int p3), .val (.int z), .val (.int (1 : Int32)), .val (.ref (own_pick (p2 &&& (3 : Int32)) wNO wBN wBT wCO)), .val .null, .val (.ref b35), .val (.ref b39), .val (.ref b42)] [(.ref b35)]))
      have f55 := ((Fb37.keep K39 nin0).keep K42 nin0)
      obtain ⟨cq56, kq56, q56a, q56b, q56c⟩ := isOf hZ e53 f54
      obtain ⟨_, _, ⟨T56, L56, k56, n56⟩, -, X56, ⟨Lc56, hQ56, l56, y56, z56⟩, st56⟩ := X53.virtualBack hx (y := (⟨"com/example/hermit_crab/hermitcrab/xml/BeanElements$Defaults", "autowireCandidates", "()Ljava/util/List;"⟩ : MethodName)) (z := (⟨"com/example/hermit_crab/hermitcrab/xml/BeanElements$Defaults", "autowireCandidates", "()Ljava/util/List;"⟩ : MethodName)) hown (mvT hZ (hw _ (List.mem_of_getElem? (i := 87) rfl))) (mvT hZ (hw _ (List.mem_of_getElem? (i := 88) rfl))) (notFace_of_selects (args := #[]) (mvT hZ (hw _ (List.mem_of_getElem? (i := 90) rfl)))) (mvT hZ (hw _ (List.mem_of_getElem? (i := 90) rfl))) (mvT hZ (hw _ (List.mem_of_getElem? (i := 89) rfl))) (by decide) (backOf (W := 0) (rmcn l Z a0 hw [] b35 T42.heap n0 (by omega) f55) hZ (hw _ (List.mem_of_getElem? (i := 91) rfl)) (hw _ (List.mem_of_getElem? (i := 35) rfl)) (by decide) (by decide)) q56a q56c (g := (mkF m 130 #[.val (.int p1), .val (.int p2), .val (.int p3), .val (.int z), .val (.int (1 : Int32)), .val (.ref (own_pick (p2 &&& (3 : Int32)) wNO wBN wBT wCO)), .val .null, .val (.ref b35), .val (.ref b39), .val (.ref b42)] [(.ref b35)])) rfl (by rw [hml]; rfl) (Steps.refl _) (argsL := []) (rest := []) (lenOf pd_9 rfl) rfl (by show 2 * 0 + _ ≤ _; exact Nat.le_of_eq rfl) (hb hby at_130) (fun _ _ => ⟨rfl, e53, (by decide : 4 + 0 ≤ _), (by decide : 11 + 0 ≤ _)⟩)
      dsimp only [Pt.U, Pt.locs, Pt.cells, Pt.slots] at X56 l56 y56 z56 st56 hQ56
      subst l56 y56 z56
      obtain ⟨rfl, N56q, e56⟩ := hQ56
      have N56 := Fr.app N53 N56q
      refine Go.tr st56 ?_
      show Go _ _ _ _ _ _ _ (T56.setTop (mkF m 133 #[.val (.int p1), .val (.int p2), .val (.int p3), .val (.int z), .val (.int (1 : Int32)), .val (.ref (own_pick (p2 &&& (3 : Int32)) wNO wBN wBT wCO)), .val .null, .val (.ref b35), .val (.ref b39), .val (.ref b42)] [.null]))
      refine Go.of (fun t k => XS.aload X56.here hx rfl (hb hby at_133) rfl rfl k) ?_
      show Go _ _ _ _ _ _ _ (T56.setTop (mkF m 135 #[.val (.int p1), .val (.int p2), .val (.int p3), .val (.int z), .val (.int (1 : Int32)), .val (.ref (own_pick (p2 &&& (3 : Int32)) wNO wBN wBT wCO)), .val .null, .val (.ref b35), .val (.ref b39), .val (.ref b42)] [.null, .null]))
      refine Go.of (fun t k => Jvm.RoadKit.acmp (g := (mkF m 135 #[.val (.int p1), .val (.int p2), .val (.int p3), .val (.int z), .val (.int (1 : Int32)), .val (.ref (own_pick (p2 &&& (3 : Int32)) wNO wBN wBT wCO)), .val .null, .val (.ref b35), .val (.ref b39), .val (.ref b42)] [.null, .null])) X56 hx rfl rfl rfl (pc0 := 135) (pc' := 138) (same := true) rfl (hb hby at_135) rfl (decide_eq_true rfl) (by decide) (by decide) k) ?_
      show Go _ _ _ _ _ _ _ (T56.setTop (mkF m 138 #[.val (.int p1), .val (.int p2), .val (.int p3), .val (.int z), .val (.int (1 : Int32)), .val (.ref (own_pick (p2 &&& (3 : Int32)) wNO wBN wBT wCO)), .val .null, .val (.ref b35), .val (.ref b39), .val (.ref b42)] []))
      refine Go.of (fun t k => XS.aload X56.here hx rfl (hb hby at_138) rfl rfl k) ?_
      show Go _ _ _ _ _ _ _ (T56.setTop (mkF m 140 #[.val (.int p1), .val (.int p2), .val (.int p3), .val (.int z), .val (.int (1 : Int32)), .val (.ref (own_pick (p2 &&& (3 : Int32)) wNO wBN wBT wCO)), .val .null, .val (.ref b35), .val (.ref b39), .val (.ref b42)] [(.ref b35)]))
      have f57 := ((Fc37.keep K39 nin0).keep K42 nin0)
      obtain ⟨cq58, kq58, q58a, q58b, q58c⟩ := isOf hZ e56 f54
      obtain ⟨_, _, ⟨T58, L58, k58, n58⟩, -, X58, ⟨Lc58, hQ58, l58, y58, z58⟩, st58⟩ := X56.virtualBack hx (y := (⟨"com/example/hermit_crab/hermitcrab/xml/BeanElements$Defaults", "autowire", "()Lcom/example/hermit_crab/hermitcrab/definition/BeanDefinition$Autowiring$Mode;"⟩ : MethodName)) (z := (⟨"com/example/hermit_crab/hermitcrab/xml/BeanElements$Defaults", "autowire", "()Lcom/example/hermit_crab/hermitcrab/definition/BeanDefinition$Autowiring$Mode;"⟩ : MethodName)) hown (mvT hZ (hw _ (List.mem_of_getElem? (i := 92) rfl))) (mvT hZ (hw _ (List.mem_of_getElem? (i := 93) rfl))) (notFace_of_selects (args := #[]) (mvT hZ (hw _ (List.mem_of_getElem? (i := 95) rfl)))) (mvT hZ (hw _ (List.mem_of_getElem? (i := 95) rfl))) (mvT hZ (hw _ (List.mem_of_getElem? (i := 94) rfl))) (by decide) (backOf (W := 0) (rmau l Z a0 hw [] b35 (own_pick (p2 &&& (3 : Int32)) wNO wBN wBT wCO) T42.heap n0 (by omega) f57) hZ (hw _ (List.mem_of_getElem? (i := 96) rfl)) (hw _ (List.mem_of_getElem? (i := 35) rfl)) (by decide) (by decide)) q58a q58c (g := (mkF m 140 #[.val (.int p1), .val (.int p2), .val (.int p3), .val (.int z), .val (.int (1 : Int32)), .val (.ref (own_pick (p2 &&& (3 : Int32)) wNO wBN wBT wCO)), .val .null, .val (.ref b35), .val (.ref b39), .val (.ref b42)] [(.ref b35)])) rfl (by rw [hml]; rfl) (Steps.refl _) (argsL := []) (rest := []) (lenOf pd_10 rfl) rfl (by show 2 * 0 + _ ≤ _; exact Nat.le_of_eq rfl) (hb hby at_140) (fun _ _ => ⟨rfl, e56, (by decide : 4 + 0 ≤ _), (by decide : 11 + 0 ≤ _)⟩)
      dsimp only [Pt.U, Pt.locs, Pt.cells, Pt.slots] at X58 l58 y58 z58 st58 hQ58
      subst l58 y58 z58
      obtain ⟨rfl, N58q, e58⟩ := hQ58
      have N58 := Fr.app N56 N58q
      refine Go.tr st58 ?_
      show Go _ _ _ _ _ _ _ (T58.setTop (mkF m 143 #[.val (.int p1), .val (.int p2), .val (.int p3), .val (.int z), .val (.int (1 : Int32)), .val (.ref (own_pick (p2 &&& (3 : Int32)) wNO wBN wBT wCO)), .val .null, .val (.ref b35), .val (.ref b39), .val (.ref b42)] [(.ref (own_pick (p2 &&& (3 : Int32)) wNO wBN wBT wCO))]))
      refine Go.of (fun t k => XS.aload X58.here hx rfl (hb hby at_143) rfl rfl k) ?_
      show Go _ _ _ _ _ _ _ (T58.setTop (mkF m 145 #[.val (.int p1), .val (.int p2), .val (.int p3), .val (.int z), .val (.int (1 : Int32)), .val (.ref (own_pick (p2 &&& (3 : Int32)) wNO wBN wBT wCO)), .val .null, .val (.ref b35), .val (.ref b39), .val (.ref b42)] [(.ref (own_pick (p2 &&& (3 : Int32)) wNO wBN wBT wCO)), (.ref (own_pick (p2 &&& (3 : Int32)) wNO wBN wBT wCO))]))
      refine Go.of (fun t k => Jvm.RoadKit.acmp (g := (mkF m 145 #[.val (.int p1), .val (.int p2), .val (.int p3), .val (.int z), .val (.int (1 : Int32)), .val (.ref (own_pick (p2 &&& (3 : Int32)) wNO wBN wBT wCO)), .val .null, .val (.ref b35), .val (.ref b39), .val (.ref b42)] [(.ref (own_pick (p2 &&& (3 : Int32)) wNO wBN wBT wCO)), (.ref (own_pick (p2 &&& (3 : Int32)) wNO wBN wBT wCO))])) X58 hx rfl rfl rfl (pc0 := 145) (pc' := 148) (same := true) rfl (hb hby at_145) rfl (decide_eq_true rfl) (by decide) (by decide) k) ?_
      show Go _ _ _ _ _ _ _ (T58.setTop (mkF m 148 #[.val (.int p1), .val (.int p2), .val (.int p3), .val (.int z), .val (.int (1 : Int32)), .val (.ref (own_pick (p2 &&& (3 : Int32)) wNO wBN wBT wCO)), .val .null, .val (.ref b35), .val (.ref b39), .val (.ref b42)] []))
      refine Go.of (fun t k => XS.iconst X58.here hx rfl (hb hby at_148) k) ?_
      show Go _ _ _ _ _ _ _ (T58.setTop (mkF m 149 #[.val (.int p1), .val (.int p2), .val (.int p3), .val (.int z), .val (.int (1 : Int32)), .val (.ref (own_pick (p2 &&& (3 : Int32)) wNO wBN wBT wCO)), .val .null, .val (.ref b35), .val (.ref b39), .val (.ref b42)] [(.int (1 : Int32))]))
      refine Go.of (fun t k => XS.goto X58.here hx rfl (pc0 := 149) (pc' := 153) rfl (hb hby at_149) (by decide) (by decide) k) ?_
      show Go _ _ _ _ _ _ _ (T58.setTop (mkF m 153 #[.val (.int p1), .val (.int p2), .val (.int p3), .val (.int z), .val (.int (1 : Int32)), .val (.ref (own_pick (p2 &&& (3 : Int32)) wNO wBN wBT wCO)), .val .null, .val (.ref b35), .val (.ref b39), .val (.ref b42)] [(.int (1 : Int32))]))
      refine Go.out X58 (v := some (.int (1 : Int32))) (fun h => by rw [Bd.returns] at h; cases h) hlk (fun fs hr => retN X58 hx (t := .boolean) Bd.returns (by simp) (hb hby at_153) hr) ?_ (by decide) (by decide)
      show Q0 Z p1 p2 p3 wNO wBN wBT wCO wD cs h0 n0 _ T58.heap _
      rw [e58]
      exact ⟨rfl, N58⟩
  by_cases hc3_1 : (p1 &&& (1 : Int32)) = (0 : Int32)
  · skip
    refine Go.of (fun t k => XS.ifYes X0.here hx rfl (pc0 := 3) (pc' := 10) rfl (hb hby at_3) rfl ((if0 _ _).trans (teq hc3_1).1) (by decide) (by decide) k) ?_
    show Go _ _ _ _ _ _ _ (s₁.setTop (mkF m 10 #[.val (.int p1), .val (.int p2), .val (.int p3), .unset, .unset, .unset, .unset, .unset, .unset, .unset] []))
    refine Go.of (fun t k => XS.iconst X0.here hx rfl (hb hby at_10) k) ?_
    show Go _ _ _ _ _ _ _ (s₁.setTop (mkF m 11 #[.val (.int p1), .val (.int p2), .val (.int p3), .unset, .unset, .unset, .unset, .unset, .unset, .unset] [(.int (0 : Int32))]))
    exact k11_2 _ (Or.inl rfl)
  · skip
    refine Go.of (fun t k => XS.ifNo X0.here hx rfl (hb hby at_3) rfl ((if0 _ _).trans (feq hc3_1).1) k) ?_
    show Go _ _ _ _ _ _ _ (s₁.setTop (mkF m 6 #[.val (.int p1), .val (.int p2), .val (.int p3), .unset, .unset, .unset, .unset, .unset, .unset, .unset] []))
    refine Go.of (fun t k => XS.iconst X0.here hx rfl (hb hby at_6) k) ?_
    show Go _ _ _ _ _ _ _ (s₁.setTop (mkF m 7 #[.val (.int p1), .val (.int p2), .val (.int p3), .unset, .unset, .unset, .unset, .unset, .unset, .unset] [(.int (1 : Int32))]))
    refine Go.of (fun t k => XS.goto X0.here hx rfl (pc0 := 7) (pc' := 11) rfl (hb hby at_7) (by decide) (by decide) k) ?_
    show Go _ _ _ _ _ _ _ (s₁.setTop (mkF m 11 #[.val (.int p1), .val (.int p2), .val (.int p3), .unset, .unset, .unset, .unset, .unset, .unset, .unset] [(.int (1 : Int32))]))
    exact k11_2 _ (Or.inr rfl)
set_option maxRecDepth 65536 in
set_option maxHeartbeats 40000000 in
theorem comes_1 {Post : Tables → Env → Array Value → State → Outcome → State → Prop} (hpost : ∀ tb e args s v u, (limb_1_1.after args s (.returned v) u = true ∧ limb_1_2.after args s (.returned v) u = true ∧ True) → FrameEnd s (.returned v) u (Jvm.fieldLocs frame_1_writes args s ++ Jvm.arrayLocs frame_1_arrays args s ++ Jvm.staticLocs frame_1_statics s) 24 128 → Post tb e args s (.returned v) u) :
    ArmFor flags0 classFile x code maxLocals ret World_1 tables_1 room_1 Calls_1 rest_1 Pre_1 Post := by
  intro l hfl _ _ p e ha hc hk s m args below hf hA hF happ hP
  obtain ⟨hcalls, hrest, hpre⟩ := hP
  obtain ⟨-, -, -, hnamed, -, -, -, hat⟩ := (Spec.applies_iff hf).mp happ
  obtain ⟨hg, hn⟩ := and_e (Cond.before_iff.mp (show (Jvm.Cond.and given_1 narrow_1).before args s = true from hpre))
  obtain ⟨g1a, g1b⟩ := and_e hg
  obtain ⟨g2a, g2b⟩ := and_e g1b
  obtain ⟨g3a, g3b⟩ := and_e g2b
  obtain ⟨w0, w1, w2, rfl⟩ : ∃ w0 w1 w2 : Value, args = #[w0, w1, w2] := by
    have hs : args.size = 3 := by simpa [Cond.value, given_1] using g1a
    obtain ⟨L⟩ := args
    match L, hs with
    | [w0, w1, w2], _ => exact ⟨w0, w1, w2, rfl⟩
  have hw := fun d (hd : d ∈ tables_1) => atoms_spec (ws := Jvm.Cond.code x code maxLocals ret :: tables_1) hat d (List.mem_cons_of_mem _ hd)
  have hfit : Fit s := fun {y c} hc i hi => by
    obtain ⟨ha, rfl⟩ := Array.getElem?_eq_some_iff.mp hc
    have q := List.all_eq_true.mp ((Array.all_eq_true_iff_forall_mem.mp hF) _ (Array.getElem_mem ha)) i (List.mem_range.mpr hi)
    simpa [Array.getElem?_eq_getElem hi] using q
  obtain ⟨hsets, hown0⟩ := atoms_of _ (rest_1_c_eq ▸ (show rest_1_c.before _ s = true from hrest))
  have hr0 := Cond.before_iff.mp hown0
  obtain ⟨i0, ei0⟩ := is_v g2a
  obtain rfl : w0 = (.int i0) := Option.some.inj ei0
  obtain ⟨i1, ei1⟩ := is_v g3a
  obtain rfl : w1 = (.int i1) := Option.some.inj ei1
  obtain ⟨i2, ei2⟩ := is_v g3b
  obtain rfl : w2 = (.int i2) := Option.some.inj ei2
  obtain ⟨g4a, g4b⟩ := and_e hn
  obtain ⟨g5a, g5b⟩ := and_e g4b
  obtain ⟨g6a, g6b⟩ := and_e g5b
  obtain ⟨a3, ea3⟩ := exa_v g4a
  have S3 := Sta.start ea3 (Or.inr ⟨(hw _ (List.mem_of_getElem? (i := 5) rfl)), (hw _ (List.mem_of_getElem? (i := 6) rfl))⟩)
  obtain ⟨a0, ea0⟩ := exa_v g5a
  have S0 := Sta.start ea0 (Or.inr ⟨(hw _ (List.mem_of_getElem? (i := 5) rfl)), (hw _ (List.mem_of_getElem? (i := 103) rfl))⟩)
  obtain ⟨a2, ea2⟩ := exa_v g6a
  have S2 := Sta.start ea2 (Or.inr ⟨(hw _ (List.mem_of_getElem? (i := 5) rfl)), (hw _ (List.mem_of_getElem? (i := 105) rfl))⟩)
  obtain ⟨a1, ea1⟩ := exa_v g6b
  have S1 := Sta.start ea1 (Or.inr ⟨(hw _ (List.mem_of_getElem? (i := 5) rfl)), (hw _ (List.mem_of_getElem? (i := 107) rfl))⟩)
  obtain ⟨aD, eaD⟩ := exa_v (Cond.before_iff.mp (hsets _ (List.mem_of_getElem? (i := 7) rfl)))
  have SD := Sta.start eaD (Or.inr ⟨(hw _ (List.mem_of_getElem? (i := 9) rfl)), (hsets _ (List.mem_of_getElem? (i := 2) rfl))⟩)
  obtain ⟨cs, ecs⟩ := is_v (Cond.before_iff.mp (hsets _ (List.mem_of_getElem? (i := 10) rfl)))
  have S_cs := Sta.start ecs (Or.inl (hsets _ (List.mem_of_getElem? (i := 9) rfl)))
  have hcs : ¬ cs = (0 : Int32) := gotF (Cond.eq_ints ecs (Term.int_eval (0 : Int32))) (not_v (Cond.before_iff.mp (hsets _ (List.mem_of_getElem? (i := 11) rfl))))
  obtain ⟨n, o, h1, h2, h3, _, L, rfl, ⟨rfl, N⟩, hq⟩ := rm0 l s _ hw tables_1 i0 i1 i2 a0 a1 a2 a3 aD cs s.heap s.heap.size (Nat.le_refl _) (Old.start s) S0 S1 S2 S3 SD S_cs hcs p e ha hc hk s m _ below hf ((Spec.applies_iff_loose hf).mp happ).1 ⟨rfl, State.Warmed39.refl s, rfl⟩ trivial
  refine ⟨n, _, h1, h2, h3, hpost _ _ _ _ _ _ ⟨Cond.after_iff.mpr rfl, Cond.after_iff.mpr (eq_i res_at (Term.int_eval (1)) rfl), trivial⟩ ⟨hq.1, hq.2.1, (hq.2.2.sift fun y hy => Or.inr (N y hy)).mono (by decide) (by decide)⟩⟩
theorem main_1_1 : Claimed_1_1 := comes_1 fun _ _ _ _ _ _ h hF => ⟨h.1, hF⟩
theorem main_1_2 : Claimed_1_2 := comes_1 fun _ _ _ _ _ _ h hF => ⟨h.2.1, hF⟩
end Jvm.Pilot.@@N@@
namespace Jvm.Pilot.@@N@@
open Jvm Jvm.ClassFile Sem Op Lib Jvm.Free Jvm.Stand Jvm.Pilot.@@N@@.Jvm.D
/-! MADE BY PROGRAM (witnessworld.py) out of the Statement's table words and the real class files: 29 classes; the members and pool entries that the words name. The judged class is class 1, her method 1. -/
namespace start1
open Jvm.ClassFile
def u (s : String) : CpInfo := .utf8 (stringToUtf16 s)
/-- a pool by its gaps: so many unusable entries, then the entry; so many at the end -/
def gap : Nat → List CpInfo → List CpInfo
  | 0, r => r
  | n + 1, r => .unusable :: gap n r
def poolList (es : List (Nat × CpInfo)) (last : Nat) : List CpInfo := es.foldr (fun e r => gap e.1 (e.2 :: r)) (gap last [])
def pool (es : List (Nat × CpInfo)) (last : Nat) : Array CpInfo := ⟨poolList es last⟩
def fileOf (pool : Array CpInfo) (this : Nat) (attrs : Array Attribute := #[]) (ms : Array MethodInfo := #[]) (fl : Nat := 33) (sup : Nat := 0) (ifs : Array Nat := #[]) (fds : Array FieldInfo := #[]) : ClassFile where
  minorVersion := 0
  majorVersion := 65
  constantPool := pool
  accessFlags := fl
  thisClass := this
  superClass := sup
  interfaces := ifs
  fields := fds
  methods := ms
  attributes := attrs
def plain (name : String) (sup : Option ClassId) : Class where
  name := name
  kind := .ordinary
  loader := none
  accessFlags := 33
  super := sup
  interfaces := #[]
  cf := none
  fields := #[]
  methods := #[]
  instanceTypes := #[]
  staticTypes := #[]
  resolved := #[]
  callSites := []
  init := .initialized
  statics := none
  mirror := none

def pool0 : Array CpInfo := pool [(5, u "<init>"), (0, u "()V"), (1, .class_ 10), (1, u "java/lang/Object")] 113

def k0c0 : Code := { maxStack := 0, maxLocals := 1, code := object_method_1_code, exceptionTable := #[], attributes := #[] }
def k0m0 : Method := { name := "<init>", desc := "()V", sig := { parameters := [], returnType := none }, accessFlags := 1, code := some k0c0 }
/-- java/lang/Object -/
def k0 : Class := { plain "java/lang/Object" none with
  accessFlags := 33
  interfaces := #[]
  cf := some (fileOf pool0 8 #[] #[{ accessFlags := 1, nameIndex := 5, descriptorIndex := 6, attributes := #[] }] 33 0 #[] #[])
  fields := #[]
  methods := #[k0m0]
  instanceTypes := #[]
  staticTypes := #[]
  resolved := Array.replicate 124 none
  statics := none }

def pool1 : Array CpInfo := pool [(2, .class_ 4), (0, .nameAndType 5 6), (0, u "java/lang/Object"), (0, u "<init>"), (0, u "()V"), (0, .methodref 8 9), (0, .class_ 10), (0, .nameAndType 11 12), (0, u "com/example/hermit_crab/hermitcrab/xml/DefaultsForInnerBeansPinLaw"), (0, u "mode"), (0, u "(I)Lcom/example/hermit_crab/hermitcrab/definition/BeanDefinition$Autowiring$Mode;"), (0, .class_ 14), (0, u "java/util/ArrayList"), (0, .methodref 13 3), (0, .class_ 17), (0, u "com/example/hermit_crab/hermitcrab/xml/BeanElements$Defaults"), (0, .methodref 16 19), (0, .nameAndType 5 20), (0, u "(ZLjava/util/List;Lcom/example/hermit_crab/hermitcrab/definition/BeanDefinition$Autowiring$Mode;)V"), (0, .methodref 16 22), (0, .nameAndType 23 24), (0, u "forInnerBeans"), (0, u "()Lcom/example/hermit_crab/hermitcrab/xml/BeanElements$Defaults;"), (0, .methodref 26 27), (0, .class_ 28), (0, .nameAndType 29 30), (0, u "java/lang/String"), (0, u "valueOf"), (0, u "(C)Ljava/lang/String;"), (0, .methodref 16 32), (0, .nameAndType 33 34), (0, u "lazyInit"), (0, u "()Z"), (0, .methodref 16 36), (0, .nameAndType 37 38), (0, u "autowireCandidates"), (0, u "()Ljava/util/List;"), (0, .methodref 16 40), (0, .nameAndType 41 42), (0, u "autowire"), (0, u "()Lcom/example/hermit_crab/hermitcrab/definition/BeanDefinition$Autowiring$Mode;"), (0, .methodref 16 44), (0, .nameAndType 45 46), (0, u "isAutowireCandidate"), (0, u "(Ljava/lang/String;)Z"), (0, .fieldref 48 49), (0, .class_ 50), (0, .nameAndType 51 52), (0, u "com/example/hermit_crab/hermitcrab/definition/BeanDefinition$Autowiring$Mode"), (0, u "NO"), (0, u "Lcom/example/hermit_crab/hermitcrab/definition/BeanDefinition$Autowiring$Mode;"), (0, .fieldref 48 54), (0, .nameAndType 55 52), (0, u "BY_NAME"), (0, .fieldref 48 57), (0, .nameAndType 58 52), (0, u "BY_TYPE"), (0, .fieldref 48 60), (0, .nameAndType 61 52), (0, u "CONSTRUCTOR"), (2, u "law"), (0, u "(III)Z")] 15

def k1m0 : Method := { name := "<init>", desc := "()V", sig := { parameters := [], returnType := none }, accessFlags := 1, code := none }
def k1c1 : Code := { maxStack := 5, maxLocals := 10, code := code, exceptionTable := #[], attributes := #[] }
def k1m1 : Method := { name := "law", desc := "(III)Z", sig := { parameters := [.int, .int, .int], returnType := some .boolean }, accessFlags := 9, code := some k1c1 }
def k1c2 : Code := { maxStack := 2, maxLocals := 1, code := method_3_code, exceptionTable := #[], attributes := #[] }
def k1m2 : Method := { name := "mode", desc := "(I)Lcom/example/hermit_crab/hermitcrab/definition/BeanDefinition$Autowiring$Mode;", sig := { parameters := [.int], returnType := some (.object "com/example/hermit_crab/hermitcrab/definition/BeanDefinition$Autowiring$Mode") }, accessFlags := 10, code := some k1c2 }
/-- com/example/hermit_crab/hermitcrab/xml/DefaultsForInnerBeansPinLaw -/
def k1 : Class := { plain "com/example/hermit_crab/hermitcrab/xml/DefaultsForInnerBeansPinLaw" (some 0) with
  accessFlags := 49
  interfaces := #[]
  cf := some (fileOf pool1 8 #[] #[{ accessFlags := 1, nameIndex := 5, descriptorIndex := 6, attributes := #[] }, { accessFlags := 9, nameIndex := 64, descriptorIndex := 65, attributes := #[] }, { accessFlags := 10, nameIndex := 11, descriptorIndex := 12, attributes := #[] }] 49 2 #[] #[])
  fields := #[]
  methods := #[k1m0, k1m1, k1m2]
  instanceTypes := #[]
  staticTypes := #[]
  resolved := Array.replicate 81 none
  statics := none }

def pool2 : Array CpInfo := pool [(1, .class_ 2), (0, u "java/lang/constant/Constable"), (0, .class_ 4), (0, u "java/lang/Object")] 6

/-- java/lang/constant/Constable -/
def k2 : Class := { plain "java/lang/constant/Constable" (some 0) with
  accessFlags := 1537
  interfaces := #[]
  cf := some (fileOf pool2 1 #[] #[] 1537 3 #[] #[])
  fields := #[]
  methods := #[]
  instanceTypes := #[]
  staticTypes := #[]
  resolved := Array.replicate 11 none
  statics := none }

def pool3 : Array CpInfo := pool [(1, .class_ 2), (0, u "java/lang/Comparable"), (0, .class_ 4), (0, u "java/lang/Object")] 7

/-- java/lang/Comparable -/
def k3 : Class := { plain "java/lang/Comparable" (some 0) with
  accessFlags := 1537
  interfaces := #[]
  cf := some (fileOf pool3 1 #[] #[] 1537 3 #[] #[])
  fields := #[]
  methods := #[]
  instanceTypes := #[]
  staticTypes := #[]
  resolved := Array.replicate 12 none
  statics := none }

def pool4 : Array CpInfo := pool [(1, .class_ 2), (0, u "java/io/Serializable"), (0, .class_ 4), (0, u "java/lang/Object")] 2

/-- java/io/Serializable -/
def k4 : Class := { plain "java/io/Serializable" (some 0) with
  accessFlags := 1537
  interfaces := #[]
  cf := some (fileOf pool4 1 #[] #[] 1537 3 #[] #[])
  fields := #[]
  methods := #[]
  instanceTypes := #[]
  staticTypes := #[]
  resolved := Array.replicate 7 none
  statics := none }

def pool5 : Array CpInfo := pool [(2, .class_ 4), (1, u "java/lang/Enum"), (0, u "name"), (0, u "Ljava/lang/String;"), (2, u "ordinal"), (0, u "I"), (1, .class_ 14), (1, u "java/lang/Object"), (4, u "hash"), (86, .class_ 108), (1, u "java/lang/Enum$EnumDesc"), (2, .class_ 112), (0, u "java/lang/constant/Constable"), (0, .class_ 114), (0, u "java/lang/Comparable"), (0, .class_ 116), (0, u "java/io/Serializable")] 87

/-- java/lang/Enum -/
def k5 : Class := { plain "java/lang/Enum" (some 0) with
  accessFlags := 1057
  interfaces := #[2, 3, 4]
  cf := some (fileOf pool5 2 #[.nestMembers #[106]] #[] 1057 12 #[111, 113, 115] #[{ accessFlags := 18, nameIndex := 5, descriptorIndex := 6, attributes := #[] }, { accessFlags := 18, nameIndex := 9, descriptorIndex := 10, attributes := #[] }, { accessFlags := 2, nameIndex := 19, descriptorIndex := 10, attributes := #[] }])
  fields := #[{ name := "name", type := (.object "java/lang/String"), accessFlags := 18, slot := 0, constantValue := 0 }, { name := "ordinal", type := .int, accessFlags := 18, slot := 1, constantValue := 0 }, { name := "hash", type := .int, accessFlags := 2, slot := 2, constantValue := 0 }]
  methods := #[]
  instanceTypes := #[(.object "java/lang/String"), .int, .int]
  staticTypes := #[]
  resolved := Array.replicate 204 none
  statics := none }

def pool6 : Array CpInfo := pool [(1, .class_ 2), (0, u "com/example/hermit_crab/hermitcrab/definition/BeanDefinition$Autowiring$Mode"), (2, u "NO"), (0, u "Lcom/example/hermit_crab/hermitcrab/definition/BeanDefinition$Autowiring$Mode;"), (2, u "BY_NAME"), (2, u "BY_TYPE"), (2, u "CONSTRUCTOR"), (2, u "$VALUES"), (0, u "[Lcom/example/hermit_crab/hermitcrab/definition/BeanDefinition$Autowiring$Mode;"), (6, .class_ 28), (1, u "java/lang/Enum"), (27, .class_ 57), (0, u "com/example/hermit_crab/hermitcrab/definition/BeanDefinition")] 5

/-- com/example/hermit_crab/hermitcrab/definition/BeanDefinition$Autowiring$Mode -/
def k6 : Class := { plain "com/example/hermit_crab/hermitcrab/definition/BeanDefinition$Autowiring$Mode" (some 5) with
  accessFlags := 16433
  interfaces := #[]
  cf := some (fileOf pool6 1 #[.nestHost 56] #[] 16433 26 #[] #[{ accessFlags := 16409, nameIndex := 5, descriptorIndex := 6, attributes := #[] }, { accessFlags := 16409, nameIndex := 9, descriptorIndex := 6, attributes := #[] }, { accessFlags := 16409, nameIndex := 12, descriptorIndex := 6, attributes := #[] }, { accessFlags := 16409, nameIndex := 15, descriptorIndex := 6, attributes := #[] }, { accessFlags := 4122, nameIndex := 18, descriptorIndex := 19, attributes := #[] }])
  fields := #[{ name := "NO", type := (.object "com/example/hermit_crab/hermitcrab/definition/BeanDefinition$Autowiring$Mode"), accessFlags := 16409, slot := 0, constantValue := 0 }, { name := "BY_NAME", type := (.object "com/example/hermit_crab/hermitcrab/definition/BeanDefinition$Autowiring$Mode"), accessFlags := 16409, slot := 1, constantValue := 0 }, { name := "BY_TYPE", type := (.object "com/example/hermit_crab/hermitcrab/definition/BeanDefinition$Autowiring$Mode"), accessFlags := 16409, slot := 2, constantValue := 0 }, { name := "CONSTRUCTOR", type := (.object "com/example/hermit_crab/hermitcrab/definition/BeanDefinition$Autowiring$Mode"), accessFlags := 16409, slot := 3, constantValue := 0 }, { name := "$VALUES", type := (.array (.object "com/example/hermit_crab/hermitcrab/definition/BeanDefinition$Autowiring$Mode")), accessFlags := 4122, slot := 4, constantValue := 0 }]
  methods := #[]
  instanceTypes := #[(.object "java/lang/String"), .int, .int]
  staticTypes := #[(.object "com/example/hermit_crab/hermitcrab/definition/BeanDefinition$Autowiring$Mode"), (.object "com/example/hermit_crab/hermitcrab/definition/BeanDefinition$Autowiring$Mode"), (.object "com/example/hermit_crab/hermitcrab/definition/BeanDefinition$Autowiring$Mode"), (.object "com/example/hermit_crab/hermitcrab/definition/BeanDefinition$Autowiring$Mode"), (.array (.object "com/example/hermit_crab/hermitcrab/definition/BeanDefinition$Autowiring$Mode"))]
  resolved := Array.replicate 63 none
  statics := some 0 }

def pool7 : Array CpInfo := pool [(8, .class_ 10), (1, u "java/lang/Iterable"), (24, .class_ 36), (0, u "java/lang/Object")] 25

/-- java/lang/Iterable -/
def k7 : Class := { plain "java/lang/Iterable" (some 0) with
  accessFlags := 1537
  interfaces := #[]
  cf := some (fileOf pool7 8 #[] #[] 1537 35 #[] #[])
  fields := #[]
  methods := #[]
  instanceTypes := #[]
  staticTypes := #[]
  resolved := Array.replicate 62 none
  statics := none }

def pool8 : Array CpInfo := pool [(10, .class_ 12), (1, u "java/util/Collection"), (47, .class_ 61), (0, u "java/lang/Object"), (0, .class_ 63), (0, u "java/lang/Iterable")] 51

/-- java/util/Collection -/
def k8 : Class := { plain "java/util/Collection" (some 0) with
  accessFlags := 1537
  interfaces := #[7]
  cf := some (fileOf pool8 10 #[] #[] 1537 60 #[62] #[])
  fields := #[]
  methods := #[]
  instanceTypes := #[]
  staticTypes := #[]
  resolved := Array.replicate 115 none
  statics := none }

def pool9 : Array CpInfo := pool [(1, .methodref 2 3), (0, .class_ 4), (0, .nameAndType 5 6), (0, u "java/lang/Object"), (0, u "<init>"), (0, u "()V"), (1, .class_ 10), (1, u "java/util/AbstractCollection"), (66, .class_ 78), (0, u "java/util/Collection")] 81

def k9c0 : Code := { maxStack := 1, maxLocals := 1, code := jdk_22_method_1_code, exceptionTable := #[], attributes := #[] }
def k9m0 : Method := { name := "<init>", desc := "()V", sig := { parameters := [], returnType := none }, accessFlags := 4, code := some k9c0 }
/-- java/util/AbstractCollection -/
def k9 : Class := { plain "java/util/AbstractCollection" (some 0) with
  accessFlags := 1057
  interfaces := #[8]
  cf := some (fileOf pool9 8 #[] #[{ accessFlags := 4, nameIndex := 5, descriptorIndex := 6, attributes := #[] }] 1057 2 #[77] #[])
  fields := #[]
  methods := #[k9m0]
  instanceTypes := #[]
  staticTypes := #[]
  resolved := Array.replicate 160 none
  statics := none }

def pool10 : Array CpInfo := pool [(8, .class_ 10), (1, u "java/util/SequencedCollection"), (15, .class_ 27), (0, u "java/lang/Object"), (0, .class_ 29), (0, u "java/util/Collection")] 27

/-- java/util/SequencedCollection -/
def k10 : Class := { plain "java/util/SequencedCollection" (some 0) with
  accessFlags := 1537
  interfaces := #[8]
  cf := some (fileOf pool10 8 #[] #[] 1537 26 #[28] #[])
  fields := #[]
  methods := #[]
  instanceTypes := #[]
  staticTypes := #[]
  resolved := Array.replicate 57 none
  statics := none }

def pool11 : Array CpInfo := pool [(8, .class_ 10), (1, u "java/util/List"), (92, .class_ 104), (0, u "java/lang/Object"), (15, .class_ 121), (0, u "java/util/SequencedCollection")] 129

/-- java/util/List -/
def k11 : Class := { plain "java/util/List" (some 0) with
  accessFlags := 1537
  interfaces := #[10]
  cf := some (fileOf pool11 8 #[] #[] 1537 103 #[120] #[])
  fields := #[]
  methods := #[]
  instanceTypes := #[]
  staticTypes := #[]
  resolved := Array.replicate 251 none
  statics := none }

def pool12 : Array CpInfo := pool [(1, .methodref 2 3), (0, .class_ 4), (0, .nameAndType 5 6), (0, u "java/util/AbstractCollection"), (0, u "<init>"), (0, u "()V"), (0, .fieldref 8 9), (0, .class_ 10), (0, .nameAndType 11 12), (0, u "java/util/AbstractList"), (0, u "modCount"), (0, u "I"), (64, .class_ 78), (0, u "java/util/AbstractList$Itr"), (3, .class_ 83), (0, u "java/util/AbstractList$ListItr"), (9, .class_ 94), (0, u "java/util/AbstractList$RandomAccessSubList"), (3, .class_ 99), (0, u "java/util/AbstractList$SubList"), (33, .class_ 134), (0, u "java/util/List"), (73, .class_ 209), (0, u "java/util/AbstractList$SubList$1"), (0, .class_ 211), (0, u "java/util/AbstractList$RandomAccessSpliterator")] 6

def k12c0 : Code := { maxStack := 2, maxLocals := 1, code := jdk_39_method_1_code, exceptionTable := #[], attributes := #[] }
def k12m0 : Method := { name := "<init>", desc := "()V", sig := { parameters := [], returnType := none }, accessFlags := 4, code := some k12c0 }
/-- java/util/AbstractList -/
def k12 : Class := { plain "java/util/AbstractList" (some 9) with
  accessFlags := 1057
  interfaces := #[11]
  cf := some (fileOf pool12 8 #[.nestMembers #[93, 98, 208, 210, 82, 77]] #[{ accessFlags := 4, nameIndex := 5, descriptorIndex := 6, attributes := #[] }] 1057 2 #[133] #[{ accessFlags := 132, nameIndex := 11, descriptorIndex := 12, attributes := #[] }])
  fields := #[{ name := "modCount", type := .int, accessFlags := 132, slot := 0, constantValue := 0 }]
  methods := #[k12m0]
  instanceTypes := #[.int]
  staticTypes := #[]
  resolved := Array.replicate 218 none
  statics := none }

def pool13 : Array CpInfo := pool [(1, .class_ 2), (0, u "java/util/RandomAccess"), (0, .class_ 4), (0, u "java/lang/Object")] 2

/-- java/util/RandomAccess -/
def k13 : Class := { plain "java/util/RandomAccess" (some 0) with
  accessFlags := 1537
  interfaces := #[]
  cf := some (fileOf pool13 1 #[] #[] 1537 3 #[] #[])
  fields := #[]
  methods := #[]
  instanceTypes := #[]
  staticTypes := #[]
  resolved := Array.replicate 7 none
  statics := none }

def pool14 : Array CpInfo := pool [(1, .class_ 2), (0, u "java/lang/Cloneable"), (0, .class_ 4), (0, u "java/lang/Object")] 2

/-- java/lang/Cloneable -/
def k14 : Class := { plain "java/lang/Cloneable" (some 0) with
  accessFlags := 1537
  interfaces := #[]
  cf := some (fileOf pool14 1 #[] #[] 1537 3 #[] #[])
  fields := #[]
  methods := #[]
  instanceTypes := #[]
  staticTypes := #[]
  resolved := Array.replicate 7 none
  statics := none }

def pool15 : Array CpInfo := pool [(1, .methodref 2 3), (0, .class_ 4), (0, .nameAndType 5 6), (0, u "java/util/AbstractList"), (0, u "<init>"), (0, u "()V"), (2, .fieldref 10 11), (0, .class_ 12), (0, .nameAndType 13 14), (0, u "java/util/ArrayList"), (0, u "elementData"), (0, u "[Ljava/lang/Object;"), (2, u "EMPTY_ELEMENTDATA"), (21, .fieldref 10 40), (0, .nameAndType 41 14), (0, u "DEFAULTCAPACITY_EMPTY_ELEMENTDATA"), (8, u "size"), (0, u "I"), (96, .class_ 149), (0, u "java/util/List"), (112, .class_ 263), (0, u "java/util/ArrayList$ListItr"), (3, .class_ 268), (0, u "java/util/ArrayList$Itr"), (7, .class_ 277), (0, u "java/util/ArrayList$SubList"), (12, .class_ 291), (0, u "java/util/ArrayList$ArrayListSpliterator"), (37, .class_ 330), (0, u "java/util/RandomAccess"), (0, .class_ 332), (0, u "java/lang/Cloneable"), (0, .class_ 334), (0, u "java/io/Serializable"), (0, u "serialVersionUID"), (0, u "J"), (3, u "DEFAULT_CAPACITY"), (159, .class_ 501), (0, u "java/util/ArrayList$SubList$2"), (0, .class_ 503), (0, u "java/util/ArrayList$SubList$1")] 5

def k15c0 : Code := { maxStack := 2, maxLocals := 1, code := jdk_38_method_2_code, exceptionTable := #[], attributes := #[] }
def k15m0 : Method := { name := "<init>", desc := "()V", sig := { parameters := [], returnType := none }, accessFlags := 1, code := some k15c0 }
/-- java/util/ArrayList -/
def k15 : Class := { plain "java/util/ArrayList" (some 12) with
  accessFlags := 33
  interfaces := #[11, 13, 14, 4]
  cf := some (fileOf pool15 10 #[.nestMembers #[290, 276, 500, 502, 262, 267]] #[{ accessFlags := 1, nameIndex := 5, descriptorIndex := 6, attributes := #[] }] 33 2 #[148, 329, 331, 333] #[{ accessFlags := 26, nameIndex := 335, descriptorIndex := 336, attributes := #[] }, { accessFlags := 26, nameIndex := 340, descriptorIndex := 51, attributes := #[] }, { accessFlags := 26, nameIndex := 17, descriptorIndex := 14, attributes := #[] }, { accessFlags := 26, nameIndex := 41, descriptorIndex := 14, attributes := #[] }, { accessFlags := 128, nameIndex := 13, descriptorIndex := 14, attributes := #[] }, { accessFlags := 2, nameIndex := 50, descriptorIndex := 51, attributes := #[] }])
  fields := #[{ name := "serialVersionUID", type := .long, accessFlags := 26, slot := 0, constantValue := 0 }, { name := "DEFAULT_CAPACITY", type := .int, accessFlags := 26, slot := 1, constantValue := 0 }, { name := "EMPTY_ELEMENTDATA", type := (.array (.object "java/lang/Object")), accessFlags := 26, slot := 2, constantValue := 0 }, { name := "DEFAULTCAPACITY_EMPTY_ELEMENTDATA", type := (.array (.object "java/lang/Object")), accessFlags := 26, slot := 3, constantValue := 0 }, { name := "elementData", type := (.array (.object "java/lang/Object")), accessFlags := 128, slot := 1, constantValue := 0 }, { name := "size", type := .int, accessFlags := 2, slot := 2, constantValue := 0 }]
  methods := #[k15m0]
  instanceTypes := #[.int, (.array (.object "java/lang/Object")), .int]
  staticTypes := #[.long, .int, (.array (.object "java/lang/Object")), (.array (.object "java/lang/Object"))]
  resolved := Array.replicate 509 none
  statics := some 1 }

def pool16 : Array CpInfo := pool [(1, .methodref 2 3), (0, .class_ 4), (0, .nameAndType 5 6), (0, u "java/lang/Object"), (0, u "<init>"), (0, u "()V"), (0, .class_ 8), (0, u "java/lang/Record")] 13

def k16c0 : Code := { maxStack := 1, maxLocals := 1, code := jdk_30_method_1_code, exceptionTable := #[], attributes := #[] }
def k16m0 : Method := { name := "<init>", desc := "()V", sig := { parameters := [], returnType := none }, accessFlags := 4, code := some k16c0 }
/-- java/lang/Record -/
def k16 : Class := { plain "java/lang/Record" (some 0) with
  accessFlags := 1057
  interfaces := #[]
  cf := some (fileOf pool16 7 #[] #[{ accessFlags := 4, nameIndex := 5, descriptorIndex := 6, attributes := #[] }] 1057 2 #[] #[])
  fields := #[]
  methods := #[k16m0]
  instanceTypes := #[]
  staticTypes := #[]
  resolved := Array.replicate 22 none
  statics := none }

def pool17 : Array CpInfo := pool [(1, .methodref 2 3), (0, .class_ 4), (0, .nameAndType 5 6), (0, u "java/lang/Record"), (0, u "<init>"), (0, u "()V"), (0, .fieldref 8 9), (0, .class_ 10), (0, .nameAndType 11 12), (0, u "com/example/hermit_crab/hermitcrab/xml/BeanElements$Defaults"), (0, u "lazyInit"), (0, u "Z"), (0, .fieldref 8 14), (0, .nameAndType 15 16), (0, u "autowireCandidates"), (0, u "Ljava/util/List;"), (0, .fieldref 8 18), (0, .nameAndType 19 20), (0, u "autowire"), (0, u "Lcom/example/hermit_crab/hermitcrab/definition/BeanDefinition$Autowiring$Mode;"), (0, .methodref 8 22), (0, .nameAndType 5 23), (0, u "(ZLjava/util/List;Lcom/example/hermit_crab/hermitcrab/definition/BeanDefinition$Autowiring$Mode;)V"), (5, u "()Ljava/util/List;"), (9, u "()Z"), (9, u "(Ljava/lang/String;)Z"), (18, u "forInnerBeans"), (0, u "()Lcom/example/hermit_crab/hermitcrab/xml/BeanElements$Defaults;"), (2, u "isAutowireCandidate"), (4, u "()Lcom/example/hermit_crab/hermitcrab/definition/BeanDefinition$Autowiring$Mode;"), (3, .class_ 82), (0, u "com/example/hermit_crab/hermitcrab/xml/BeanElements")] 29

def k17c0 : Code := { maxStack := 2, maxLocals := 4, code := prog_111_method_1_code, exceptionTable := #[], attributes := #[] }
def k17m0 : Method := { name := "<init>", desc := "(ZLjava/util/List;Lcom/example/hermit_crab/hermitcrab/definition/BeanDefinition$Autowiring$Mode;)V", sig := { parameters := [.boolean, (.object "java/util/List"), (.object "com/example/hermit_crab/hermitcrab/definition/BeanDefinition$Autowiring$Mode")], returnType := none }, accessFlags := 0, code := some k17c0 }
def k17c1 : Code := { maxStack := 5, maxLocals := 1, code := prog_111_method_2_code, exceptionTable := #[], attributes := #[] }
def k17m1 : Method := { name := "forInnerBeans", desc := "()Lcom/example/hermit_crab/hermitcrab/xml/BeanElements$Defaults;", sig := { parameters := [], returnType := some (.object "com/example/hermit_crab/hermitcrab/xml/BeanElements$Defaults") }, accessFlags := 0, code := some k17c1 }
def k17c2 : Code := { maxStack := 2, maxLocals := 4, code := prog_111_method_4_code, exceptionTable := #[], attributes := #[] }
def k17m2 : Method := { name := "isAutowireCandidate", desc := "(Ljava/lang/String;)Z", sig := { parameters := [(.object "java/lang/String")], returnType := some .boolean }, accessFlags := 0, code := some k17c2 }
def k17c3 : Code := { maxStack := 1, maxLocals := 1, code := prog_111_method_8_code, exceptionTable := #[], attributes := #[] }
def k17m3 : Method := { name := "lazyInit", desc := "()Z", sig := { parameters := [], returnType := some .boolean }, accessFlags := 1, code := some k17c3 }
def k17c4 : Code := { maxStack := 1, maxLocals := 1, code := prog_111_method_9_code, exceptionTable := #[], attributes := #[] }
def k17m4 : Method := { name := "autowireCandidates", desc := "()Ljava/util/List;", sig := { parameters := [], returnType := some (.object "java/util/List") }, accessFlags := 1, code := some k17c4 }
def k17c5 : Code := { maxStack := 1, maxLocals := 1, code := prog_111_method_10_code, exceptionTable := #[], attributes := #[] }
def k17m5 : Method := { name := "autowire", desc := "()Lcom/example/hermit_crab/hermitcrab/definition/BeanDefinition$Autowiring$Mode;", sig := { parameters := [], returnType := some (.object "com/example/hermit_crab/hermitcrab/definition/BeanDefinition$Autowiring$Mode") }, accessFlags := 1, code := some k17c5 }
/-- com/example/hermit_crab/hermitcrab/xml/BeanElements$Defaults -/
def k17 : Class := { plain "com/example/hermit_crab/hermitcrab/xml/BeanElements$Defaults" (some 16) with
  accessFlags := 48
  interfaces := #[]
  cf := some (fileOf pool17 8 #[.nestHost 81] #[{ accessFlags := 0, nameIndex := 5, descriptorIndex := 23, attributes := #[] }, { accessFlags := 0, nameIndex := 68, descriptorIndex := 69, attributes := #[] }, { accessFlags := 0, nameIndex := 72, descriptorIndex := 49, attributes := #[] }, { accessFlags := 1, nameIndex := 11, descriptorIndex := 39, attributes := #[] }, { accessFlags := 1, nameIndex := 15, descriptorIndex := 29, attributes := #[] }, { accessFlags := 1, nameIndex := 19, descriptorIndex := 77, attributes := #[] }] 48 2 #[] #[{ accessFlags := 18, nameIndex := 11, descriptorIndex := 12, attributes := #[] }, { accessFlags := 18, nameIndex := 15, descriptorIndex := 16, attributes := #[] }, { accessFlags := 18, nameIndex := 19, descriptorIndex := 20, attributes := #[] }])
  fields := #[{ name := "lazyInit", type := .boolean, accessFlags := 18, slot := 0, constantValue := 0 }, { name := "autowireCandidates", type := (.object "java/util/List"), accessFlags := 18, slot := 1, constantValue := 0 }, { name := "autowire", type := (.object "com/example/hermit_crab/hermitcrab/definition/BeanDefinition$Autowiring$Mode"), accessFlags := 18, slot := 2, constantValue := 0 }]
  methods := #[k17m0, k17m1, k17m2, k17m3, k17m4, k17m5]
  instanceTypes := #[.boolean, (.object "java/util/List"), (.object "com/example/hermit_crab/hermitcrab/definition/BeanDefinition$Autowiring$Mode")]
  staticTypes := #[]
  resolved := Array.replicate 112 none
  statics := none }

def pool18 : Array CpInfo := pool [(2, .class_ 4), (1, u "java/lang/CharSequence"), (42, .class_ 48), (0, u "java/lang/CharSequence$1CodePointIterator"), (10, .class_ 60), (0, u "java/lang/CharSequence$1CharIterator"), (5, .class_ 67), (0, u "java/lang/Object")] 63

/-- java/lang/CharSequence -/
def k18 : Class := { plain "java/lang/CharSequence" (some 0) with
  accessFlags := 1537
  interfaces := #[]
  cf := some (fileOf pool18 2 #[.nestMembers #[47, 59]] #[] 1537 66 #[] #[])
  fields := #[]
  methods := #[]
  instanceTypes := #[]
  staticTypes := #[]
  resolved := Array.replicate 131 none
  statics := none }

def pool19 : Array CpInfo := pool [(1, .class_ 2), (0, u "java/lang/constant/ConstantDesc"), (0, .class_ 4), (0, u "java/lang/Object")] 32

/-- java/lang/constant/ConstantDesc -/
def k19 : Class := { plain "java/lang/constant/ConstantDesc" (some 0) with
  accessFlags := 1537
  interfaces := #[]
  cf := some (fileOf pool19 1 #[] #[] 1537 3 #[] #[])
  fields := #[]
  methods := #[]
  instanceTypes := #[]
  staticTypes := #[]
  resolved := Array.replicate 37 none
  statics := none }

def pool20 : Array CpInfo := pool [(1, .methodref 2 3), (0, .class_ 4), (0, .nameAndType 5 6), (0, u "java/lang/Object"), (0, u "<init>"), (0, u "()V"), (2, .fieldref 10 11), (0, .class_ 12), (0, .nameAndType 13 14), (0, u "java/lang/String"), (0, u "value"), (0, u "[B"), (0, .fieldref 10 16), (0, .nameAndType 17 18), (0, u "coder"), (0, u "B"), (2, u "hash"), (0, u "I"), (2, u "hashIsZero"), (0, u "Z"), (11, .fieldref 10 39), (0, .nameAndType 40 26), (0, u "COMPACT_STRINGS"), (12, u "toBytes"), (53, .class_ 109), (1, u "java/lang/StringLatin1"), (99, .methodref 10 210), (0, .nameAndType 5 211), (0, u "([BB)V"), (157, u "(C)Z"), (205, .class_ 576), (0, u "java/lang/CharSequence"), (22, u "CASE_INSENSITIVE_ORDER"), (0, u "Ljava/util/Comparator;"), (181, u "valueOf"), (0, u "(C)Ljava/lang/String;"), (231, .methodref 107 1016), (0, .nameAndType 1017 369), (0, u "canEncode"), (0, .methodref 107 1019), (0, .nameAndType 53 1020), (0, u "(C)[B"), (80, u "serialPersistentFields"), (0, u "[Ljava/io/ObjectStreamField;"), (0, .class_ 1104), (0, u "java/lang/String$CaseInsensitiveComparator"), (1, .class_ 1107), (0, u "java/io/Serializable"), (0, .class_ 1109), (0, u "java/lang/Comparable"), (0, .class_ 1111), (0, u "java/lang/constant/Constable"), (0, .class_ 1113), (0, u "java/lang/constant/ConstantDesc"), (2, u "serialVersionUID"), (0, u "J"), (3, u "REPL"), (0, u "C"), (2, u "LATIN1"), (1, u "UTF16")] 323

def k20m0 : Method := { name := "<init>", desc := "()V", sig := { parameters := [], returnType := none }, accessFlags := 1, code := none }
def k20c1 : Code := { maxStack := 4, maxLocals := 1, code := jdk_42_method_139_code, exceptionTable := #[], attributes := #[] }
def k20m1 : Method := { name := "valueOf", desc := "(C)Ljava/lang/String;", sig := { parameters := [.char], returnType := some (.object "java/lang/String") }, accessFlags := 9, code := some k20c1 }
def k20c2 : Code := { maxStack := 2, maxLocals := 3, code := jdk_42_method_151_code, exceptionTable := #[], attributes := #[] }
def k20m2 : Method := { name := "<init>", desc := "([BB)V", sig := { parameters := [(.array .byte), .byte], returnType := none }, accessFlags := 0, code := some k20c2 }
/-- java/lang/String -/
def k20 : Class := { plain "java/lang/String" (some 0) with
  accessFlags := 49
  interfaces := #[4, 3, 18, 2, 19]
  cf := some (fileOf pool20 10 #[.nestMembers #[1103]] #[{ accessFlags := 1, nameIndex := 5, descriptorIndex := 6, attributes := #[] }, { accessFlags := 9, nameIndex := 782, descriptorIndex := 783, attributes := #[] }, { accessFlags := 0, nameIndex := 5, descriptorIndex := 211, attributes := #[] }] 49 2 #[1106, 1108, 575, 1110, 1112] #[{ accessFlags := 18, nameIndex := 13, descriptorIndex := 14, attributes := #[] }, { accessFlags := 18, nameIndex := 17, descriptorIndex := 18, attributes := #[] }, { accessFlags := 2, nameIndex := 21, descriptorIndex := 22, attributes := #[] }, { accessFlags := 2, nameIndex := 25, descriptorIndex := 26, attributes := #[] }, { accessFlags := 26, nameIndex := 1116, descriptorIndex := 1117, attributes := #[] }, { accessFlags := 24, nameIndex := 40, descriptorIndex := 26, attributes := #[] }, { accessFlags := 26, nameIndex := 1101, descriptorIndex := 1102, attributes := #[] }, { accessFlags := 26, nameIndex := 1121, descriptorIndex := 1122, attributes := #[] }, { accessFlags := 25, nameIndex := 599, descriptorIndex := 600, attributes := #[] }, { accessFlags := 24, nameIndex := 1125, descriptorIndex := 18, attributes := #[] }, { accessFlags := 24, nameIndex := 1127, descriptorIndex := 18, attributes := #[] }])
  fields := #[{ name := "value", type := (.array .byte), accessFlags := 18, slot := 0, constantValue := 0 }, { name := "coder", type := .byte, accessFlags := 18, slot := 1, constantValue := 0 }, { name := "hash", type := .int, accessFlags := 2, slot := 2, constantValue := 0 }, { name := "hashIsZero", type := .boolean, accessFlags := 2, slot := 3, constantValue := 0 }, { name := "serialVersionUID", type := .long, accessFlags := 26, slot := 0, constantValue := 0 }, { name := "COMPACT_STRINGS", type := .boolean, accessFlags := 24, slot := 1, constantValue := 0 }, { name := "serialPersistentFields", type := (.array (.object "java/io/ObjectStreamField")), accessFlags := 26, slot := 2, constantValue := 0 }, { name := "REPL", type := .char, accessFlags := 26, slot := 3, constantValue := 0 }, { name := "CASE_INSENSITIVE_ORDER", type := (.object "java/util/Comparator"), accessFlags := 25, slot := 4, constantValue := 0 }, { name := "LATIN1", type := .byte, accessFlags := 24, slot := 5, constantValue := 0 }, { name := "UTF16", type := .byte, accessFlags := 24, slot := 6, constantValue := 0 }]
  methods := #[k20m0, k20m1, k20m2]
  instanceTypes := #[(.array .byte), .byte, .int, .boolean]
  staticTypes := #[.long, .boolean, (.array (.object "java/io/ObjectStreamField")), .char, (.object "java/util/Comparator"), .byte, .byte]
  resolved := Array.replicate 1451 none
  statics := some 2 }

def pool21 : Array CpInfo := pool [(4, .class_ 6), (1, u "java/lang/Object"), (0, u "<init>"), (0, u "()V"), (5, .class_ 16), (1, u "java/lang/StringLatin1"), (73, u "canEncode"), (14, u "(C)Z"), (15, u "$assertionsDisabled"), (0, u "Z"), (98, .class_ 223), (1, u "java/lang/StringLatin1$LinesSpliterator"), (156, u "toBytes"), (1, u "(C)[B"), (7, .class_ 391), (0, u "java/lang/StringLatin1$CharsSpliterator")] 3

def k21m0 : Method := { name := "<init>", desc := "()V", sig := { parameters := [], returnType := none }, accessFlags := 0, code := none }
def k21c1 : Code := { maxStack := 2, maxLocals := 1, code := jdk_43_method_3_code, exceptionTable := #[], attributes := #[] }
def k21m1 : Method := { name := "canEncode", desc := "(C)Z", sig := { parameters := [.char], returnType := some .boolean }, accessFlags := 9, code := some k21c1 }
def k21c2 : Code := { maxStack := 4, maxLocals := 1, code := jdk_43_method_46_code, exceptionTable := #[], attributes := #[] }
def k21m2 : Method := { name := "toBytes", desc := "(C)[B", sig := { parameters := [.char], returnType := some (.array .byte) }, accessFlags := 9, code := some k21c2 }
/-- java/lang/StringLatin1 -/
def k21 : Class := { plain "java/lang/StringLatin1" (some 0) with
  accessFlags := 48
  interfaces := #[]
  cf := some (fileOf pool21 14 #[.nestMembers #[390, 221]] #[{ accessFlags := 0, nameIndex := 7, descriptorIndex := 8, attributes := #[] }, { accessFlags := 9, nameIndex := 90, descriptorIndex := 105, attributes := #[] }, { accessFlags := 9, nameIndex := 380, descriptorIndex := 382, attributes := #[] }] 48 4 #[] #[{ accessFlags := 4120, nameIndex := 121, descriptorIndex := 122, attributes := #[] }])
  fields := #[{ name := "$assertionsDisabled", type := .boolean, accessFlags := 4120, slot := 0, constantValue := 0 }]
  methods := #[k21m0, k21m1, k21m2]
  instanceTypes := #[]
  staticTypes := #[.boolean]
  resolved := Array.replicate 395 none
  statics := none }

def pool22 : Array CpInfo := pool [(2, .class_ 4), (1, u "java/lang/Object"), (0, u "<init>"), (0, u "()V"), (17, .class_ 26), (1, u "jdk/internal/util/Preconditions"), (28, .class_ 56), (0, u "jdk/internal/util/Preconditions$4"), (57, .class_ 115), (0, u "jdk/internal/util/Preconditions$1"), (7, u "SIOOBE_FORMATTER"), (0, u "Ljava/util/function/BiFunction;"), (0, .class_ 126), (0, u "jdk/internal/util/Preconditions$2"), (3, u "AIOOBE_FORMATTER"), (0, .class_ 132), (0, u "jdk/internal/util/Preconditions$3"), (3, u "IOOBE_FORMATTER")] 57

def k22m0 : Method := { name := "<init>", desc := "()V", sig := { parameters := [], returnType := none }, accessFlags := 1, code := none }
/-- jdk/internal/util/Preconditions -/
def k22 : Class := { plain "jdk/internal/util/Preconditions" (some 0) with
  accessFlags := 33
  interfaces := #[]
  cf := some (fileOf pool22 24 #[.nestMembers #[55, 131, 125, 114]] #[{ accessFlags := 1, nameIndex := 5, descriptorIndex := 6, attributes := #[] }] 33 2 #[] #[{ accessFlags := 25, nameIndex := 123, descriptorIndex := 124, attributes := #[] }, { accessFlags := 25, nameIndex := 130, descriptorIndex := 124, attributes := #[] }, { accessFlags := 25, nameIndex := 136, descriptorIndex := 124, attributes := #[] }])
  fields := #[{ name := "SIOOBE_FORMATTER", type := (.object "java/util/function/BiFunction"), accessFlags := 25, slot := 0, constantValue := 0 }, { name := "AIOOBE_FORMATTER", type := (.object "java/util/function/BiFunction"), accessFlags := 25, slot := 1, constantValue := 0 }, { name := "IOOBE_FORMATTER", type := (.object "java/util/function/BiFunction"), accessFlags := 25, slot := 2, constantValue := 0 }]
  methods := #[k22m0]
  instanceTypes := #[]
  staticTypes := #[(.object "java/util/function/BiFunction"), (.object "java/util/function/BiFunction"), (.object "java/util/function/BiFunction")]
  resolved := Array.replicate 194 none
  statics := some 3 }

def pool23 : Array CpInfo := pool [(9, u "<init>"), (6, .class_ 18), (1, u "java/lang/Object"), (0, u "()V"), (1, .class_ 23), (1, u "jdk/internal/util/ArraysSupport"), (0, u "LOG2_ARRAY_LONG_INDEX_SCALE"), (0, u "I"), (2, u "U"), (0, u "Ljdk/internal/misc/Unsafe;"), (8, u "BIG_ENDIAN"), (0, u "Z"), (8, u "LOG2_BYTE_BIT_SIZE"), (4, u "LOG2_ARRAY_INT_INDEX_SCALE"), (54, u "JLA"), (0, u "Ljdk/internal/access/JavaLangAccess;"), (11, u "LOG2_ARRAY_BOOLEAN_INDEX_SCALE"), (9, u "LOG2_ARRAY_BYTE_INDEX_SCALE"), (5, u "LOG2_ARRAY_CHAR_INDEX_SCALE"), (5, u "LOG2_ARRAY_SHORT_INDEX_SCALE"), (18, u "LOG2_ARRAY_FLOAT_INDEX_SCALE"), (24, u "LOG2_ARRAY_DOUBLE_INDEX_SCALE"), (89, u "T_BOOLEAN"), (2, u "T_CHAR"), (1, u "T_FLOAT"), (1, u "T_DOUBLE"), (1, u "T_BYTE"), (1, u "T_SHORT"), (1, u "T_INT"), (1, u "T_LONG"), (1, u "SOFT_MAX_ARRAY_LENGTH")] 83

def k23m0 : Method := { name := "<init>", desc := "()V", sig := { parameters := [], returnType := none }, accessFlags := 2, code := none }
/-- jdk/internal/util/ArraysSupport -/
def k23 : Class := { plain "jdk/internal/util/ArraysSupport" (some 0) with
  accessFlags := 33
  interfaces := #[]
  cf := some (fileOf pool23 21 #[] #[{ accessFlags := 2, nameIndex := 9, descriptorIndex := 19, attributes := #[] }] 33 16 #[] #[{ accessFlags := 24, nameIndex := 28, descriptorIndex := 29, attributes := #[] }, { accessFlags := 26, nameIndex := 38, descriptorIndex := 39, attributes := #[] }, { accessFlags := 25, nameIndex := 121, descriptorIndex := 25, attributes := #[] }, { accessFlags := 25, nameIndex := 131, descriptorIndex := 25, attributes := #[] }, { accessFlags := 25, nameIndex := 137, descriptorIndex := 25, attributes := #[] }, { accessFlags := 25, nameIndex := 143, descriptorIndex := 25, attributes := #[] }, { accessFlags := 25, nameIndex := 53, descriptorIndex := 25, attributes := #[] }, { accessFlags := 25, nameIndex := 24, descriptorIndex := 25, attributes := #[] }, { accessFlags := 25, nameIndex := 162, descriptorIndex := 25, attributes := #[] }, { accessFlags := 25, nameIndex := 187, descriptorIndex := 25, attributes := #[] }, { accessFlags := 26, nameIndex := 48, descriptorIndex := 25, attributes := #[] }, { accessFlags := 25, nameIndex := 277, descriptorIndex := 25, attributes := #[] }, { accessFlags := 25, nameIndex := 280, descriptorIndex := 25, attributes := #[] }, { accessFlags := 25, nameIndex := 282, descriptorIndex := 25, attributes := #[] }, { accessFlags := 25, nameIndex := 284, descriptorIndex := 25, attributes := #[] }, { accessFlags := 25, nameIndex := 286, descriptorIndex := 25, attributes := #[] }, { accessFlags := 25, nameIndex := 288, descriptorIndex := 25, attributes := #[] }, { accessFlags := 25, nameIndex := 290, descriptorIndex := 25, attributes := #[] }, { accessFlags := 25, nameIndex := 292, descriptorIndex := 25, attributes := #[] }, { accessFlags := 26, nameIndex := 108, descriptorIndex := 109, attributes := #[] }, { accessFlags := 25, nameIndex := 294, descriptorIndex := 25, attributes := #[] }])
  fields := #[{ name := "U", type := (.object "jdk/internal/misc/Unsafe"), accessFlags := 24, slot := 0, constantValue := 0 }, { name := "BIG_ENDIAN", type := .boolean, accessFlags := 26, slot := 1, constantValue := 0 }, { name := "LOG2_ARRAY_BOOLEAN_INDEX_SCALE", type := .int, accessFlags := 25, slot := 2, constantValue := 0 }, { name := "LOG2_ARRAY_BYTE_INDEX_SCALE", type := .int, accessFlags := 25, slot := 3, constantValue := 0 }, { name := "LOG2_ARRAY_CHAR_INDEX_SCALE", type := .int, accessFlags := 25, slot := 4, constantValue := 0 }, { name := "LOG2_ARRAY_SHORT_INDEX_SCALE", type := .int, accessFlags := 25, slot := 5, constantValue := 0 }, { name := "LOG2_ARRAY_INT_INDEX_SCALE", type := .int, accessFlags := 25, slot := 6, constantValue := 0 }, { name := "LOG2_ARRAY_LONG_INDEX_SCALE", type := .int, accessFlags := 25, slot := 7, constantValue := 0 }, { name := "LOG2_ARRAY_FLOAT_INDEX_SCALE", type := .int, accessFlags := 25, slot := 8, constantValue := 0 }, { name := "LOG2_ARRAY_DOUBLE_INDEX_SCALE", type := .int, accessFlags := 25, slot := 9, constantValue := 0 }, { name := "LOG2_BYTE_BIT_SIZE", type := .int, accessFlags := 26, slot := 10, constantValue := 0 }, { name := "T_BOOLEAN", type := .int, accessFlags := 25, slot := 11, constantValue := 0 }, { name := "T_CHAR", type := .int, accessFlags := 25, slot := 12, constantValue := 0 }, { name := "T_FLOAT", type := .int, accessFlags := 25, slot := 13, constantValue := 0 }, { name := "T_DOUBLE", type := .int, accessFlags := 25, slot := 14, constantValue := 0 }, { name := "T_BYTE", type := .int, accessFlags := 25, slot := 15, constantValue := 0 }, { name := "T_SHORT", type := .int, accessFlags := 25, slot := 16, constantValue := 0 }, { name := "T_INT", type := .int, accessFlags := 25, slot := 17, constantValue := 0 }, { name := "T_LONG", type := .int, accessFlags := 25, slot := 18, constantValue := 0 }, { name := "JLA", type := (.object "jdk/internal/access/JavaLangAccess"), accessFlags := 26, slot := 19, constantValue := 0 }, { name := "SOFT_MAX_ARRAY_LENGTH", type := .int, accessFlags := 25, slot := 20, constantValue := 0 }]
  methods := #[k23m0]
  instanceTypes := #[]
  staticTypes := #[(.object "jdk/internal/misc/Unsafe"), .boolean, .int, .int, .int, .int, .int, .int, .int, .int, .int, .int, .int, .int, .int, .int, .int, .int, .int, (.object "jdk/internal/access/JavaLangAccess"), .int]
  resolved := Array.replicate 378 none
  statics := none }

/-- the primitive byte -/
def k24 : Class := { plain "byte" none with kind := .primitive 'B', accessFlags := 0x411 }
/-- [B -/
def k25 : Class := { plain "[B" (some 0) with kind := .array 24 .byte, interfaces := #[14, 4], accessFlags := 1041 }

/-- the primitive int -/
def k26 : Class := { plain "int" none with kind := .primitive 'I', accessFlags := 0x411 }
/-- [I -/
def k27 : Class := { plain "[I" (some 0) with kind := .array 26 .int, interfaces := #[14, 4], accessFlags := 1041 }

/-- [Ljava/lang/Object; -/
def k28 : Class := { plain "[Ljava/lang/Object;" (some 0) with kind := .array 0 (.object "java/lang/Object"), interfaces := #[14, 4], accessFlags := 1041 }

def heap : Heap := #[{ cls := 6, slots := #[.ref 4, .ref 5, .ref 6, .ref 7, .null], vm := .statics 6 },
  { cls := 15, slots := #[.long 0, .int 0, .ref 8, .ref 9], vm := .statics 15 },
  { cls := 20, slots := #[.long 0, .int 1, .null, .int 0, .null, .int 0, .int 0], vm := .statics 20 },
  { cls := 22, slots := #[.null, .null, .null], vm := .statics 22 },
  { cls := 6, slots := #[.null, .int 0, .int 0], vm := .none },
  { cls := 6, slots := #[.null, .int 1, .int 0], vm := .none },
  { cls := 6, slots := #[.null, .int 2, .int 0], vm := .none },
  { cls := 6, slots := #[.null, .int 3, .int 0], vm := .none },
  { cls := 28, slots := #[], vm := .none },
  { cls := 28, slots := #[], vm := .none }]
def classes : Array Class := #[k0, k1, k2, k3, k4, k5, k6, k7, k8, k9, k10, k11, k12, k13, k14, k15, k16, k17, k18, k19, k20, k21, k22, k23, k24, k25, k26, k27, k28]
def interned : List (Array UInt16 × Addr) := []
def slotsUsed : Nat := 31
def theMethod : MethodId := ⟨1, 1⟩
def args0 : Array Value := #[.int 5, .int 5, .int 5]
def aboutOver (below : List Frame) : State where
  vm := { classes := classes, interned := interned.toArray }
  heap := heap
  slotsUsed := slotsUsed
  threads := #[{ frames := .invoking theMethod args0 :: below }]
def below0 : List Frame := [.native { method := ⟨0, 0⟩, args := #[] }]
def about1 : State := aboutOver below0
def p0 : Program := .bare "" "" ""
def e0 : Env := launch0.env 0 0 0
theorem w_frames : about1.frames = Frame.invoking theMethod args0 :: below0 := rfl
set_option maxRecDepth 65536 in
theorem w_args : argsFit about1.vm theMethod args0 = true := by decide +kernel
set_option maxRecDepth 65536 in
theorem w_heap : heapFits about1 = true := by decide +kernel
set_option maxRecDepth 65536 in
theorem w_runnable : about1.curStatus? = some .runnable := by decide +kernel
set_option maxRecDepth 65536 in
theorem w_alone : about1.alone = true := by decide +kernel
set_option maxRecDepth 65536 in
theorem w_named : about1.methodNamed? x = some theMethod := by decide +kernel
set_option maxRecDepth 65536 in
theorem w_hears : about1.hears theMethod below0 = true := by decide +kernel
set_option maxRecDepth 65536 in
theorem w_ripe : about1.ripe theMethod args0 below0 = true := by decide +kernel
theorem w_running : about1.status = .running := rfl
set_option maxRecDepth 65536 in
theorem w_room : about1.hasRoom e0.platform room_1 = true :=
  launch0.hasRoom_least _ room_1 (by decide +kernel) (by decide +kernel) (by decide +kernel) (by decide +kernel) (by decide +kernel) (by decide +kernel)
theorem allAtoms_all (ts : List Jvm.Cond) (a : Array Jvm.Value) (st : Jvm.State) : (allAtoms ts).before a st = ts.all (fun c => c.before a st) := by
  induction ts with
  | nil => rfl
  | cons c t ih =>
    show (Jvm.Cond.and c (allAtoms t)).before a st = _
    rw [Jvm.Cond.before_and, ih, List.all_cons]
def words1 : List Jvm.Cond := Jvm.Cond.code x code maxLocals ret :: tables_1
/-- a 'code' word, met by the world's own term for the bytes: nothing is compared byte by byte -/
theorem code_word {y : MethodName} {bytes : ByteArray} {mx : Nat} {rt : Option FieldType} {a : Array Value} {s : State} {m : MethodId} {meth : Method} {c : Code} (h1 : s.methodNamed? y = some m) (h2 : s.vm.method? m = some meth) (h3 : meth.code = some c) (h4 : c.code = bytes)
    (h5 : (c.maxLocals == mx && c.exceptionTable.isEmpty && decide (c.maxStack ≤ mostOperands) && decide (meth.sig.returnType = rt) && !meth.locks && decide (parseMethodDescriptor y.desc = some meth.sig)) = true) : (Jvm.Cond.code y bytes mx rt).before a s = true := by
  simp only [Bool.and_eq_true, beq_iff_eq, Bool.not_eq_true', decide_eq_true_eq] at h5
  obtain ⟨⟨⟨⟨⟨g1, g2⟩, g3⟩, g4⟩, g5⟩, g6⟩ := h5
  simp [Cond.before, Cond.holds, Cond.value, h1, h2, h3, h4, g1, g2, g3, g4, g5, g6]
def isCode : Jvm.Cond → Bool
  | .code _ _ _ _ => true
  | _ => false
theorem all_split {L : List Jvm.Cond} {P : Jvm.Cond → Bool} (h1 : L.all (fun c => isCode c || P c) = true) (h2 : ∀ c ∈ L.filter isCode, P c = true) : L.all P = true := by
  refine List.all_eq_true.mpr fun c hc => ?_
  have h := List.all_eq_true.mp h1 c hc
  rcases Bool.eq_false_or_eq_true (isCode c) with hi | hi
  · exact h2 c (List.mem_filter.mpr ⟨hc, hi⟩)
  · simpa [hi] using h
set_option maxRecDepth 65536 in
theorem w_c0 : (Jvm.Cond.code x code maxLocals ret).before args0 about1 = true := code_word (m := ⟨1, 1⟩) (meth := k1m1) (c := k1c1) (by decide +kernel) rfl rfl rfl (by decide +kernel)
set_option maxRecDepth 65536 in
theorem w_c1 : (Jvm.Cond.code ({ cls := "com/example/hermit_crab/hermitcrab/xml/DefaultsForInnerBeansPinLaw", name := "mode", desc := "(I)Lcom/example/hermit_crab/hermitcrab/definition/BeanDefinition$Autowiring$Mode;" } : Jvm.MethodName) method_3_code (1 : Nat) (Option.some (Jvm.ClassFile.FieldType.object "com/example/hermit_crab/hermitcrab/definition/BeanDefinition$Autowiring$Mode"))).before args0 about1 = true := code_word (m := ⟨1, 2⟩) (meth := k1m2) (c := k1c2) (by decide +kernel) rfl rfl rfl (by decide +kernel)
set_option maxRecDepth 65536 in
theorem w_c2 : (Jvm.Cond.code ({ cls := "java/util/ArrayList", name := "<init>", desc := "()V" } : Jvm.MethodName) jdk_38_method_2_code (1 : Nat) (Option.none : Option Jvm.ClassFile.FieldType)).before args0 about1 = true := code_word (m := ⟨15, 0⟩) (meth := k15m0) (c := k15c0) (by decide +kernel) rfl rfl rfl (by decide +kernel)
set_option maxRecDepth 65536 in
theorem w_c3 : (Jvm.Cond.code ({ cls := "java/util/AbstractList", name := "<init>", desc := "()V" } : Jvm.MethodName) jdk_39_method_1_code (1 : Nat) (Option.none : Option Jvm.ClassFile.FieldType)).before args0 about1 = true := code_word (m := ⟨12, 0⟩) (meth := k12m0) (c := k12c0) (by decide +kernel) rfl rfl rfl (by decide +kernel)
set_option maxRecDepth 65536 in
theorem w_c4 : (Jvm.Cond.code ({ cls := "java/util/AbstractCollection", name := "<init>", desc := "()V" } : Jvm.MethodName) jdk_22_method_1_code (1 : Nat) (Option.none : Option Jvm.ClassFile.FieldType)).before args0 about1 = true := code_word (m := ⟨9, 0⟩) (meth := k9m0) (c := k9c0) (by decide +kernel) rfl rfl rfl (by decide +kernel)
set_option maxRecDepth 65536 in
theorem w_c5 : (Jvm.Cond.code ({ cls := "java/lang/Object", name := "<init>", desc := "()V" } : Jvm.MethodName) object_method_1_code (1 : Nat) (Option.none : Option Jvm.ClassFile.FieldType)).before args0 about1 = true := code_word (m := ⟨0, 0⟩) (meth := k0m0) (c := k0c0) (by decide +kernel) rfl rfl rfl (by decide +kernel)
set_option maxRecDepth 65536 in
theorem w_c6 : (Jvm.Cond.code ({ cls := "com/example/hermit_crab/hermitcrab/xml/BeanElements$Defaults", name := "<init>", desc := "(ZLjava/util/List;Lcom/example/hermit_crab/hermitcrab/definition/BeanDefinition$Autowiring$Mode;)V" } : Jvm.MethodName) prog_111_method_1_code (4 : Nat) (Option.none : Option Jvm.ClassFile.FieldType)).before args0 about1 = true := code_word (m := ⟨17, 0⟩) (meth := k17m0) (c := k17c0) (by decide +kernel) rfl rfl rfl (by decide +kernel)
set_option maxRecDepth 65536 in
theorem w_c7 : (Jvm.Cond.code ({ cls := "java/lang/Record", name := "<init>", desc := "()V" } : Jvm.MethodName) jdk_30_method_1_code (1 : Nat) (Option.none : Option Jvm.ClassFile.FieldType)).before args0 about1 = true := code_word (m := ⟨16, 0⟩) (meth := k16m0) (c := k16c0) (by decide +kernel) rfl rfl rfl (by decide +kernel)
set_option maxRecDepth 65536 in
theorem w_c8 : (Jvm.Cond.code ({ cls := "com/example/hermit_crab/hermitcrab/xml/BeanElements$Defaults", name := "forInnerBeans", desc := "()Lcom/example/hermit_crab/hermitcrab/xml/BeanElements$Defaults;" } : Jvm.MethodName) prog_111_method_2_code (1 : Nat) (Option.some (Jvm.ClassFile.FieldType.object "com/example/hermit_crab/hermitcrab/xml/BeanElements$Defaults"))).before args0 about1 = true := code_word (m := ⟨17, 1⟩) (meth := k17m1) (c := k17c1) (by decide +kernel) rfl rfl rfl (by decide +kernel)
set_option maxRecDepth 65536 in
theorem w_c9 : (Jvm.Cond.code ({ cls := "java/lang/String", name := "valueOf", desc := "(C)Ljava/lang/String;" } : Jvm.MethodName) jdk_42_method_139_code (1 : Nat) (Option.some (Jvm.ClassFile.FieldType.object "java/lang/String"))).before args0 about1 = true := code_word (m := ⟨20, 1⟩) (meth := k20m1) (c := k20c1) (by decide +kernel) rfl rfl rfl (by decide +kernel)
set_option maxRecDepth 65536 in
theorem w_c10 : (Jvm.Cond.code ({ cls := "java/lang/StringLatin1", name := "canEncode", desc := "(C)Z" } : Jvm.MethodName) jdk_43_method_3_code (1 : Nat) (Option.some Jvm.ClassFile.FieldType.boolean)).before args0 about1 = true := code_word (m := ⟨21, 1⟩) (meth := k21m1) (c := k21c1) (by decide +kernel) rfl rfl rfl (by decide +kernel)
set_option maxRecDepth 65536 in
theorem w_c11 : (Jvm.Cond.code ({ cls := "java/lang/StringLatin1", name := "toBytes", desc := "(C)[B" } : Jvm.MethodName) jdk_43_method_46_code (1 : Nat) (Option.some (Jvm.ClassFile.FieldType.array Jvm.ClassFile.FieldType.byte))).before args0 about1 = true := code_word (m := ⟨21, 2⟩) (meth := k21m2) (c := k21c2) (by decide +kernel) rfl rfl rfl (by decide +kernel)
set_option maxRecDepth 65536 in
theorem w_c12 : (Jvm.Cond.code ({ cls := "java/lang/String", name := "<init>", desc := "([BB)V" } : Jvm.MethodName) jdk_42_method_151_code (3 : Nat) (Option.none : Option Jvm.ClassFile.FieldType)).before args0 about1 = true := code_word (m := ⟨20, 2⟩) (meth := k20m2) (c := k20c2) (by decide +kernel) rfl rfl rfl (by decide +kernel)
set_option maxRecDepth 65536 in
theorem w_c13 : (Jvm.Cond.code ({ cls := "com/example/hermit_crab/hermitcrab/xml/BeanElements$Defaults", name := "lazyInit", desc := "()Z" } : Jvm.MethodName) prog_111_method_8_code (1 : Nat) (Option.some Jvm.ClassFile.FieldType.boolean)).before args0 about1 = true := code_word (m := ⟨17, 3⟩) (meth := k17m3) (c := k17c3) (by decide +kernel) rfl rfl rfl (by decide +kernel)
set_option maxRecDepth 65536 in
theorem w_c14 : (Jvm.Cond.code ({ cls := "com/example/hermit_crab/hermitcrab/xml/BeanElements$Defaults", name := "autowireCandidates", desc := "()Ljava/util/List;" } : Jvm.MethodName) prog_111_method_9_code (1 : Nat) (Option.some (Jvm.ClassFile.FieldType.object "java/util/List"))).before args0 about1 = true := code_word (m := ⟨17, 4⟩) (meth := k17m4) (c := k17c4) (by decide +kernel) rfl rfl rfl (by decide +kernel)
set_option maxRecDepth 65536 in
theorem w_c15 : (Jvm.Cond.code ({ cls := "com/example/hermit_crab/hermitcrab/xml/BeanElements$Defaults", name := "autowire", desc := "()Lcom/example/hermit_crab/hermitcrab/definition/BeanDefinition$Autowiring$Mode;" } : Jvm.MethodName) prog_111_method_10_code (1 : Nat) (Option.some (Jvm.ClassFile.FieldType.object "com/example/hermit_crab/hermitcrab/definition/BeanDefinition$Autowiring$Mode"))).before args0 about1 = true := code_word (m := ⟨17, 5⟩) (meth := k17m5) (c := k17c5) (by decide +kernel) rfl rfl rfl (by decide +kernel)
set_option maxRecDepth 65536 in
theorem w_c16 : (Jvm.Cond.code ({ cls := "com/example/hermit_crab/hermitcrab/xml/BeanElements$Defaults", name := "isAutowireCandidate", desc := "(Ljava/lang/String;)Z" } : Jvm.MethodName) prog_111_method_4_code (4 : Nat) (Option.some Jvm.ClassFile.FieldType.boolean)).before args0 about1 = true := code_word (m := ⟨17, 2⟩) (meth := k17m2) (c := k17c2) (by decide +kernel) rfl rfl rfl (by decide +kernel)
def codes1 : List Jvm.Cond := [Jvm.Cond.code x code maxLocals ret, Jvm.Cond.code ({ cls := "com/example/hermit_crab/hermitcrab/xml/DefaultsForInnerBeansPinLaw", name := "mode", desc := "(I)Lcom/example/hermit_crab/hermitcrab/definition/BeanDefinition$Autowiring$Mode;" } : Jvm.MethodName) method_3_code (1 : Nat) (Option.some (Jvm.ClassFile.FieldType.object "com/example/hermit_crab/hermitcrab/definition/BeanDefinition$Autowiring$Mode")), Jvm.Cond.code ({ cls := "java/util/ArrayList", name := "<init>", desc := "()V" } : Jvm.MethodName) jdk_38_method_2_code (1 : Nat) (Option.none : Option Jvm.ClassFile.FieldType), Jvm.Cond.code ({ cls := "java/util/AbstractList", name := "<init>", desc := "()V" } : Jvm.MethodName) jdk_39_method_1_code (1 : Nat) (Option.none : Option Jvm.ClassFile.FieldType), Jvm.Cond.code ({ cls := "java/util/AbstractCollection", name := "<init>", desc := "()V" } : Jvm.MethodName) jdk_22_method_1_code (1 : Nat) (Option.none : Option Jvm.ClassFile.FieldType), Jvm.Cond.code ({ cls := "java/lang/Object", name := "<init>", desc := "()V" } : Jvm.MethodName) object_method_1_code (1 : Nat) (Option.none : Option Jvm.ClassFile.FieldType), Jvm.Cond.code ({ cls := "com/example/hermit_crab/hermitcrab/xml/BeanElements$Defaults", name := "<init>", desc := "(ZLjava/util/List;Lcom/example/hermit_crab/hermitcrab/definition/BeanDefinition$Autowiring$Mode;)V" } : Jvm.MethodName) prog_111_method_1_code (4 : Nat) (Option.none : Option Jvm.ClassFile.FieldType), Jvm.Cond.code ({ cls := "java/lang/Record", name := "<init>", desc := "()V" } : Jvm.MethodName) jdk_30_method_1_code (1 : Nat) (Option.none : Option Jvm.ClassFile.FieldType), Jvm.Cond.code ({ cls := "com/example/hermit_crab/hermitcrab/xml/BeanElements$Defaults", name := "forInnerBeans", desc := "()Lcom/example/hermit_crab/hermitcrab/xml/BeanElements$Defaults;" } : Jvm.MethodName) prog_111_method_2_code (1 : Nat) (Option.some (Jvm.ClassFile.FieldType.object "com/example/hermit_crab/hermitcrab/xml/BeanElements$Defaults")), Jvm.Cond.code ({ cls := "java/lang/String", name := "valueOf", desc := "(C)Ljava/lang/String;" } : Jvm.MethodName) jdk_42_method_139_code (1 : Nat) (Option.some (Jvm.ClassFile.FieldType.object "java/lang/String")), Jvm.Cond.code ({ cls := "java/lang/StringLatin1", name := "canEncode", desc := "(C)Z" } : Jvm.MethodName) jdk_43_method_3_code (1 : Nat) (Option.some Jvm.ClassFile.FieldType.boolean), Jvm.Cond.code ({ cls := "java/lang/StringLatin1", name := "toBytes", desc := "(C)[B" } : Jvm.MethodName) jdk_43_method_46_code (1 : Nat) (Option.some (Jvm.ClassFile.FieldType.array Jvm.ClassFile.FieldType.byte)), Jvm.Cond.code ({ cls := "java/lang/String", name := "<init>", desc := "([BB)V" } : Jvm.MethodName) jdk_42_method_151_code (3 : Nat) (Option.none : Option Jvm.ClassFile.FieldType), Jvm.Cond.code ({ cls := "com/example/hermit_crab/hermitcrab/xml/BeanElements$Defaults", name := "lazyInit", desc := "()Z" } : Jvm.MethodName) prog_111_method_8_code (1 : Nat) (Option.some Jvm.ClassFile.FieldType.boolean), Jvm.Cond.code ({ cls := "com/example/hermit_crab/hermitcrab/xml/BeanElements$Defaults", name := "autowireCandidates", desc := "()Ljava/util/List;" } : Jvm.MethodName) prog_111_method_9_code (1 : Nat) (Option.some (Jvm.ClassFile.FieldType.object "java/util/List")), Jvm.Cond.code ({ cls := "com/example/hermit_crab/hermitcrab/xml/BeanElements$Defaults", name := "autowire", desc := "()Lcom/example/hermit_crab/hermitcrab/definition/BeanDefinition$Autowiring$Mode;" } : Jvm.MethodName) prog_111_method_10_code (1 : Nat) (Option.some (Jvm.ClassFile.FieldType.object "com/example/hermit_crab/hermitcrab/definition/BeanDefinition$Autowiring$Mode")), Jvm.Cond.code ({ cls := "com/example/hermit_crab/hermitcrab/xml/BeanElements$Defaults", name := "isAutowireCandidate", desc := "(Ljava/lang/String;)Z" } : Jvm.MethodName) prog_111_method_4_code (4 : Nat) (Option.some Jvm.ClassFile.FieldType.boolean)]
set_option maxRecDepth 65536 in
theorem codes_eq : words1.filter isCode = codes1 := rfl
theorem w_codes : ∀ c ∈ words1.filter isCode, c.before args0 about1 = true := by
  rw [codes_eq]
  intro c hc
  simp only [codes1, List.mem_cons, List.not_mem_nil, or_false] at hc
  rcases hc with rfl | rfl | rfl | rfl | rfl | rfl | rfl | rfl | rfl | rfl | rfl | rfl | rfl | rfl | rfl | rfl | rfl
  · exact w_c0
  · exact w_c1
  · exact w_c2
  · exact w_c3
  · exact w_c4
  · exact w_c5
  · exact w_c6
  · exact w_c7
  · exact w_c8
  · exact w_c9
  · exact w_c10
  · exact w_c11
  · exact w_c12
  · exact w_c13
  · exact w_c14
  · exact w_c15
  · exact w_c16
set_option maxRecDepth 65536 in
theorem w_t1 : (words1.take 24).all (fun c => isCode c || c.before args0 about1) = true := by decide +kernel
set_option maxRecDepth 65536 in
theorem w_t2 : ((words1.drop 24).take 24).all (fun c => isCode c || c.before args0 about1) = true := by decide +kernel
set_option maxRecDepth 65536 in
theorem w_t3 : (((words1.drop 24).drop 24).take 24).all (fun c => isCode c || c.before args0 about1) = true := by decide +kernel
set_option maxRecDepth 65536 in
theorem w_t4 : ((((words1.drop 24).drop 24).drop 24).take 24).all (fun c => isCode c || c.before args0 about1) = true := by decide +kernel
set_option maxRecDepth 65536 in
theorem w_t5 : ((((words1.drop 24).drop 24).drop 24).drop 24).all (fun c => isCode c || c.before args0 about1) = true := by decide +kernel
theorem w_tables : (allAtoms (Jvm.Cond.code x code maxLocals ret :: tables_1)).before args0 about1 = true := by
  rw [allAtoms_all]
  show words1.all (fun c => c.before args0 about1) = true
  refine all_split ?_ w_codes
  rw [← List.take_append_drop 24 words1, List.all_append, w_t1, ← List.take_append_drop 24 (words1.drop 24), List.all_append, w_t2, ← List.take_append_drop 24 ((words1.drop 24).drop 24), List.all_append, w_t3, ← List.take_append_drop 24 (((words1.drop 24).drop 24).drop 24), List.all_append, w_t4, w_t5]
  rfl
set_option maxRecDepth 65536 in
theorem w_rest : rest_1_c.before args0 about1 = true := by decide +kernel
set_option maxRecDepth 65536 in
theorem w_case : (Jvm.Cond.and given_1 narrow_1).before args0 about1 = true := by decide +kernel
theorem w_applies : (headSpec (Jvm.Cond.code x code maxLocals ret :: tables_1) room_1).applies x e0.platform about1 = true :=
  (Spec.applies_iff w_frames).mpr ⟨w_running, w_runnable, w_alone, w_named, w_hears, w_ripe, w_room, w_tables⟩
theorem atStart : AtStart classFile x code maxLocals ret World_1 tables_1 room_1 Calls_1 rest_1 Pre_1 launch0 p0 e0 about1 theMethod args0 below0 :=
  ⟨lists_1, trivial, launch0.admits_env _ _ _, launch0.least_env, fairChoices_fair.cas, fairChoices_fair.clock, w_frames, w_args, w_heap, w_applies, trivial, w_rest, w_case⟩
end start1
theorem witness_1 : WitnessClaimed_1 := ⟨start1.p0, start1.e0, start1.about1, start1.theMethod, start1.args0, start1.below0, start1.atStart⟩
end Jvm.Pilot.@@N@@
