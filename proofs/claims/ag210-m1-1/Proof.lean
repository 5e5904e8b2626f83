import JvmDerived
import JvmDerived.Pilot.@@N@@Statement
import JvmDerived.Pilot.@@N@@Code
set_option linter.unusedVariables false
set_option linter.unusedSimpArgs false
namespace Jvm.Pilot.@@N@@
open Jvm Jvm.ClassFile Sem Op Lib Jvm.Free Jvm.Stand Jvm.LawKit Jvm.RoadKit Bundle Jvm.Pilot.@@N@@.Jvm.D
/-- from U the run comes to a return that Q allows -/
def Go (p : Program) (e : Env) (below : List Frame) (s : State) (C S : Nat) (Q : Option Value → Heap → List Loc → Prop) (U : State) : Prop :=
  ∃ t o, Steps p.tables e below U t ∧ t.status = .running ∧ Ended t below o ∧ ∃ v L, o = .returned v ∧ Q v t.heap L ∧ FrameEnd s o t L C S
section own_go
variable {p : Program} {l : Launch} {e : Env} {R : Room} {s : State} {m : MethodId} {args : Array Value} {below : List Frame} {meth : Method} {c : Code} {T U U' : State} {locs : List Loc} {cells slots C S : Nat} {Q : Option Value → Heap → List Loc → Prop}
theorem Go.of (h : ∀ t, Steps p.tables e below U' t → Steps p.tables e below U t) (g : Go p e below s C S Q U') : Go p e below s C S Q U := by
  obtain ⟨t, o, k, r⟩ := g
  exact ⟨t, o, h t k, r⟩
theorem Go.tr (h : Steps p.tables e below U U') (g : Go p e below s C S Q U') : Go p e below s C S Q U := by
  obtain ⟨t, o, k, r⟩ := g
  exact ⟨t, o, h.trans k, r⟩
theorem Go.out (X : Stand p l e R s m args below meth c T locs cells slots) {v : Option Value} (hv : meth.sig.returnType = none → v = none) (hlk : meth.locks = false)
    (hs : ∀ fs, (∀ (f : JFrame) (acts : List Action), f.method = m → f.locked = none → f.entered = [] → (doReturn e (T.setTop f) acts v).1 = T.setFrames fs) → Steps p.tables e below U (T.setFrames fs))
    (hQ : Q v T.heap locs) (hC : cells ≤ C) (hS : slots ≤ S) : Go p e below s C S Q U := by
  obtain ⟨fs, hr, hrun, hended, hW, hsame⟩ := X.leave (v := v) hv hlk
  exact ⟨_, _, hs fs hr, hrun, hended, _, _, rfl, hQ, ⟨_, rfl⟩, hW, hsame.mono hC hS⟩
end own_go
theorem own_lt1 {x y : Int32} {k : Int} (hy : y.toInt = k) (h : x < y) : x.toInt < k := hy ▸ Int32.lt_iff_toInt_lt.mp h
theorem own_ge1 {x y : Int32} {k : Int} (hy : y.toInt = k) (h : ¬ x < y) : k ≤ x.toInt := by rw [Int32.lt_iff_toInt_lt, hy] at h; omega
theorem own_lt2 {x y : Int32} {k : Int} (hy : y.toInt = k) (h : y < x) : k < x.toInt := hy ▸ Int32.lt_iff_toInt_lt.mp h
theorem own_ge2 {x y : Int32} {k : Int} (hy : y.toInt = k) (h : ¬ y < x) : x.toInt ≤ k := by rw [Int32.lt_iff_toInt_lt, hy] at h; omega
theorem own_eq1 {x y : Int32} {k : Int} (hy : y.toInt = k) (h : x = y) : x.toInt = k := by rw [h, hy]
theorem own_ne1 {x y : Int32} {k : Int} (hy : y.toInt = k) (h : ¬ x = y) : x.toInt ≠ k := fun q => h (Int32.toInt_inj.mp (q.trans hy.symm))
theorem own_eq2 {x y : Int32} {k : Int} (hy : y.toInt = k) (h : y = x) : x.toInt = k := by rw [← h, hy]
theorem own_ne2 {x y : Int32} {k : Int} (hy : y.toInt = k) (h : ¬ y = x) : x.toInt ≠ k := fun q => h (Int32.toInt_inj.mp (q.trans hy.symm)).symm
theorem own_eqI {args : Array Value} {first s : State} {o : Option Outcome} {idx : List Nat} {t : Term} {n : Int32} (h : (Cond.eq t (.int n)).value args first o s idx = some true) : t.eval args first o idx s = some (.int n) := by
  obtain ⟨x, y, e1, e2, k1, k2⟩ := cmp_v (Or.inl h)
  obtain rfl : y = .int n := (Option.some.inj e2).symm
  obtain ⟨z, rfl⟩ := k2
  have q := gotT (Cond.eq_ints e1 e2) h
  rw [e1, q]
theorem own_len_of {args : Array Value} {s : State} {t : Term} {w : Addr} {cl : Cell} {n : Int32} (ev : t.eval args s none [] s = some (.ref w)) (ha : s.arrayAt? w = some cl) (h : (Term.length t).eval args s none [] s = some (.int n)) : cl.slots.size < 2 ^ 31 ∧ cl.slots.size.toInt32 = n := by
  by_cases q : cl.slots.size < 2 ^ 31
  · rw [len_f ev ha q] at h; exact ⟨q, Value.int.inj (Option.some.inj h)⟩
  · simp [Term.eval, ev, ha, q] at h
def own_leap (y : Int32) : Int32 := if y % 4 = 0 ∧ (¬ y % 100 = 0 ∨ (y % 400 = 0 ∧ ¬ y = 0)) then 1 else 0
def own_len (k z : Int32) : Int32 := if k = 1 then (if z = 0 then 28 else 29) else if k = 3 ∨ k = 5 ∨ k = 8 ∨ k = 10 then 30 else 31
def own_ml (y m : Int32) : Int32 := if m = 0 then 31 else if m = 2 then (if own_leap y = 0 then 28 else 29) else if m = 4 ∨ m = 6 ∨ m = 9 ∨ m = 11 then 30 else 31
def own_dig (y mo d h mi s : Int32) : Int64 := ((((((((((y.toInt64) * (100 : Int64)) + (mo.toInt64)) * (100 : Int64)) + (d.toInt64)) * (100 : Int64)) + (h.toInt64)) * (100 : Int64)) + (mi.toInt64)) * (100 : Int64)) + (s.toInt64)
theorem own_12 {j : Int32} (h0 : ¬ j < 0) (h1 : j < 12) : j = 0 ∨ j = 1 ∨ j = 2 ∨ j = 3 ∨ j = 4 ∨ j = 5 ∨ j = 6 ∨ j = 7 ∨ j = 8 ∨ j = 9 ∨ j = 10 ∨ j = 11 := by
  have a := own_ge1 (k := 0) (by decide) h0
  have b := own_lt1 (k := 12) (by decide) h1
  have q : j.toInt = 0 ∨ j.toInt = 1 ∨ j.toInt = 2 ∨ j.toInt = 3 ∨ j.toInt = 4 ∨ j.toInt = 5 ∨ j.toInt = 6 ∨ j.toInt = 7 ∨ j.toInt = 8 ∨ j.toInt = 9 ∨ j.toInt = 10 ∨ j.toInt = 11 := by omega
  rcases q with q | q | q | q | q | q | q | q | q | q | q | q
  · exact Or.inl (Int32.toInt_inj.mp q)
  · exact Or.inr (Or.inl (Int32.toInt_inj.mp q))
  · exact Or.inr (Or.inr (Or.inl (Int32.toInt_inj.mp q)))
  · exact Or.inr (Or.inr (Or.inr (Or.inl (Int32.toInt_inj.mp q))))
  · exact Or.inr (Or.inr (Or.inr (Or.inr (Or.inl (Int32.toInt_inj.mp q)))))
  · exact Or.inr (Or.inr (Or.inr (Or.inr (Or.inr (Or.inl (Int32.toInt_inj.mp q))))))
  · exact Or.inr (Or.inr (Or.inr (Or.inr (Or.inr (Or.inr (Or.inl (Int32.toInt_inj.mp q)))))))
  · exact Or.inr (Or.inr (Or.inr (Or.inr (Or.inr (Or.inr (Or.inr (Or.inl (Int32.toInt_inj.mp q))))))))
  · exact Or.inr (Or.inr (Or.inr (Or.inr (Or.inr (Or.inr (Or.inr (Or.inr (Or.inl (Int32.toInt_inj.mp q)))))))))
  · exact Or.inr (Or.inr (Or.inr (Or.inr (Or.inr (Or.inr (Or.inr (Or.inr (Or.inr (Or.inl (Int32.toInt_inj.mp q))))))))))
  · exact Or.inr (Or.inr (Or.inr (Or.inr (Or.inr (Or.inr (Or.inr (Or.inr (Or.inr (Or.inr (Or.inl (Int32.toInt_inj.mp q)))))))))))
  · exact Or.inr (Or.inr (Or.inr (Or.inr (Or.inr (Or.inr (Or.inr (Or.inr (Or.inr (Or.inr (Or.inr (Int32.toInt_inj.mp q)))))))))))
theorem own_m1 {m : Int32} (h0 : ¬ m < 0) (h1 : ¬ 12 < m) (h2 : ¬ m = 0) : ¬ m - 1 < 0 ∧ m - 1 < 12 ∧ ¬ m < 1 := by
  have a := own_ge1 (k := 0) (by decide) h0
  have b := own_ge2 (k := 12) (by decide) h1
  have d := own_ne1 (k := 0) (by decide) h2
  have e := c_isub m 1
  have f : (1 : Int32).toInt = 1 := by decide
  have g := rng32 (m - 1)
  have o : (0 : Int32).toInt = 0 := by decide
  have t : (12 : Int32).toInt = 12 := by decide
  refine ⟨fun q => ?_, ?_, fun q => ?_⟩
  · rw [Int32.lt_iff_toInt_lt] at q; omega
  · rw [Int32.lt_iff_toInt_lt]; omega
  · rw [Int32.lt_iff_toInt_lt] at q; omega
theorem own_ml_eq {y m : Int32} (h0 : ¬ m < 0) (h1 : ¬ 12 < m) (h2 : ¬ m = 0) : own_ml y m = own_len (m - 1) (own_leap y) := by
  obtain ⟨a, b, -⟩ := own_m1 h0 h1 h2
  have e : m = (m - 1) + 1 := by
    have e1 := c_isub m 1
    have e2 := c_iadd (m - 1) 1
    have f : (1 : Int32).toInt = 1 := by decide
    have g := rng32 m
    have g1 := rng32 (m - 1)
    have g2 := rng32 (m - 1 + 1)
    apply Int32.toInt_inj.mp
    omega
  generalize m - 1 = k at *
  subst e
  rcases own_12 a b with rfl | rfl | rfl | rfl | rfl | rfl | rfl | rfl | rfl | rfl | rfl | rfl <;> simp [own_ml, own_len]
theorem own_dig_eq (y mo d h mi s : Int32) : own_dig y mo d h mi s = (((((((y.toInt64) * (10000000000 : Int64)) + ((mo.toInt64) * (100000000 : Int64))) + ((d.toInt64) * (1000000 : Int64))) + ((h.toInt64) * (10000 : Int64))) + ((mi.toInt64) * (100 : Int64))) + (s.toInt64)) := by
  unfold own_dig
  generalize y.toInt64 = a
  generalize mo.toInt64 = b
  generalize d.toInt64 = c
  generalize h.toInt64 = f
  generalize mi.toInt64 = g
  generalize s.toInt64 = k
  simp only [Int64.add_mul, Int64.mul_assoc]
  rfl
def own_months (Z : State) (h : Heap) (w : Addr) (cl : Cell) (mo : Int32 → Addr) : Prop := Sta Z h "java/time/Month" "ENUMS" "[Ljava/time/Month;" (.ref w) ∧ Arr Z h w cl (.object "java/time/Month") ∧ cl.slots.size = (12 : Int32).toNatClampNeg ∧ ∀ j : Int32, ¬ j < 0 → j < 12 → cl.slots[j.toNatClampNeg]? = some (.ref (mo j)) ∧ Exa Z h (mo j) "java/time/Month" ∧ Fld Z h (mo j) "java/lang/Enum" "ordinal" "I" (.int j)
theorem own_months.ext {Z : State} {h h' : Heap} {w : Addr} {cl : Cell} {mo : Int32 → Addr} (M : own_months Z h w cl mo) (E : Ext h h') : own_months Z h' w cl mo := ⟨M.1.ext E, M.2.1.ext E, M.2.2.1, fun j a b => ⟨(M.2.2.2 j a b).1, (M.2.2.2 j a b).2.1.ext E, (M.2.2.2 j a b).2.2.ext E⟩⟩
theorem pn_0 : plainName "com/example/live_alter/livealter/schema/DatetimeDigitsPinLaw" = true := by first | (simp [plainName, overriddenIn]; done) | decide +kernel
theorem d1_0 : decode method_2_code 0 = .ok (.iload_n 1, 1) := by decide +kernel
theorem d1_1 : decode method_2_code 1 = .ok (.ifCond .ne 6, 3) := by decide +kernel
theorem d1_4 : decode method_2_code 4 = .ok (.bipush 31, 2) := by decide +kernel
theorem d1_6 : decode method_2_code 6 = .ok (.ireturn, 1) := by decide +kernel
theorem d1_7 : decode method_2_code 7 = .ok (.iload_n 1, 1) := by decide +kernel
theorem d1_8 : decode method_2_code 8 = .ok (.iconst 2, 1) := by decide +kernel
theorem d1_9 : decode method_2_code 9 = .ok (.if_icmp .ne 46, 3) := by decide +kernel
theorem d1_12 : decode method_2_code 12 = .ok (.iload_n 0, 1) := by decide +kernel
theorem d1_13 : decode method_2_code 13 = .ok (.iconst 4, 1) := by decide +kernel
theorem d1_14 : decode method_2_code 14 = .ok (.irem, 1) := by decide +kernel
theorem d1_15 : decode method_2_code 15 = .ok (.ifCond .ne 26, 3) := by decide +kernel
theorem d1_18 : decode method_2_code 18 = .ok (.iload_n 0, 1) := by decide +kernel
theorem d1_19 : decode method_2_code 19 = .ok (.bipush 100, 2) := by decide +kernel
theorem d1_21 : decode method_2_code 21 = .ok (.irem, 1) := by decide +kernel
theorem d1_22 : decode method_2_code 22 = .ok (.ifCond .ne 15, 3) := by decide +kernel
theorem d1_25 : decode method_2_code 25 = .ok (.iload_n 0, 1) := by decide +kernel
theorem d1_26 : decode method_2_code 26 = .ok (.sipush 400, 3) := by decide +kernel
theorem d1_29 : decode method_2_code 29 = .ok (.irem, 1) := by decide +kernel
theorem d1_30 : decode method_2_code 30 = .ok (.ifCond .ne 11, 3) := by decide +kernel
theorem d1_33 : decode method_2_code 33 = .ok (.iload_n 0, 1) := by decide +kernel
theorem d1_34 : decode method_2_code 34 = .ok (.ifCond .eq 7, 3) := by decide +kernel
theorem d1_37 : decode method_2_code 37 = .ok (.iconst 1, 1) := by decide +kernel
theorem d1_38 : decode method_2_code 38 = .ok (.goto 4, 3) := by decide +kernel
theorem d1_41 : decode method_2_code 41 = .ok (.iconst 0, 1) := by decide +kernel
theorem d1_42 : decode method_2_code 42 = .ok (.istore_n 2, 1) := by decide +kernel
theorem d1_43 : decode method_2_code 43 = .ok (.iload_n 2, 1) := by decide +kernel
theorem d1_44 : decode method_2_code 44 = .ok (.ifCond .eq 8, 3) := by decide +kernel
theorem d1_47 : decode method_2_code 47 = .ok (.bipush 29, 2) := by decide +kernel
theorem d1_49 : decode method_2_code 49 = .ok (.goto 5, 3) := by decide +kernel
theorem d1_52 : decode method_2_code 52 = .ok (.bipush 28, 2) := by decide +kernel
theorem d1_54 : decode method_2_code 54 = .ok (.ireturn, 1) := by decide +kernel
theorem d1_55 : decode method_2_code 55 = .ok (.iload_n 1, 1) := by decide +kernel
theorem d1_56 : decode method_2_code 56 = .ok (.iconst 4, 1) := by decide +kernel
theorem d1_57 : decode method_2_code 57 = .ok (.if_icmp .eq 21, 3) := by decide +kernel
theorem d1_60 : decode method_2_code 60 = .ok (.iload_n 1, 1) := by decide +kernel
theorem d1_61 : decode method_2_code 61 = .ok (.bipush 6, 2) := by decide +kernel
theorem d1_63 : decode method_2_code 63 = .ok (.if_icmp .eq 15, 3) := by decide +kernel
theorem d1_66 : decode method_2_code 66 = .ok (.iload_n 1, 1) := by decide +kernel
theorem d1_67 : decode method_2_code 67 = .ok (.bipush 9, 2) := by decide +kernel
theorem d1_69 : decode method_2_code 69 = .ok (.if_icmp .eq 9, 3) := by decide +kernel
theorem d1_72 : decode method_2_code 72 = .ok (.iload_n 1, 1) := by decide +kernel
theorem d1_73 : decode method_2_code 73 = .ok (.bipush 11, 2) := by decide +kernel
theorem d1_75 : decode method_2_code 75 = .ok (.if_icmp .ne 6, 3) := by decide +kernel
theorem d1_78 : decode method_2_code 78 = .ok (.bipush 30, 2) := by decide +kernel
theorem d1_80 : decode method_2_code 80 = .ok (.ireturn, 1) := by decide +kernel
theorem d1_81 : decode method_2_code 81 = .ok (.bipush 31, 2) := by decide +kernel
theorem d1_83 : decode method_2_code 83 = .ok (.ireturn, 1) := by decide +kernel
def Q1 (Z : State) (p1 : Int32) (p2 : Int32) (h0 : Heap) (n0 : Nat) (v : Option Value) (h : Heap) (L : List Loc) : Prop := v = some (.int (own_ml p1 p2)) ∧ Fr n0 L ∧ h = h0
set_option maxRecDepth 65536 in
set_option maxHeartbeats 40000000 in
theorem rm1 (l : Launch) (Z : State) (a0 : Array Value) (hw : ∀ d ∈ tables_1, d.before a0 Z = true) (ws : List Jvm.Cond) (p1 : Int32) (p2 : Int32) (h0 : Heap) (n0 : Nat) (Z0 : n0 ≤ h0.size) :
    MetFree l (⟨"com/example/live_alter/livealter/schema/DatetimeDigitsPinLaw", "monthLength", "(II)I"⟩ : MethodName) (head1 (Jvm.Cond.code (⟨"com/example/live_alter/livealter/schema/DatetimeDigitsPinLaw", "monthLength", "(II)I"⟩ : MethodName) method_2_code 3 (some .int) :: ws) ({ frames := 0, cells := 0, slots := 0, locals := 0 } : Room)) (fun a U => a = #[(.int p1), (.int p2)] ∧ Z.Warmed39 U.vm ∧ U.heap = h0) (fun _ _ _ _ _ => True) (fun _ U o U' => ∃ v L, o = .returned v ∧ Q1 Z p1 p2 h0 n0 v U'.heap L ∧ FrameEnd U o U' L ({ frames := 0, cells := 0, slots := 0, locals := 0 } : Room).cells ({ frames := 0, cells := 0, slots := 0, locals := 0 } : Room).slots) := by
  refine MetFree.of_bodySF (plainFor_of_name pn_0) hisR ?_
  intro p e s m args below meth c s₁ Bd hml0 hP hK
  obtain ⟨rfl, hZ, hh⟩ := hP
  have hx := Bd.exec
  have hby := Bd.bytes
  have hml : c.maxLocals = 3 := hml0
  have hown : s.vm.findClass "com/example/live_alter/livealter/schema/DatetimeDigitsPinLaw" = some m.cls := findClass_of_methodNamed Bd.named
  have hnm := (name_of_methodNamed Bd.named Bd.method).1
  have hlk : meth.locks = false := BodyLoose.notSynchronized Bd
  have X0 : Stand p l e ({ frames := 0, cells := 0, slots := 0, locals := 0 } : Room) s m #[(.int p1), (.int p2)] below meth c s₁ [] 0 0 := Stand.of_body Bd
  have e0 : s₁.heap = h0 := by rw [← hh, Bd.state]; rfl
  have N0 := Fr.nil n0
  have hef : entryFrame m #[(.int p1), (.int p2)] 3 = mkF m 0 #[.val (.int p1), .val (.int p2), .unset] [] := by first | (simp [entryFrame, mkF, argsToLocals, Value.category]; done) | rfl
  show Go p e below s ({ frames := 0, cells := 0, slots := 0, locals := 0 } : Room).cells ({ frames := 0, cells := 0, slots := 0, locals := 0 } : Room).slots (Q1 Z p1 p2 h0 n0) (s₁.setTop (entryFrame m #[(.int p1), (.int p2)] 3))
  rw [hef]
  refine Go.of (fun t k => XS.iloadN X0.here hx rfl (hb hby d1_0) rfl k) ?_
  show Go _ _ _ _ _ _ _ (s₁.setTop (mkF m 1 #[.val (.int p1), .val (.int p2), .unset] [(.int p2)]))
  by_cases hc1_1 : p2 = (0 : Int32)
  · skip
    refine Go.of (fun t k => XS.ifNo X0.here hx rfl (hb hby d1_1) rfl ((if0 _ _).trans (teq hc1_1).2) k) ?_
    show Go _ _ _ _ _ _ _ (s₁.setTop (mkF m 4 #[.val (.int p1), .val (.int p2), .unset] []))
    refine Go.of (fun t k => XS.bipush X0.here hx rfl (hb hby d1_4) k) ?_
    show Go _ _ _ _ _ _ _ (s₁.setTop (mkF m 6 #[.val (.int p1), .val (.int p2), .unset] [(.int (31 : Int32))]))
    refine Go.out X0 (v := some (.int (31 : Int32))) (fun h => by rw [Bd.returns] at h; cases h) hlk (fun fs hr => retOut X0 hx (t := .int) Bd.returns rfl (Or.inl ⟨rfl, Or.inl rfl, _, rfl⟩) (hb hby d1_6) hr) ?_ (by decide) (by decide)
    show Q1 Z p1 p2 h0 n0 _ s₁.heap _
    rw [e0]
    exact ⟨by simp [own_ml, own_leap, hc1_1], N0, rfl⟩
  · skip
    refine Go.of (fun t k => XS.ifYes X0.here hx rfl (pc0 := 1) (pc' := 7) rfl (hb hby d1_1) rfl ((if0 _ _).trans (feq hc1_1).2) (by decide) (by decide) k) ?_
    show Go _ _ _ _ _ _ _ (s₁.setTop (mkF m 7 #[.val (.int p1), .val (.int p2), .unset] []))
    refine Go.of (fun t k => XS.iloadN X0.here hx rfl (hb hby d1_7) rfl k) ?_
    show Go _ _ _ _ _ _ _ (s₁.setTop (mkF m 8 #[.val (.int p1), .val (.int p2), .unset] [(.int p2)]))
    refine Go.of (fun t k => XS.iconst X0.here hx rfl (hb hby d1_8) k) ?_
    show Go _ _ _ _ _ _ _ (s₁.setTop (mkF m 9 #[.val (.int p1), .val (.int p2), .unset] [(.int (2 : Int32)), (.int p2)]))
    by_cases hc9_2 : p2 = (2 : Int32)
    · skip
      refine Go.of (fun t k => XS.icmpNo X0.here hx rfl (hb hby d1_9) rfl (teq hc9_2).2 k) ?_
      show Go _ _ _ _ _ _ _ (s₁.setTop (mkF m 12 #[.val (.int p1), .val (.int p2), .unset] []))
      refine Go.of (fun t k => XS.iloadN X0.here hx rfl (hb hby d1_12) rfl k) ?_
      show Go _ _ _ _ _ _ _ (s₁.setTop (mkF m 13 #[.val (.int p1), .val (.int p2), .unset] [(.int p1)]))
      refine Go.of (fun t k => XS.iconst X0.here hx rfl (hb hby d1_13) k) ?_
      show Go _ _ _ _ _ _ _ (s₁.setTop (mkF m 14 #[.val (.int p1), .val (.int p2), .unset] [(.int (4 : Int32)), (.int p1)]))
      refine Go.of (fun t k => iremM X0 hx rfl (hb hby d1_14) rfl (by decide) k) ?_
      show Go _ _ _ _ _ _ _ (s₁.setTop (mkF m 15 #[.val (.int p1), .val (.int p2), .unset] [(.int (p1 % (4 : Int32)))]))
      by_cases hc15_3 : (p1 % (4 : Int32)) = (0 : Int32)
      · skip
        refine Go.of (fun t k => XS.ifNo X0.here hx rfl (hb hby d1_15) rfl ((if0 _ _).trans (teq hc15_3).2) k) ?_
        show Go _ _ _ _ _ _ _ (s₁.setTop (mkF m 18 #[.val (.int p1), .val (.int p2), .unset] []))
        refine Go.of (fun t k => XS.iloadN X0.here hx rfl (hb hby d1_18) rfl k) ?_
        show Go _ _ _ _ _ _ _ (s₁.setTop (mkF m 19 #[.val (.int p1), .val (.int p2), .unset] [(.int p1)]))
        refine Go.of (fun t k => XS.bipush X0.here hx rfl (hb hby d1_19) k) ?_
        show Go _ _ _ _ _ _ _ (s₁.setTop (mkF m 21 #[.val (.int p1), .val (.int p2), .unset] [(.int (100 : Int32)), (.int p1)]))
        refine Go.of (fun t k => iremM X0 hx rfl (hb hby d1_21) rfl (by decide) k) ?_
        show Go _ _ _ _ _ _ _ (s₁.setTop (mkF m 22 #[.val (.int p1), .val (.int p2), .unset] [(.int (p1 % (100 : Int32)))]))
        by_cases hc22_4 : (p1 % (100 : Int32)) = (0 : Int32)
        · skip
          refine Go.of (fun t k => XS.ifNo X0.here hx rfl (hb hby d1_22) rfl ((if0 _ _).trans (teq hc22_4).2) k) ?_
          show Go _ _ _ _ _ _ _ (s₁.setTop (mkF m 25 #[.val (.int p1), .val (.int p2), .unset] []))
          refine Go.of (fun t k => XS.iloadN X0.here hx rfl (hb hby d1_25) rfl k) ?_
          show Go _ _ _ _ _ _ _ (s₁.setTop (mkF m 26 #[.val (.int p1), .val (.int p2), .unset] [(.int p1)]))
          refine Go.of (fun t k => XS.sipush X0.here hx rfl (hb hby d1_26) k) ?_
          show Go _ _ _ _ _ _ _ (s₁.setTop (mkF m 29 #[.val (.int p1), .val (.int p2), .unset] [(.int (400 : Int32)), (.int p1)]))
          refine Go.of (fun t k => iremM X0 hx rfl (hb hby d1_29) rfl (by decide) k) ?_
          show Go _ _ _ _ _ _ _ (s₁.setTop (mkF m 30 #[.val (.int p1), .val (.int p2), .unset] [(.int (p1 % (400 : Int32)))]))
          by_cases hc30_5 : (p1 % (400 : Int32)) = (0 : Int32)
          · skip
            refine Go.of (fun t k => XS.ifNo X0.here hx rfl (hb hby d1_30) rfl ((if0 _ _).trans (teq hc30_5).2) k) ?_
            show Go _ _ _ _ _ _ _ (s₁.setTop (mkF m 33 #[.val (.int p1), .val (.int p2), .unset] []))
            refine Go.of (fun t k => XS.iloadN X0.here hx rfl (hb hby d1_33) rfl k) ?_
            show Go _ _ _ _ _ _ _ (s₁.setTop (mkF m 34 #[.val (.int p1), .val (.int p2), .unset] [(.int p1)]))
            by_cases hc34_6 : p1 = (0 : Int32)
            · skip
              refine Go.of (fun t k => XS.ifYes X0.here hx rfl (pc0 := 34) (pc' := 41) rfl (hb hby d1_34) rfl ((if0 _ _).trans (teq hc34_6).1) (by decide) (by decide) k) ?_
              show Go _ _ _ _ _ _ _ (s₁.setTop (mkF m 41 #[.val (.int p1), .val (.int p2), .unset] []))
              refine Go.of (fun t k => XS.iconst X0.here hx rfl (hb hby d1_41) k) ?_
              show Go _ _ _ _ _ _ _ (s₁.setTop (mkF m 42 #[.val (.int p1), .val (.int p2), .unset] [(.int (0 : Int32))]))
              refine Go.of (fun t k => XS.istoreN X0.here hx rfl (hb hby d1_42) rfl (l' := #[.val (.int p1), .val (.int p2), .val (.int (0 : Int32))]) rfl k) ?_
              show Go _ _ _ _ _ _ _ (s₁.setTop (mkF m 43 #[.val (.int p1), .val (.int p2), .val (.int (0 : Int32))] []))
              refine Go.of (fun t k => XS.iloadN X0.here hx rfl (hb hby d1_43) rfl k) ?_
              show Go _ _ _ _ _ _ _ (s₁.setTop (mkF m 44 #[.val (.int p1), .val (.int p2), .val (.int (0 : Int32))] [(.int (0 : Int32))]))
              refine Go.of (fun t k => XS.ifYes X0.here hx rfl (pc0 := 44) (pc' := 52) rfl (hb hby d1_44) rfl ((if0 _ _).trans (teq (by decide : (0 : Int32) = (0 : Int32))).1) (by decide) (by decide) k) ?_
              show Go _ _ _ _ _ _ _ (s₁.setTop (mkF m 52 #[.val (.int p1), .val (.int p2), .val (.int (0 : Int32))] []))
              refine Go.of (fun t k => XS.bipush X0.here hx rfl (hb hby d1_52) k) ?_
              show Go _ _ _ _ _ _ _ (s₁.setTop (mkF m 54 #[.val (.int p1), .val (.int p2), .val (.int (0 : Int32))] [(.int (28 : Int32))]))
              refine Go.out X0 (v := some (.int (28 : Int32))) (fun h => by rw [Bd.returns] at h; cases h) hlk (fun fs hr => retOut X0 hx (t := .int) Bd.returns rfl (Or.inl ⟨rfl, Or.inl rfl, _, rfl⟩) (hb hby d1_54) hr) ?_ (by decide) (by decide)
              show Q1 Z p1 p2 h0 n0 _ s₁.heap _
              rw [e0]
              exact ⟨by simp [own_ml, own_leap, hc1_1, hc9_2, hc15_3, hc22_4, hc30_5, hc34_6], N0, rfl⟩
            · skip
              refine Go.of (fun t k => XS.ifNo X0.here hx rfl (hb hby d1_34) rfl ((if0 _ _).trans (feq hc34_6).1) k) ?_
              show Go _ _ _ _ _ _ _ (s₁.setTop (mkF m 37 #[.val (.int p1), .val (.int p2), .unset] []))
              refine Go.of (fun t k => XS.iconst X0.here hx rfl (hb hby d1_37) k) ?_
              show Go _ _ _ _ _ _ _ (s₁.setTop (mkF m 38 #[.val (.int p1), .val (.int p2), .unset] [(.int (1 : Int32))]))
              refine Go.of (fun t k => XS.goto X0.here hx rfl (pc0 := 38) (pc' := 42) rfl (hb hby d1_38) (by decide) (by decide) k) ?_
              show Go _ _ _ _ _ _ _ (s₁.setTop (mkF m 42 #[.val (.int p1), .val (.int p2), .unset] [(.int (1 : Int32))]))
              refine Go.of (fun t k => XS.istoreN X0.here hx rfl (hb hby d1_42) rfl (l' := #[.val (.int p1), .val (.int p2), .val (.int (1 : Int32))]) rfl k) ?_
              show Go _ _ _ _ _ _ _ (s₁.setTop (mkF m 43 #[.val (.int p1), .val (.int p2), .val (.int (1 : Int32))] []))
              refine Go.of (fun t k => XS.iloadN X0.here hx rfl (hb hby d1_43) rfl k) ?_
              show Go _ _ _ _ _ _ _ (s₁.setTop (mkF m 44 #[.val (.int p1), .val (.int p2), .val (.int (1 : Int32))] [(.int (1 : Int32))]))
              refine Go.of (fun t k => XS.ifNo X0.here hx rfl (hb hby d1_44) rfl ((if0 _ _).trans (feq (by decide : ¬ ((1 : Int32) = (0 : Int32)))).1) k) ?_
              show Go _ _ _ _ _ _ _ (s₁.setTop (mkF m 47 #[.val (.int p1), .val (.int p2), .val (.int (1 : Int32))] []))
              refine Go.of (fun t k => XS.bipush X0.here hx rfl (hb hby d1_47) k) ?_
              show Go _ _ _ _ _ _ _ (s₁.setTop (mkF m 49 #[.val (.int p1), .val (.int p2), .val (.int (1 : Int32))] [(.int (29 : Int32))]))
              refine Go.of (fun t k => XS.goto X0.here hx rfl (pc0 := 49) (pc' := 54) rfl (hb hby d1_49) (by decide) (by decide) k) ?_
              show Go _ _ _ _ _ _ _ (s₁.setTop (mkF m 54 #[.val (.int p1), .val (.int p2), .val (.int (1 : Int32))] [(.int (29 : Int32))]))
              refine Go.out X0 (v := some (.int (29 : Int32))) (fun h => by rw [Bd.returns] at h; cases h) hlk (fun fs hr => retOut X0 hx (t := .int) Bd.returns rfl (Or.inl ⟨rfl, Or.inl rfl, _, rfl⟩) (hb hby d1_54) hr) ?_ (by decide) (by decide)
              show Q1 Z p1 p2 h0 n0 _ s₁.heap _
              rw [e0]
              exact ⟨by simp [own_ml, own_leap, hc1_1, hc9_2, hc15_3, hc22_4, hc30_5, hc34_6], N0, rfl⟩
          · skip
            refine Go.of (fun t k => XS.ifYes X0.here hx rfl (pc0 := 30) (pc' := 41) rfl (hb hby d1_30) rfl ((if0 _ _).trans (feq hc30_5).2) (by decide) (by decide) k) ?_
            show Go _ _ _ _ _ _ _ (s₁.setTop (mkF m 41 #[.val (.int p1), .val (.int p2), .unset] []))
            refine Go.of (fun t k => XS.iconst X0.here hx rfl (hb hby d1_41) k) ?_
            show Go _ _ _ _ _ _ _ (s₁.setTop (mkF m 42 #[.val (.int p1), .val (.int p2), .unset] [(.int (0 : Int32))]))
            refine Go.of (fun t k => XS.istoreN X0.here hx rfl (hb hby d1_42) rfl (l' := #[.val (.int p1), .val (.int p2), .val (.int (0 : Int32))]) rfl k) ?_
            show Go _ _ _ _ _ _ _ (s₁.setTop (mkF m 43 #[.val (.int p1), .val (.int p2), .val (.int (0 : Int32))] []))
            refine Go.of (fun t k => XS.iloadN X0.here hx rfl (hb hby d1_43) rfl k) ?_
            show Go _ _ _ _ _ _ _ (s₁.setTop (mkF m 44 #[.val (.int p1), .val (.int p2), .val (.int (0 : Int32))] [(.int (0 : Int32))]))
            refine Go.of (fun t k => XS.ifYes X0.here hx rfl (pc0 := 44) (pc' := 52) rfl (hb hby d1_44) rfl ((if0 _ _).trans (teq (by decide : (0 : Int32) = (0 : Int32))).1) (by decide) (by decide) k) ?_
            show Go _ _ _ _ _ _ _ (s₁.setTop (mkF m 52 #[.val (.int p1), .val (.int p2), .val (.int (0 : Int32))] []))
            refine Go.of (fun t k => XS.bipush X0.here hx rfl (hb hby d1_52) k) ?_
            show Go _ _ _ _ _ _ _ (s₁.setTop (mkF m 54 #[.val (.int p1), .val (.int p2), .val (.int (0 : Int32))] [(.int (28 : Int32))]))
            refine Go.out X0 (v := some (.int (28 : Int32))) (fun h => by rw [Bd.returns] at h; cases h) hlk (fun fs hr => retOut X0 hx (t := .int) Bd.returns rfl (Or.inl ⟨rfl, Or.inl rfl, _, rfl⟩) (hb hby d1_54) hr) ?_ (by decide) (by decide)
            show Q1 Z p1 p2 h0 n0 _ s₁.heap _
            rw [e0]
            exact ⟨by simp [own_ml, own_leap, hc1_1, hc9_2, hc15_3, hc22_4, hc30_5], N0, rfl⟩
        · skip
          refine Go.of (fun t k => XS.ifYes X0.here hx rfl (pc0 := 22) (pc' := 37) rfl (hb hby d1_22) rfl ((if0 _ _).trans (feq hc22_4).2) (by decide) (by decide) k) ?_
          show Go _ _ _ _ _ _ _ (s₁.setTop (mkF m 37 #[.val (.int p1), .val (.int p2), .unset] []))
          refine Go.of (fun t k => XS.iconst X0.here hx rfl (hb hby d1_37) k) ?_
          show Go _ _ _ _ _ _ _ (s₁.setTop (mkF m 38 #[.val (.int p1), .val (.int p2), .unset] [(.int (1 : Int32))]))
          refine Go.of (fun t k => XS.goto X0.here hx rfl (pc0 := 38) (pc' := 42) rfl (hb hby d1_38) (by decide) (by decide) k) ?_
          show Go _ _ _ _ _ _ _ (s₁.setTop (mkF m 42 #[.val (.int p1), .val (.int p2), .unset] [(.int (1 : Int32))]))
          refine Go.of (fun t k => XS.istoreN X0.here hx rfl (hb hby d1_42) rfl (l' := #[.val (.int p1), .val (.int p2), .val (.int (1 : Int32))]) rfl k) ?_
          show Go _ _ _ _ _ _ _ (s₁.setTop (mkF m 43 #[.val (.int p1), .val (.int p2), .val (.int (1 : Int32))] []))
          refine Go.of (fun t k => XS.iloadN X0.here hx rfl (hb hby d1_43) rfl k) ?_
          show Go _ _ _ _ _ _ _ (s₁.setTop (mkF m 44 #[.val (.int p1), .val (.int p2), .val (.int (1 : Int32))] [(.int (1 : Int32))]))
          refine Go.of (fun t k => XS.ifNo X0.here hx rfl (hb hby d1_44) rfl ((if0 _ _).trans (feq (by decide : ¬ ((1 : Int32) = (0 : Int32)))).1) k) ?_
          show Go _ _ _ _ _ _ _ (s₁.setTop (mkF m 47 #[.val (.int p1), .val (.int p2), .val (.int (1 : Int32))] []))
          refine Go.of (fun t k => XS.bipush X0.here hx rfl (hb hby d1_47) k) ?_
          show Go _ _ _ _ _ _ _ (s₁.setTop (mkF m 49 #[.val (.int p1), .val (.int p2), .val (.int (1 : Int32))] [(.int (29 : Int32))]))
          refine Go.of (fun t k => XS.goto X0.here hx rfl (pc0 := 49) (pc' := 54) rfl (hb hby d1_49) (by decide) (by decide) k) ?_
          show Go _ _ _ _ _ _ _ (s₁.setTop (mkF m 54 #[.val (.int p1), .val (.int p2), .val (.int (1 : Int32))] [(.int (29 : Int32))]))
          refine Go.out X0 (v := some (.int (29 : Int32))) (fun h => by rw [Bd.returns] at h; cases h) hlk (fun fs hr => retOut X0 hx (t := .int) Bd.returns rfl (Or.inl ⟨rfl, Or.inl rfl, _, rfl⟩) (hb hby d1_54) hr) ?_ (by decide) (by decide)
          show Q1 Z p1 p2 h0 n0 _ s₁.heap _
          rw [e0]
          exact ⟨by simp [own_ml, own_leap, hc1_1, hc9_2, hc15_3, hc22_4], N0, rfl⟩
      · skip
        refine Go.of (fun t k => XS.ifYes X0.here hx rfl (pc0 := 15) (pc' := 41) rfl (hb hby d1_15) rfl ((if0 _ _).trans (feq hc15_3).2) (by decide) (by decide) k) ?_
        show Go _ _ _ _ _ _ _ (s₁.setTop (mkF m 41 #[.val (.int p1), .val (.int p2), .unset] []))
        refine Go.of (fun t k => XS.iconst X0.here hx rfl (hb hby d1_41) k) ?_
        show Go _ _ _ _ _ _ _ (s₁.setTop (mkF m 42 #[.val (.int p1), .val (.int p2), .unset] [(.int (0 : Int32))]))
        refine Go.of (fun t k => XS.istoreN X0.here hx rfl (hb hby d1_42) rfl (l' := #[.val (.int p1), .val (.int p2), .val (.int (0 : Int32))]) rfl k) ?_
        show Go _ _ _ _ _ _ _ (s₁.setTop (mkF m 43 #[.val (.int p1), .val (.int p2), .val (.int (0 : Int32))] []))
        refine Go.of (fun t k => XS.iloadN X0.here hx rfl (hb hby d1_43) rfl k) ?_
        show Go _ _ _ _ _ _ _ (s₁.setTop (mkF m 44 #[.val (.int p1), .val (.int p2), .val (.int (0 : Int32))] [(.int (0 : Int32))]))
        refine Go.of (fun t k => XS.ifYes X0.here hx rfl (pc0 := 44) (pc' := 52) rfl (hb hby d1_44) rfl ((if0 _ _).trans (teq (by decide : (0 : Int32) = (0 : Int32))).1) (by decide) (by decide) k) ?_
        show Go _ _ _ _ _ _ _ (s₁.setTop (mkF m 52 #[.val (.int p1), .val (.int p2), .val (.int (0 : Int32))] []))
        refine Go.of (fun t k => XS.bipush X0.here hx rfl (hb hby d1_52) k) ?_
        show Go _ _ _ _ _ _ _ (s₁.setTop (mkF m 54 #[.val (.int p1), .val (.int p2), .val (.int (0 : Int32))] [(.int (28 : Int32))]))
        refine Go.out X0 (v := some (.int (28 : Int32))) (fun h => by rw [Bd.returns] at h; cases h) hlk (fun fs hr => retOut X0 hx (t := .int) Bd.returns rfl (Or.inl ⟨rfl, Or.inl rfl, _, rfl⟩) (hb hby d1_54) hr) ?_ (by decide) (by decide)
        show Q1 Z p1 p2 h0 n0 _ s₁.heap _
        rw [e0]
        exact ⟨by simp [own_ml, own_leap, hc1_1, hc9_2, hc15_3], N0, rfl⟩
    · skip
      refine Go.of (fun t k => XS.icmpYes X0.here hx rfl (pc0 := 9) (pc' := 55) rfl (hb hby d1_9) rfl (feq hc9_2).2 (by decide) (by decide) k) ?_
      show Go _ _ _ _ _ _ _ (s₁.setTop (mkF m 55 #[.val (.int p1), .val (.int p2), .unset] []))
      refine Go.of (fun t k => XS.iloadN X0.here hx rfl (hb hby d1_55) rfl k) ?_
      show Go _ _ _ _ _ _ _ (s₁.setTop (mkF m 56 #[.val (.int p1), .val (.int p2), .unset] [(.int p2)]))
      refine Go.of (fun t k => XS.iconst X0.here hx rfl (hb hby d1_56) k) ?_
      show Go _ _ _ _ _ _ _ (s₁.setTop (mkF m 57 #[.val (.int p1), .val (.int p2), .unset] [(.int (4 : Int32)), (.int p2)]))
      by_cases hc57_7 : p2 = (4 : Int32)
      · skip
        refine Go.of (fun t k => XS.icmpYes X0.here hx rfl (pc0 := 57) (pc' := 78) rfl (hb hby d1_57) rfl (teq hc57_7).1 (by decide) (by decide) k) ?_
        show Go _ _ _ _ _ _ _ (s₁.setTop (mkF m 78 #[.val (.int p1), .val (.int p2), .unset] []))
        refine Go.of (fun t k => XS.bipush X0.here hx rfl (hb hby d1_78) k) ?_
        show Go _ _ _ _ _ _ _ (s₁.setTop (mkF m 80 #[.val (.int p1), .val (.int p2), .unset] [(.int (30 : Int32))]))
        refine Go.out X0 (v := some (.int (30 : Int32))) (fun h => by rw [Bd.returns] at h; cases h) hlk (fun fs hr => retOut X0 hx (t := .int) Bd.returns rfl (Or.inl ⟨rfl, Or.inl rfl, _, rfl⟩) (hb hby d1_80) hr) ?_ (by decide) (by decide)
        show Q1 Z p1 p2 h0 n0 _ s₁.heap _
        rw [e0]
        exact ⟨by simp [own_ml, own_leap, hc1_1, hc9_2, hc57_7], N0, rfl⟩
      · skip
        refine Go.of (fun t k => XS.icmpNo X0.here hx rfl (hb hby d1_57) rfl (feq hc57_7).1 k) ?_
        show Go _ _ _ _ _ _ _ (s₁.setTop (mkF m 60 #[.val (.int p1), .val (.int p2), .unset] []))
        refine Go.of (fun t k => XS.iloadN X0.here hx rfl (hb hby d1_60) rfl k) ?_
        show Go _ _ _ _ _ _ _ (s₁.setTop (mkF m 61 #[.val (.int p1), .val (.int p2), .unset] [(.int p2)]))
        refine Go.of (fun t k => XS.bipush X0.here hx rfl (hb hby d1_61) k) ?_
        show Go _ _ _ _ _ _ _ (s₁.setTop (mkF m 63 #[.val (.int p1), .val (.int p2), .unset] [(.int (6 : Int32)), (.int p2)]))
        by_cases hc63_8 : p2 = (6 : Int32)
        · skip
          refine Go.of (fun t k => XS.icmpYes X0.here hx rfl (pc0 := 63) (pc' := 78) rfl (hb hby d1_63) rfl (teq hc63_8).1 (by decide) (by decide) k) ?_
          show Go _ _ _ _ _ _ _ (s₁.setTop (mkF m 78 #[.val (.int p1), .val (.int p2), .unset] []))
          refine Go.of (fun t k => XS.bipush X0.here hx rfl (hb hby d1_78) k) ?_
          show Go _ _ _ _ _ _ _ (s₁.setTop (mkF m 80 #[.val (.int p1), .val (.int p2), .unset] [(.int (30 : Int32))]))
          refine Go.out X0 (v := some (.int (30 : Int32))) (fun h => by rw [Bd.returns] at h; cases h) hlk (fun fs hr => retOut X0 hx (t := .int) Bd.returns rfl (Or.inl ⟨rfl, Or.inl rfl, _, rfl⟩) (hb hby d1_80) hr) ?_ (by decide) (by decide)
          show Q1 Z p1 p2 h0 n0 _ s₁.heap _
          rw [e0]
          exact ⟨by simp [own_ml, own_leap, hc1_1, hc9_2, hc57_7, hc63_8], N0, rfl⟩
        · skip
          refine Go.of (fun t k => XS.icmpNo X0.here hx rfl (hb hby d1_63) rfl (feq hc63_8).1 k) ?_
          show Go _ _ _ _ _ _ _ (s₁.setTop (mkF m 66 #[.val (.int p1), .val (.int p2), .unset] []))
          refine Go.of (fun t k => XS.iloadN X0.here hx rfl (hb hby d1_66) rfl k) ?_
          show Go _ _ _ _ _ _ _ (s₁.setTop (mkF m 67 #[.val (.int p1), .val (.int p2), .unset] [(.int p2)]))
          refine Go.of (fun t k => XS.bipush X0.here hx rfl (hb hby d1_67) k) ?_
          show Go _ _ _ _ _ _ _ (s₁.setTop (mkF m 69 #[.val (.int p1), .val (.int p2), .unset] [(.int (9 : Int32)), (.int p2)]))
          by_cases hc69_9 : p2 = (9 : Int32)
          · skip
            refine Go.of (fun t k => XS.icmpYes X0.here hx rfl (pc0 := 69) (pc' := 78) rfl (hb hby d1_69) rfl (teq hc69_9).1 (by decide) (by decide) k) ?_
            show Go _ _ _ _ _ _ _ (s₁.setTop (mkF m 78 #[.val (.int p1), .val (.int p2), .unset] []))
            refine Go.of (fun t k => XS.bipush X0.here hx rfl (hb hby d1_78) k) ?_
            show Go _ _ _ _ _ _ _ (s₁.setTop (mkF m 80 #[.val (.int p1), .val (.int p2), .unset] [(.int (30 : Int32))]))
            refine Go.out X0 (v := some (.int (30 : Int32))) (fun h => by rw [Bd.returns] at h; cases h) hlk (fun fs hr => retOut X0 hx (t := .int) Bd.returns rfl (Or.inl ⟨rfl, Or.inl rfl, _, rfl⟩) (hb hby d1_80) hr) ?_ (by decide) (by decide)
            show Q1 Z p1 p2 h0 n0 _ s₁.heap _
            rw [e0]
            exact ⟨by simp [own_ml, own_leap, hc1_1, hc9_2, hc57_7, hc63_8, hc69_9], N0, rfl⟩
          · skip
            refine Go.of (fun t k => XS.icmpNo X0.here hx rfl (hb hby d1_69) rfl (feq hc69_9).1 k) ?_
            show Go _ _ _ _ _ _ _ (s₁.setTop (mkF m 72 #[.val (.int p1), .val (.int p2), .unset] []))
            refine Go.of (fun t k => XS.iloadN X0.here hx rfl (hb hby d1_72) rfl k) ?_
            show Go _ _ _ _ _ _ _ (s₁.setTop (mkF m 73 #[.val (.int p1), .val (.int p2), .unset] [(.int p2)]))
            refine Go.of (fun t k => XS.bipush X0.here hx rfl (hb hby d1_73) k) ?_
            show Go _ _ _ _ _ _ _ (s₁.setTop (mkF m 75 #[.val (.int p1), .val (.int p2), .unset] [(.int (11 : Int32)), (.int p2)]))
            by_cases hc75_10 : p2 = (11 : Int32)
            · skip
              refine Go.of (fun t k => XS.icmpNo X0.here hx rfl (hb hby d1_75) rfl (teq hc75_10).2 k) ?_
              show Go _ _ _ _ _ _ _ (s₁.setTop (mkF m 78 #[.val (.int p1), .val (.int p2), .unset] []))
              refine Go.of (fun t k => XS.bipush X0.here hx rfl (hb hby d1_78) k) ?_
              show Go _ _ _ _ _ _ _ (s₁.setTop (mkF m 80 #[.val (.int p1), .val (.int p2), .unset] [(.int (30 : Int32))]))
              refine Go.out X0 (v := some (.int (30 : Int32))) (fun h => by rw [Bd.returns] at h; cases h) hlk (fun fs hr => retOut X0 hx (t := .int) Bd.returns rfl (Or.inl ⟨rfl, Or.inl rfl, _, rfl⟩) (hb hby d1_80) hr) ?_ (by decide) (by decide)
              show Q1 Z p1 p2 h0 n0 _ s₁.heap _
              rw [e0]
              exact ⟨by simp [own_ml, own_leap, hc1_1, hc9_2, hc57_7, hc63_8, hc69_9, hc75_10], N0, rfl⟩
            · skip
              refine Go.of (fun t k => XS.icmpYes X0.here hx rfl (pc0 := 75) (pc' := 81) rfl (hb hby d1_75) rfl (feq hc75_10).2 (by decide) (by decide) k) ?_
              show Go _ _ _ _ _ _ _ (s₁.setTop (mkF m 81 #[.val (.int p1), .val (.int p2), .unset] []))
              refine Go.of (fun t k => XS.bipush X0.here hx rfl (hb hby d1_81) k) ?_
              show Go _ _ _ _ _ _ _ (s₁.setTop (mkF m 83 #[.val (.int p1), .val (.int p2), .unset] [(.int (31 : Int32))]))
              refine Go.out X0 (v := some (.int (31 : Int32))) (fun h => by rw [Bd.returns] at h; cases h) hlk (fun fs hr => retOut X0 hx (t := .int) Bd.returns rfl (Or.inl ⟨rfl, Or.inl rfl, _, rfl⟩) (hb hby d1_83) hr) ?_ (by decide) (by decide)
              show Q1 Z p1 p2 h0 n0 _ s₁.heap _
              rw [e0]
              exact ⟨by simp [own_ml, own_leap, hc1_1, hc9_2, hc57_7, hc63_8, hc69_9, hc75_10], N0, rfl⟩
theorem pn_1 : plainName "java/lang/Record" = true := by first | (simp [plainName, overriddenIn]; done) | decide +kernel
theorem d3_0 : decode jdk_30_method_1_code 0 = .ok (.aload_n 0, 1) := by decide +kernel
theorem d3_1 : decode jdk_30_method_1_code 1 = .ok (.invokespecial 1, 3) := by decide +kernel
theorem d3_4 : decode jdk_30_method_1_code 4 = .ok (.return_, 1) := by decide +kernel
def Q3 (Z : State) (a1 : Addr) (h0 : Heap) (n0 : Nat) (v : Option Value) (h : Heap) (L : List Loc) : Prop := v = none ∧ Fr n0 L ∧ h = h0
set_option maxRecDepth 65536 in
set_option maxHeartbeats 40000000 in
theorem rm3 (l : Launch) (Z : State) (a0 : Array Value) (hw : ∀ d ∈ tables_1, d.before a0 Z = true) (ws : List Jvm.Cond) (a1 : Addr) (h0 : Heap) (n0 : Nat) (Z0 : n0 ≤ h0.size) :
    MetFree l (⟨"java/lang/Record", "<init>", "()V"⟩ : MethodName) (head1 (Jvm.Cond.code (⟨"java/lang/Record", "<init>", "()V"⟩ : MethodName) jdk_30_method_1_code 1 none :: ws) ({ frames := 1, cells := 0, slots := 0, locals := 12 } : Room)) (fun a U => a = #[(.ref a1)] ∧ Z.Warmed39 U.vm ∧ U.heap = h0) (fun _ _ _ _ _ => True) (fun _ U o U' => ∃ v L, o = .returned v ∧ Q3 Z a1 h0 n0 v U'.heap L ∧ FrameEnd U o U' L ({ frames := 1, cells := 0, slots := 0, locals := 12 } : Room).cells ({ frames := 1, cells := 0, slots := 0, locals := 12 } : Room).slots) := by
  refine MetFree.of_bodySF (plainFor_of_name pn_1) hisR ?_
  intro p e s m args below meth c s₁ Bd hml0 hP hK
  obtain ⟨rfl, hZ, hh⟩ := hP
  have hx := Bd.exec
  have hby := Bd.bytes
  have hml : c.maxLocals = 1 := hml0
  have hown : s.vm.findClass "java/lang/Record" = some m.cls := findClass_of_methodNamed Bd.named
  have hnm := (name_of_methodNamed Bd.named Bd.method).1
  have hlk : meth.locks = false := BodyLoose.notSynchronized Bd
  have X0 : Stand p l e ({ frames := 1, cells := 0, slots := 0, locals := 12 } : Room) s m #[(.ref a1)] below meth c s₁ [] 0 0 := Stand.of_body Bd
  have e0 : s₁.heap = h0 := by rw [← hh, Bd.state]; rfl
  have N0 := Fr.nil n0
  have hef : entryFrame m #[(.ref a1)] 1 = mkF m 0 #[.val (.ref a1)] [] := by first | (simp [entryFrame, mkF, argsToLocals, Value.category]; done) | rfl
  show Go p e below s ({ frames := 1, cells := 0, slots := 0, locals := 12 } : Room).cells ({ frames := 1, cells := 0, slots := 0, locals := 12 } : Room).slots (Q3 Z a1 h0 n0) (s₁.setTop (entryFrame m #[(.ref a1)] 1))
  rw [hef]
  refine Go.of (fun t k => XS.aloadN X0.here hx rfl (hb hby d3_0) rfl rfl k) ?_
  show Go _ _ _ _ _ _ _ (s₁.setTop (mkF m 1 #[.val (.ref a1)] [(.ref a1)]))
  obtain ⟨T1, X1, e1, st1⟩ := initO X0 hx hZ hown (hw _ (List.mem_of_getElem? (i := 16) rfl)) (hw _ (List.mem_of_getElem? (i := 17) rfl)) (hw _ (List.mem_of_getElem? (i := 18) rfl)) e0 (g := (mkF m 1 #[.val (.ref a1)] [(.ref a1)])) rfl (by rw [hml]; rfl) rfl (hb hby d3_1) (by decide) (W := 0) (by show 2 * 0 + _ ≤ _; exact Nat.le_of_eq rfl) (by decide)
  refine Go.of st1 ?_
  show Go _ _ _ _ _ _ _ (T1.setTop (mkF m 4 #[.val (.ref a1)] []))
  refine Go.out X1 (v := none) (fun _ => rfl) hlk (fun fs hr => X1.returnOut hx Bd.returns (hb hby d3_4) hr) ?_ (by decide) (by decide)
  show Q3 Z a1 h0 n0 _ T1.heap _
  rw [e1]
  exact ⟨rfl, N0, rfl⟩
theorem pn_2 : plainName "java/time/Month" = true := by first | (simp [plainName, overriddenIn]; done) | decide +kernel
theorem d7_0 : decode jdk_2329_method_4_code 0 = .ok (.iload_n 0, 1) := by decide +kernel
theorem d7_1 : decode jdk_2329_method_4_code 1 = .ok (.iconst 1, 1) := by decide +kernel
theorem d7_2 : decode jdk_2329_method_4_code 2 = .ok (.if_icmp .lt 9, 3) := by decide +kernel
theorem d7_5 : decode jdk_2329_method_4_code 5 = .ok (.iload_n 0, 1) := by decide +kernel
theorem d7_6 : decode jdk_2329_method_4_code 6 = .ok (.bipush 12, 2) := by decide +kernel
theorem d7_8 : decode jdk_2329_method_4_code 8 = .ok (.if_icmp .le 30, 3) := by decide +kernel
theorem d7_38 : decode jdk_2329_method_4_code 38 = .ok (.getstatic 82, 3) := by decide +kernel
theorem d7_41 : decode jdk_2329_method_4_code 41 = .ok (.iload_n 0, 1) := by decide +kernel
theorem d7_42 : decode jdk_2329_method_4_code 42 = .ok (.iconst 1, 1) := by decide +kernel
theorem d7_43 : decode jdk_2329_method_4_code 43 = .ok (.isub, 1) := by decide +kernel
theorem d7_44 : decode jdk_2329_method_4_code 44 = .ok (.aaload, 1) := by decide +kernel
theorem d7_45 : decode jdk_2329_method_4_code 45 = .ok (.areturn, 1) := by decide +kernel
def Q7 (Z : State) (p1 : Int32) (w : Addr) (cl : Cell) (mo : Int32 → Addr) (h0 : Heap) (n0 : Nat) (v : Option Value) (h : Heap) (L : List Loc) : Prop := v = some (.ref (mo (p1 - 1))) ∧ Fr n0 L ∧ h = h0
set_option maxRecDepth 65536 in
set_option maxHeartbeats 40000000 in
theorem rm7 (l : Launch) (Z : State) (a0 : Array Value) (hw : ∀ d ∈ tables_1, d.before a0 Z = true) (ws : List Jvm.Cond) (p1 : Int32) (w : Addr) (cl : Cell) (mo : Int32 → Addr) (h0 : Heap) (n0 : Nat) (Z0 : n0 ≤ h0.size) (M : own_months Z h0 w cl mo) (hq : ¬ p1 < (1 : Int32)) (hq2 : ¬ (12 : Int32) < p1) (hp0 : ¬ (p1 - (1 : Int32)) < 0) (hp1 : (p1 - (1 : Int32)) < 12) :
    MetFree l (⟨"java/time/Month", "of", "(I)Ljava/time/Month;"⟩ : MethodName) (head1 (Jvm.Cond.code (⟨"java/time/Month", "of", "(I)Ljava/time/Month;"⟩ : MethodName) jdk_2329_method_4_code 1 (some (.object "java/time/Month")) :: ws) ({ frames := 0, cells := 0, slots := 0, locals := 0 } : Room)) (fun a U => a = #[(.int p1)] ∧ Z.Warmed39 U.vm ∧ U.heap = h0) (fun _ _ _ _ _ => True) (fun _ U o U' => ∃ v L, o = .returned v ∧ Q7 Z p1 w cl mo h0 n0 v U'.heap L ∧ FrameEnd U o U' L ({ frames := 0, cells := 0, slots := 0, locals := 0 } : Room).cells ({ frames := 0, cells := 0, slots := 0, locals := 0 } : Room).slots) := by
  refine MetFree.of_bodySF (plainFor_of_name pn_2) hisR ?_
  intro p e s m args below meth c s₁ Bd hml0 hP hK
  obtain ⟨rfl, hZ, hh⟩ := hP
  have hx := Bd.exec
  have hby := Bd.bytes
  have hml : c.maxLocals = 1 := hml0
  have hown : s.vm.findClass "java/time/Month" = some m.cls := findClass_of_methodNamed Bd.named
  have hnm := (name_of_methodNamed Bd.named Bd.method).1
  have hlk : meth.locks = false := BodyLoose.notSynchronized Bd
  have X0 : Stand p l e ({ frames := 0, cells := 0, slots := 0, locals := 0 } : Room) s m #[(.int p1)] below meth c s₁ [] 0 0 := Stand.of_body Bd
  have e0 : s₁.heap = h0 := by rw [← hh, Bd.state]; rfl
  have N0 := Fr.nil n0
  have hef : entryFrame m #[(.int p1)] 1 = mkF m 0 #[.val (.int p1)] [] := by first | (simp [entryFrame, mkF, argsToLocals, Value.category]; done) | rfl
  show Go p e below s ({ frames := 0, cells := 0, slots := 0, locals := 0 } : Room).cells ({ frames := 0, cells := 0, slots := 0, locals := 0 } : Room).slots (Q7 Z p1 w cl mo h0 n0) (s₁.setTop (entryFrame m #[(.int p1)] 1))
  rw [hef]
  refine Go.of (fun t k => XS.iloadN X0.here hx rfl (hb hby d7_0) rfl k) ?_
  show Go _ _ _ _ _ _ _ (s₁.setTop (mkF m 1 #[.val (.int p1)] [(.int p1)]))
  refine Go.of (fun t k => XS.iconst X0.here hx rfl (hb hby d7_1) k) ?_
  show Go _ _ _ _ _ _ _ (s₁.setTop (mkF m 2 #[.val (.int p1)] [(.int (1 : Int32)), (.int p1)]))
  have hc2 : ¬ (p1 < (1 : Int32)) := hq
  refine Go.of (fun t k => XS.icmpNo X0.here hx rfl (hb hby d7_2) rfl (flt hc2).1 k) ?_
  show Go _ _ _ _ _ _ _ (s₁.setTop (mkF m 5 #[.val (.int p1)] []))
  refine Go.of (fun t k => XS.iloadN X0.here hx rfl (hb hby d7_5) rfl k) ?_
  show Go _ _ _ _ _ _ _ (s₁.setTop (mkF m 6 #[.val (.int p1)] [(.int p1)]))
  refine Go.of (fun t k => XS.bipush X0.here hx rfl (hb hby d7_6) k) ?_
  show Go _ _ _ _ _ _ _ (s₁.setTop (mkF m 8 #[.val (.int p1)] [(.int (12 : Int32)), (.int p1)]))
  have hc8 : ¬ ((12 : Int32) < p1) := hq2
  refine Go.of (fun t k => XS.icmpYes X0.here hx rfl (pc0 := 8) (pc' := 38) rfl (hb hby d7_8) rfl (flt hc8).2.2.2 (by decide) (by decide) k) ?_
  show Go _ _ _ _ _ _ _ (s₁.setTop (mkF m 38 #[.val (.int p1)] []))
  obtain ⟨T1, X1, e1, st1⟩ := getS2 X0 hx hZ hown (host := "") (Or.inl (hw _ (List.mem_of_getElem? (i := 29) rfl))) Via.refl e0 M.1 (g := (mkF m 38 #[.val (.int p1)] [])) rfl (hb hby d7_38)
  refine Go.of st1 ?_
  show Go _ _ _ _ _ _ _ (T1.setTop (mkF m 41 #[.val (.int p1)] [(.ref w)]))
  refine Go.of (fun t k => XS.iloadN X1.here hx rfl (hb hby d7_41) rfl k) ?_
  show Go _ _ _ _ _ _ _ (T1.setTop (mkF m 42 #[.val (.int p1)] [(.int p1), (.ref w)]))
  refine Go.of (fun t k => XS.iconst X1.here hx rfl (hb hby d7_42) k) ?_
  show Go _ _ _ _ _ _ _ (T1.setTop (mkF m 43 #[.val (.int p1)] [(.int (1 : Int32)), (.int p1), (.ref w)]))
  refine Go.of (fun t k => XS.isub X1.here hx rfl (hb hby d7_43) rfl k) ?_
  show Go _ _ _ _ _ _ _ (T1.setTop (mkF m 44 #[.val (.int p1)] [(.int (p1 - (1 : Int32))), (.ref w)]))
  have hin2 := inb_of M.2.2.1 (j := (p1 - (1 : Int32))) ⟨hp0, hp1⟩
  refine Go.of (X1.aaload hx (j := (p1 - (1 : Int32))) (v := (.ref (mo (p1 - (1 : Int32))))) (by rw [e1]; exact M.2.1.1) (State.isArrayOf_alike hZ.alike M.2.1.2.1) rfl M.2.1.2.2 hin2 (M.2.2.2 (p1 - (1 : Int32)) hp0 hp1).1 (g := (mkF m 44 #[.val (.int p1)] [(.int (p1 - (1 : Int32))), (.ref w)])) rfl rfl (hb hby d7_44)) ?_
  show Go _ _ _ _ _ _ _ (T1.setTop (mkF m 45 #[.val (.int p1)] [(.ref (mo (p1 - (1 : Int32))))]))
  refine Go.out X1 (v := some (.ref (mo (p1 - (1 : Int32))))) (fun h => by rw [Bd.returns] at h; cases h) hlk (fun fs hr => retOut X1 hx (t := (.object "java/time/Month")) Bd.returns rfl (Or.inr (Or.inr (Or.inr (Or.inr ⟨rfl, rfl, rfl⟩)))) (hb hby d7_45) hr) ?_ (by decide) (by decide)
  show Q7 Z p1 w cl mo h0 n0 _ T1.heap _
  rw [e1]
  exact ⟨rfl, N0, rfl⟩
theorem pn_3 : plainName "com/example/live_alter/livealter/schema/Datetime" = true := by first | (simp [plainName, overriddenIn]; done) | decide +kernel
theorem d8_0 : decode prog_122_method_15_code 0 = .ok (.iload_n 0, 1) := by decide +kernel
theorem d8_1 : decode prog_122_method_15_code 1 = .ok (.iconst 4, 1) := by decide +kernel
theorem d8_2 : decode prog_122_method_15_code 2 = .ok (.irem, 1) := by decide +kernel
theorem d8_3 : decode prog_122_method_15_code 3 = .ok (.ifCond .ne 26, 3) := by decide +kernel
theorem d8_6 : decode prog_122_method_15_code 6 = .ok (.iload_n 0, 1) := by decide +kernel
theorem d8_7 : decode prog_122_method_15_code 7 = .ok (.bipush 100, 2) := by decide +kernel
theorem d8_9 : decode prog_122_method_15_code 9 = .ok (.irem, 1) := by decide +kernel
theorem d8_10 : decode prog_122_method_15_code 10 = .ok (.ifCond .ne 15, 3) := by decide +kernel
theorem d8_13 : decode prog_122_method_15_code 13 = .ok (.iload_n 0, 1) := by decide +kernel
theorem d8_14 : decode prog_122_method_15_code 14 = .ok (.sipush 400, 3) := by decide +kernel
theorem d8_17 : decode prog_122_method_15_code 17 = .ok (.irem, 1) := by decide +kernel
theorem d8_18 : decode prog_122_method_15_code 18 = .ok (.ifCond .ne 11, 3) := by decide +kernel
theorem d8_21 : decode prog_122_method_15_code 21 = .ok (.iload_n 0, 1) := by decide +kernel
theorem d8_22 : decode prog_122_method_15_code 22 = .ok (.ifCond .eq 7, 3) := by decide +kernel
theorem d8_25 : decode prog_122_method_15_code 25 = .ok (.iconst 1, 1) := by decide +kernel
theorem d8_26 : decode prog_122_method_15_code 26 = .ok (.goto 4, 3) := by decide +kernel
theorem d8_29 : decode prog_122_method_15_code 29 = .ok (.iconst 0, 1) := by decide +kernel
theorem d8_30 : decode prog_122_method_15_code 30 = .ok (.ireturn, 1) := by decide +kernel
def Q8 (Z : State) (p1 : Int32) (h0 : Heap) (n0 : Nat) (v : Option Value) (h : Heap) (L : List Loc) : Prop := v = some (.int (own_leap p1)) ∧ Fr n0 L ∧ h = h0
set_option maxRecDepth 65536 in
set_option maxHeartbeats 40000000 in
theorem rm8 (l : Launch) (Z : State) (a0 : Array Value) (hw : ∀ d ∈ tables_1, d.before a0 Z = true) (ws : List Jvm.Cond) (p1 : Int32) (h0 : Heap) (n0 : Nat) (Z0 : n0 ≤ h0.size) :
    MetFree l (⟨"com/example/live_alter/livealter/schema/Datetime", "isLeapYear", "(I)Z"⟩ : MethodName) (head1 (Jvm.Cond.code (⟨"com/example/live_alter/livealter/schema/Datetime", "isLeapYear", "(I)Z"⟩ : MethodName) prog_122_method_15_code 1 (some .boolean) :: ws) ({ frames := 0, cells := 0, slots := 0, locals := 0 } : Room)) (fun a U => a = #[(.int p1)] ∧ Z.Warmed39 U.vm ∧ U.heap = h0) (fun _ _ _ _ _ => True) (fun _ U o U' => ∃ v L, o = .returned v ∧ Q8 Z p1 h0 n0 v U'.heap L ∧ FrameEnd U o U' L ({ frames := 0, cells := 0, slots := 0, locals := 0 } : Room).cells ({ frames := 0, cells := 0, slots := 0, locals := 0 } : Room).slots) := by
  refine MetFree.of_bodySF (plainFor_of_name pn_3) hisR ?_
  intro p e s m args below meth c s₁ Bd hml0 hP hK
  obtain ⟨rfl, hZ, hh⟩ := hP
  have hx := Bd.exec
  have hby := Bd.bytes
  have hml : c.maxLocals = 1 := hml0
  have hown : s.vm.findClass "com/example/live_alter/livealter/schema/Datetime" = some m.cls := findClass_of_methodNamed Bd.named
  have hnm := (name_of_methodNamed Bd.named Bd.method).1
  have hlk : meth.locks = false := BodyLoose.notSynchronized Bd
  have X0 : Stand p l e ({ frames := 0, cells := 0, slots := 0, locals := 0 } : Room) s m #[(.int p1)] below meth c s₁ [] 0 0 := Stand.of_body Bd
  have e0 : s₁.heap = h0 := by rw [← hh, Bd.state]; rfl
  have N0 := Fr.nil n0
  have hef : entryFrame m #[(.int p1)] 1 = mkF m 0 #[.val (.int p1)] [] := by first | (simp [entryFrame, mkF, argsToLocals, Value.category]; done) | rfl
  show Go p e below s ({ frames := 0, cells := 0, slots := 0, locals := 0 } : Room).cells ({ frames := 0, cells := 0, slots := 0, locals := 0 } : Room).slots (Q8 Z p1 h0 n0) (s₁.setTop (entryFrame m #[(.int p1)] 1))
  rw [hef]
  refine Go.of (fun t k => XS.iloadN X0.here hx rfl (hb hby d8_0) rfl k) ?_
  show Go _ _ _ _ _ _ _ (s₁.setTop (mkF m 1 #[.val (.int p1)] [(.int p1)]))
  refine Go.of (fun t k => XS.iconst X0.here hx rfl (hb hby d8_1) k) ?_
  show Go _ _ _ _ _ _ _ (s₁.setTop (mkF m 2 #[.val (.int p1)] [(.int (4 : Int32)), (.int p1)]))
  refine Go.of (fun t k => iremM X0 hx rfl (hb hby d8_2) rfl (by decide) k) ?_
  show Go _ _ _ _ _ _ _ (s₁.setTop (mkF m 3 #[.val (.int p1)] [(.int (p1 % (4 : Int32)))]))
  by_cases hc3_1 : (p1 % (4 : Int32)) = (0 : Int32)
  · skip
    refine Go.of (fun t k => XS.ifNo X0.here hx rfl (hb hby d8_3) rfl ((if0 _ _).trans (teq hc3_1).2) k) ?_
    show Go _ _ _ _ _ _ _ (s₁.setTop (mkF m 6 #[.val (.int p1)] []))
    refine Go.of (fun t k => XS.iloadN X0.here hx rfl (hb hby d8_6) rfl k) ?_
    show Go _ _ _ _ _ _ _ (s₁.setTop (mkF m 7 #[.val (.int p1)] [(.int p1)]))
    refine Go.of (fun t k => XS.bipush X0.here hx rfl (hb hby d8_7) k) ?_
    show Go _ _ _ _ _ _ _ (s₁.setTop (mkF m 9 #[.val (.int p1)] [(.int (100 : Int32)), (.int p1)]))
    refine Go.of (fun t k => iremM X0 hx rfl (hb hby d8_9) rfl (by decide) k) ?_
    show Go _ _ _ _ _ _ _ (s₁.setTop (mkF m 10 #[.val (.int p1)] [(.int (p1 % (100 : Int32)))]))
    by_cases hc10_2 : (p1 % (100 : Int32)) = (0 : Int32)
    · skip
      refine Go.of (fun t k => XS.ifNo X0.here hx rfl (hb hby d8_10) rfl ((if0 _ _).trans (teq hc10_2).2) k) ?_
      show Go _ _ _ _ _ _ _ (s₁.setTop (mkF m 13 #[.val (.int p1)] []))
      refine Go.of (fun t k => XS.iloadN X0.here hx rfl (hb hby d8_13) rfl k) ?_
      show Go _ _ _ _ _ _ _ (s₁.setTop (mkF m 14 #[.val (.int p1)] [(.int p1)]))
      refine Go.of (fun t k => XS.sipush X0.here hx rfl (hb hby d8_14) k) ?_
      show Go _ _ _ _ _ _ _ (s₁.setTop (mkF m 17 #[.val (.int p1)] [(.int (400 : Int32)), (.int p1)]))
      refine Go.of (fun t k => iremM X0 hx rfl (hb hby d8_17) rfl (by decide) k) ?_
      show Go _ _ _ _ _ _ _ (s₁.setTop (mkF m 18 #[.val (.int p1)] [(.int (p1 % (400 : Int32)))]))
      by_cases hc18_3 : (p1 % (400 : Int32)) = (0 : Int32)
      · skip
        refine Go.of (fun t k => XS.ifNo X0.here hx rfl (hb hby d8_18) rfl ((if0 _ _).trans (teq hc18_3).2) k) ?_
        show Go _ _ _ _ _ _ _ (s₁.setTop (mkF m 21 #[.val (.int p1)] []))
        refine Go.of (fun t k => XS.iloadN X0.here hx rfl (hb hby d8_21) rfl k) ?_
        show Go _ _ _ _ _ _ _ (s₁.setTop (mkF m 22 #[.val (.int p1)] [(.int p1)]))
        by_cases hc22_4 : p1 = (0 : Int32)
        · skip
          refine Go.of (fun t k => XS.ifYes X0.here hx rfl (pc0 := 22) (pc' := 29) rfl (hb hby d8_22) rfl ((if0 _ _).trans (teq hc22_4).1) (by decide) (by decide) k) ?_
          show Go _ _ _ _ _ _ _ (s₁.setTop (mkF m 29 #[.val (.int p1)] []))
          refine Go.of (fun t k => XS.iconst X0.here hx rfl (hb hby d8_29) k) ?_
          show Go _ _ _ _ _ _ _ (s₁.setTop (mkF m 30 #[.val (.int p1)] [(.int (0 : Int32))]))
          refine Go.out X0 (v := some (.int (0 : Int32))) (fun h => by rw [Bd.returns] at h; cases h) hlk (fun fs hr => retN X0 hx (t := .boolean) Bd.returns (by simp) (hb hby d8_30) hr) ?_ (by decide) (by decide)
          show Q8 Z p1 h0 n0 _ s₁.heap _
          rw [e0]
          exact ⟨by simp [own_leap, hc3_1, hc10_2, hc18_3, hc22_4], N0, rfl⟩
        · skip
          refine Go.of (fun t k => XS.ifNo X0.here hx rfl (hb hby d8_22) rfl ((if0 _ _).trans (feq hc22_4).1) k) ?_
          show Go _ _ _ _ _ _ _ (s₁.setTop (mkF m 25 #[.val (.int p1)] []))
          refine Go.of (fun t k => XS.iconst X0.here hx rfl (hb hby d8_25) k) ?_
          show Go _ _ _ _ _ _ _ (s₁.setTop (mkF m 26 #[.val (.int p1)] [(.int (1 : Int32))]))
          refine Go.of (fun t k => XS.goto X0.here hx rfl (pc0 := 26) (pc' := 30) rfl (hb hby d8_26) (by decide) (by decide) k) ?_
          show Go _ _ _ _ _ _ _ (s₁.setTop (mkF m 30 #[.val (.int p1)] [(.int (1 : Int32))]))
          refine Go.out X0 (v := some (.int (1 : Int32))) (fun h => by rw [Bd.returns] at h; cases h) hlk (fun fs hr => retN X0 hx (t := .boolean) Bd.returns (by simp) (hb hby d8_30) hr) ?_ (by decide) (by decide)
          show Q8 Z p1 h0 n0 _ s₁.heap _
          rw [e0]
          exact ⟨by simp [own_leap, hc3_1, hc10_2, hc18_3, hc22_4], N0, rfl⟩
      · skip
        refine Go.of (fun t k => XS.ifYes X0.here hx rfl (pc0 := 18) (pc' := 29) rfl (hb hby d8_18) rfl ((if0 _ _).trans (feq hc18_3).2) (by decide) (by decide) k) ?_
        show Go _ _ _ _ _ _ _ (s₁.setTop (mkF m 29 #[.val (.int p1)] []))
        refine Go.of (fun t k => XS.iconst X0.here hx rfl (hb hby d8_29) k) ?_
        show Go _ _ _ _ _ _ _ (s₁.setTop (mkF m 30 #[.val (.int p1)] [(.int (0 : Int32))]))
        refine Go.out X0 (v := some (.int (0 : Int32))) (fun h => by rw [Bd.returns] at h; cases h) hlk (fun fs hr => retN X0 hx (t := .boolean) Bd.returns (by simp) (hb hby d8_30) hr) ?_ (by decide) (by decide)
        show Q8 Z p1 h0 n0 _ s₁.heap _
        rw [e0]
        exact ⟨by simp [own_leap, hc3_1, hc10_2, hc18_3], N0, rfl⟩
    · skip
      refine Go.of (fun t k => XS.ifYes X0.here hx rfl (pc0 := 10) (pc' := 25) rfl (hb hby d8_10) rfl ((if0 _ _).trans (feq hc10_2).2) (by decide) (by decide) k) ?_
      show Go _ _ _ _ _ _ _ (s₁.setTop (mkF m 25 #[.val (.int p1)] []))
      refine Go.of (fun t k => XS.iconst X0.here hx rfl (hb hby d8_25) k) ?_
      show Go _ _ _ _ _ _ _ (s₁.setTop (mkF m 26 #[.val (.int p1)] [(.int (1 : Int32))]))
      refine Go.of (fun t k => XS.goto X0.here hx rfl (pc0 := 26) (pc' := 30) rfl (hb hby d8_26) (by decide) (by decide) k) ?_
      show Go _ _ _ _ _ _ _ (s₁.setTop (mkF m 30 #[.val (.int p1)] [(.int (1 : Int32))]))
      refine Go.out X0 (v := some (.int (1 : Int32))) (fun h => by rw [Bd.returns] at h; cases h) hlk (fun fs hr => retN X0 hx (t := .boolean) Bd.returns (by simp) (hb hby d8_30) hr) ?_ (by decide) (by decide)
      show Q8 Z p1 h0 n0 _ s₁.heap _
      rw [e0]
      exact ⟨by simp [own_leap, hc3_1, hc10_2], N0, rfl⟩
  · skip
    refine Go.of (fun t k => XS.ifYes X0.here hx rfl (pc0 := 3) (pc' := 29) rfl (hb hby d8_3) rfl ((if0 _ _).trans (feq hc3_1).2) (by decide) (by decide) k) ?_
    show Go _ _ _ _ _ _ _ (s₁.setTop (mkF m 29 #[.val (.int p1)] []))
    refine Go.of (fun t k => XS.iconst X0.here hx rfl (hb hby d8_29) k) ?_
    show Go _ _ _ _ _ _ _ (s₁.setTop (mkF m 30 #[.val (.int p1)] [(.int (0 : Int32))]))
    refine Go.out X0 (v := some (.int (0 : Int32))) (fun h => by rw [Bd.returns] at h; cases h) hlk (fun fs hr => retN X0 hx (t := .boolean) Bd.returns (by simp) (hb hby d8_30) hr) ?_ (by decide) (by decide)
    show Q8 Z p1 h0 n0 _ s₁.heap _
    rw [e0]
    exact ⟨by simp [own_leap, hc3_1], N0, rfl⟩
theorem pn_4 : plainName "java/lang/Enum" = true := by first | (simp [plainName, overriddenIn]; done) | decide +kernel
theorem d10_0 : decode jdk_37_method_2_code 0 = .ok (.aload_n 0, 1) := by decide +kernel
theorem d10_1 : decode jdk_37_method_2_code 1 = .ok (.getfield 7, 3) := by decide +kernel
theorem d10_4 : decode jdk_37_method_2_code 4 = .ok (.ireturn, 1) := by decide +kernel
def Q10 (Z : State) (a1 : Addr) (k : Int32) (h0 : Heap) (n0 : Nat) (v : Option Value) (h : Heap) (L : List Loc) : Prop := v = some (.int k) ∧ Fr n0 L ∧ h = h0
set_option maxRecDepth 65536 in
set_option maxHeartbeats 40000000 in
theorem rm10 (l : Launch) (Z : State) (a0 : Array Value) (hw : ∀ d ∈ tables_1, d.before a0 Z = true) (ws : List Jvm.Cond) (a1 : Addr) (k : Int32) (h0 : Heap) (n0 : Nat) (Z0 : n0 ≤ h0.size) (F : Fld Z h0 a1 "java/lang/Enum" "ordinal" "I" (.int k)) :
    MetFree l (⟨"java/lang/Enum", "ordinal", "()I"⟩ : MethodName) (head1 (Jvm.Cond.code (⟨"java/lang/Enum", "ordinal", "()I"⟩ : MethodName) jdk_37_method_2_code 1 (some .int) :: ws) ({ frames := 0, cells := 0, slots := 0, locals := 0 } : Room)) (fun a U => a = #[(.ref a1)] ∧ Z.Warmed39 U.vm ∧ U.heap = h0) (fun _ _ _ _ _ => True) (fun _ U o U' => ∃ v L, o = .returned v ∧ Q10 Z a1 k h0 n0 v U'.heap L ∧ FrameEnd U o U' L ({ frames := 0, cells := 0, slots := 0, locals := 0 } : Room).cells ({ frames := 0, cells := 0, slots := 0, locals := 0 } : Room).slots) := by
  refine MetFree.of_bodySF (plainFor_of_name pn_4) hisR ?_
  intro p e s m args below meth c s₁ Bd hml0 hP hK
  obtain ⟨rfl, hZ, hh⟩ := hP
  have hx := Bd.exec
  have hby := Bd.bytes
  have hml : c.maxLocals = 1 := hml0
  have hown : s.vm.findClass "java/lang/Enum" = some m.cls := findClass_of_methodNamed Bd.named
  have hnm := (name_of_methodNamed Bd.named Bd.method).1
  have hlk : meth.locks = false := BodyLoose.notSynchronized Bd
  have X0 : Stand p l e ({ frames := 0, cells := 0, slots := 0, locals := 0 } : Room) s m #[(.ref a1)] below meth c s₁ [] 0 0 := Stand.of_body Bd
  have e0 : s₁.heap = h0 := by rw [← hh, Bd.state]; rfl
  have N0 := Fr.nil n0
  have hef : entryFrame m #[(.ref a1)] 1 = mkF m 0 #[.val (.ref a1)] [] := by first | (simp [entryFrame, mkF, argsToLocals, Value.category]; done) | rfl
  show Go p e below s ({ frames := 0, cells := 0, slots := 0, locals := 0 } : Room).cells ({ frames := 0, cells := 0, slots := 0, locals := 0 } : Room).slots (Q10 Z a1 k h0 n0) (s₁.setTop (entryFrame m #[(.ref a1)] 1))
  rw [hef]
  refine Go.of (fun t k => XS.aloadN X0.here hx rfl (hb hby d10_0) rfl rfl k) ?_
  show Go _ _ _ _ _ _ _ (s₁.setTop (mkF m 1 #[.val (.ref a1)] [(.ref a1)]))
  obtain ⟨T1, X1, e1, st1⟩ := getF X0 hx hZ hown (host := "") (Or.inl (hw _ (List.mem_of_getElem? (i := 45) rfl))) Via.refl e0 F (g := (mkF m 1 #[.val (.ref a1)] [(.ref a1)])) rfl rfl (hb hby d10_1)
  refine Go.of st1 ?_
  show Go _ _ _ _ _ _ _ (T1.setTop (mkF m 4 #[.val (.ref a1)] [(.int k)]))
  refine Go.out X1 (v := some (.int k)) (fun h => by rw [Bd.returns] at h; cases h) hlk (fun fs hr => retOut X1 hx (t := .int) Bd.returns rfl (Or.inl ⟨rfl, Or.inl rfl, _, rfl⟩) (hb hby d10_4) hr) ?_ (by decide) (by decide)
  show Q10 Z a1 k h0 n0 _ T1.heap _
  rw [e1]
  exact ⟨rfl, N0, rfl⟩
theorem pd_0 : parseMethodDescriptor "()I" = some ⟨[], some .int⟩ := by decide +kernel
theorem d9_0 : decode jdk_2329_method_14_code 0 = .ok (.aload_n 0, 1) := by decide +kernel
theorem d9_1 : decode jdk_2329_method_14_code 1 = .ok (.invokevirtual 141, 3) := by decide +kernel
theorem d9_4 : decode jdk_2329_method_14_code 4 = .ok (.tableswitch 75 1 10 #[56, 75, 70, 75, 70, 75, 75, 70, 75, 70], 56) := by decide +kernel
theorem d9_60 : decode jdk_2329_method_14_code 60 = .ok (.iload_n 1, 1) := by decide +kernel
theorem d9_61 : decode jdk_2329_method_14_code 61 = .ok (.ifCond .eq 8, 3) := by decide +kernel
theorem d9_64 : decode jdk_2329_method_14_code 64 = .ok (.bipush 29, 2) := by decide +kernel
theorem d9_66 : decode jdk_2329_method_14_code 66 = .ok (.goto 15, 3) := by decide +kernel
theorem d9_69 : decode jdk_2329_method_14_code 69 = .ok (.bipush 28, 2) := by decide +kernel
theorem d9_71 : decode jdk_2329_method_14_code 71 = .ok (.goto 10, 3) := by decide +kernel
theorem d9_74 : decode jdk_2329_method_14_code 74 = .ok (.bipush 30, 2) := by decide +kernel
theorem d9_76 : decode jdk_2329_method_14_code 76 = .ok (.goto 5, 3) := by decide +kernel
theorem d9_79 : decode jdk_2329_method_14_code 79 = .ok (.bipush 31, 2) := by decide +kernel
theorem d9_81 : decode jdk_2329_method_14_code 81 = .ok (.ireturn, 1) := by decide +kernel
def Q9 (Z : State) (a1 : Addr) (p2 : Int32) (k : Int32) (h0 : Heap) (n0 : Nat) (v : Option Value) (h : Heap) (L : List Loc) : Prop := v = some (.int (own_len k p2)) ∧ Fr n0 L ∧ h = h0
set_option maxRecDepth 65536 in
set_option maxHeartbeats 40000000 in
theorem rm9 (l : Launch) (Z : State) (a0 : Array Value) (hw : ∀ d ∈ tables_1, d.before a0 Z = true) (ws : List Jvm.Cond) (a1 : Addr) (p2 : Int32) (k : Int32) (h0 : Heap) (n0 : Nat) (Z0 : n0 ≤ h0.size) (E : Exa Z h0 a1 "java/time/Month") (F : Fld Z h0 a1 "java/lang/Enum" "ordinal" "I" (.int k)) (hk0 : ¬ k < 0) (hk1 : k < 12) :
    MetFree l (⟨"java/time/Month", "length", "(Z)I"⟩ : MethodName) (head1 (Jvm.Cond.code (⟨"java/time/Month", "length", "(Z)I"⟩ : MethodName) jdk_2329_method_14_code 2 (some .int) :: ws) ({ frames := 1, cells := 0, slots := 0, locals := 12 } : Room)) (fun a U => a = #[(.ref a1), (.int p2)] ∧ Z.Warmed39 U.vm ∧ U.heap = h0) (fun _ _ _ _ _ => True) (fun _ U o U' => ∃ v L, o = .returned v ∧ Q9 Z a1 p2 k h0 n0 v U'.heap L ∧ FrameEnd U o U' L ({ frames := 1, cells := 0, slots := 0, locals := 12 } : Room).cells ({ frames := 1, cells := 0, slots := 0, locals := 12 } : Room).slots) := by
  refine MetFree.of_bodySF (plainFor_of_name pn_2) hisR ?_
  intro p e s m args below meth c s₁ Bd hml0 hP hK
  obtain ⟨rfl, hZ, hh⟩ := hP
  have hx := Bd.exec
  have hby := Bd.bytes
  have hml : c.maxLocals = 2 := hml0
  have hown : s.vm.findClass "java/time/Month" = some m.cls := findClass_of_methodNamed Bd.named
  have hnm := (name_of_methodNamed Bd.named Bd.method).1
  have hlk : meth.locks = false := BodyLoose.notSynchronized Bd
  have X0 : Stand p l e ({ frames := 1, cells := 0, slots := 0, locals := 12 } : Room) s m #[(.ref a1), (.int p2)] below meth c s₁ [] 0 0 := Stand.of_body Bd
  have e0 : s₁.heap = h0 := by rw [← hh, Bd.state]; rfl
  have N0 := Fr.nil n0
  have hef : entryFrame m #[(.ref a1), (.int p2)] 2 = mkF m 0 #[.val (.ref a1), .val (.int p2)] [] := by first | (simp [entryFrame, mkF, argsToLocals, Value.category]; done) | rfl
  show Go p e below s ({ frames := 1, cells := 0, slots := 0, locals := 12 } : Room).cells ({ frames := 1, cells := 0, slots := 0, locals := 12 } : Room).slots (Q9 Z a1 p2 k h0 n0) (s₁.setTop (entryFrame m #[(.ref a1), (.int p2)] 2))
  rw [hef]
  refine Go.of (fun t k => XS.aloadN X0.here hx rfl (hb hby d9_0) rfl rfl k) ?_
  show Go _ _ _ _ _ _ _ (s₁.setTop (mkF m 1 #[.val (.ref a1), .val (.int p2)] [(.ref a1)]))
  obtain ⟨cq1, kq1, q1a, q1b, q1c⟩ := isOf hZ e0 E
  obtain ⟨_, _, ⟨T1, L1, k1, n1⟩, -, X1, ⟨Lc1, hQ1, l1, y1, z1⟩, st1⟩ := X0.virtualBackUp hx (x := (⟨"java/time/Month", "ordinal", "()I"⟩ : MethodName)) (y := (⟨"java/lang/Enum", "ordinal", "()I"⟩ : MethodName)) (owner := "java/lang/Enum") hown (mvT hZ (hw _ (List.mem_of_getElem? (i := 38) rfl))) (mvT hZ (hw _ (List.mem_of_getElem? (i := 39) rfl))) (mvT hZ (hw _ (List.mem_of_getElem? (i := 40) rfl))) (by decide) (mvT hZ (hw _ (List.mem_of_getElem? (i := 42) rfl))) (mvT hZ (hw _ (List.mem_of_getElem? (i := 41) rfl))) (backOf (W := 0) (rm10 l Z a0 hw [] a1 k h0 n0 Z0 F) hZ (hw _ (List.mem_of_getElem? (i := 44) rfl)) (hw _ (List.mem_of_getElem? (i := 43) rfl)) (by decide) (by decide)) q1a q1c (g := (mkF m 1 #[.val (.ref a1), .val (.int p2)] [(.ref a1)])) rfl (by rw [hml]; rfl) (Steps.refl _) (argsL := []) (rest := []) (lenOf pd_0 rfl) rfl (by show 2 * 0 + _ ≤ _; exact Nat.le_of_eq rfl) (hb hby d9_1) (fun _ _ => ⟨rfl, e0, (by decide : 0 + 0 ≤ _), (by decide : 0 + 0 ≤ _)⟩)
  dsimp only [Pt.U, Pt.locs, Pt.cells, Pt.slots] at X1 l1 y1 z1 st1 hQ1
  subst l1 y1 z1
  obtain ⟨rfl, N1q, e1⟩ := hQ1
  have N1 := Fr.app N0 N1q
  refine Go.tr st1 ?_
  show Go _ _ _ _ _ _ _ (T1.setTop (mkF m 4 #[.val (.ref a1), .val (.int p2)] [(.int k)]))
  rcases own_12 hk0 hk1 with hk | hk | hk | hk | hk | hk | hk | hk | hk | hk | hk | hk
  · skip
    refine Go.of (fun t q => XS.tswOut X1.here hx rfl (pc0 := 4) (pc' := 79) rfl (hb hby d9_4) rfl (by rw [hk]; decide) (by decide) (by decide) q) ?_
    show Go _ _ _ _ _ _ _ (T1.setTop (mkF m 79 #[.val (.ref a1), .val (.int p2)] []))
    refine Go.of (fun t k => XS.bipush X1.here hx rfl (hb hby d9_79) k) ?_
    show Go _ _ _ _ _ _ _ (T1.setTop (mkF m 81 #[.val (.ref a1), .val (.int p2)] [(.int (31 : Int32))]))
    refine Go.out X1 (v := some (.int (31 : Int32))) (fun h => by rw [Bd.returns] at h; cases h) hlk (fun fs hr => retOut X1 hx (t := .int) Bd.returns rfl (Or.inl ⟨rfl, Or.inl rfl, _, rfl⟩) (hb hby d9_81) hr) ?_ (by decide) (by decide)
    show Q9 Z a1 p2 k h0 n0 _ T1.heap _
    rw [e1]
    exact ⟨by simp [own_len, hk], N1, rfl⟩
  · skip
    refine Go.of (fun t q => XS.tswIn X1.here hx rfl (pc0 := 4) (pc' := 60) (o := 56) rfl (hb hby d9_4) rfl (by rw [hk]; decide) (by rw [hk]; rfl) (by decide) (by decide) q) ?_
    show Go _ _ _ _ _ _ _ (T1.setTop (mkF m 60 #[.val (.ref a1), .val (.int p2)] []))
    refine Go.of (fun t k => XS.iloadN X1.here hx rfl (hb hby d9_60) rfl k) ?_
    show Go _ _ _ _ _ _ _ (T1.setTop (mkF m 61 #[.val (.ref a1), .val (.int p2)] [(.int p2)]))
    by_cases hc61_2 : p2 = (0 : Int32)
    · skip
      refine Go.of (fun t k => XS.ifYes X1.here hx rfl (pc0 := 61) (pc' := 69) rfl (hb hby d9_61) rfl ((if0 _ _).trans (teq hc61_2).1) (by decide) (by decide) k) ?_
      show Go _ _ _ _ _ _ _ (T1.setTop (mkF m 69 #[.val (.ref a1), .val (.int p2)] []))
      refine Go.of (fun t k => XS.bipush X1.here hx rfl (hb hby d9_69) k) ?_
      show Go _ _ _ _ _ _ _ (T1.setTop (mkF m 71 #[.val (.ref a1), .val (.int p2)] [(.int (28 : Int32))]))
      refine Go.of (fun t k => XS.goto X1.here hx rfl (pc0 := 71) (pc' := 81) rfl (hb hby d9_71) (by decide) (by decide) k) ?_
      show Go _ _ _ _ _ _ _ (T1.setTop (mkF m 81 #[.val (.ref a1), .val (.int p2)] [(.int (28 : Int32))]))
      refine Go.out X1 (v := some (.int (28 : Int32))) (fun h => by rw [Bd.returns] at h; cases h) hlk (fun fs hr => retOut X1 hx (t := .int) Bd.returns rfl (Or.inl ⟨rfl, Or.inl rfl, _, rfl⟩) (hb hby d9_81) hr) ?_ (by decide) (by decide)
      show Q9 Z a1 p2 k h0 n0 _ T1.heap _
      rw [e1]
      exact ⟨by simp [own_len, hk, hc61_2], N1, rfl⟩
    · skip
      refine Go.of (fun t k => XS.ifNo X1.here hx rfl (hb hby d9_61) rfl ((if0 _ _).trans (feq hc61_2).1) k) ?_
      show Go _ _ _ _ _ _ _ (T1.setTop (mkF m 64 #[.val (.ref a1), .val (.int p2)] []))
      refine Go.of (fun t k => XS.bipush X1.here hx rfl (hb hby d9_64) k) ?_
      show Go _ _ _ _ _ _ _ (T1.setTop (mkF m 66 #[.val (.ref a1), .val (.int p2)] [(.int (29 : Int32))]))
      refine Go.of (fun t k => XS.goto X1.here hx rfl (pc0 := 66) (pc' := 81) rfl (hb hby d9_66) (by decide) (by decide) k) ?_
      show Go _ _ _ _ _ _ _ (T1.setTop (mkF m 81 #[.val (.ref a1), .val (.int p2)] [(.int (29 : Int32))]))
      refine Go.out X1 (v := some (.int (29 : Int32))) (fun h => by rw [Bd.returns] at h; cases h) hlk (fun fs hr => retOut X1 hx (t := .int) Bd.returns rfl (Or.inl ⟨rfl, Or.inl rfl, _, rfl⟩) (hb hby d9_81) hr) ?_ (by decide) (by decide)
      show Q9 Z a1 p2 k h0 n0 _ T1.heap _
      rw [e1]
      exact ⟨by simp [own_len, hk, hc61_2], N1, rfl⟩
  · skip
    refine Go.of (fun t q => XS.tswIn X1.here hx rfl (pc0 := 4) (pc' := 79) (o := 75) rfl (hb hby d9_4) rfl (by rw [hk]; decide) (by rw [hk]; rfl) (by decide) (by decide) q) ?_
    show Go _ _ _ _ _ _ _ (T1.setTop (mkF m 79 #[.val (.ref a1), .val (.int p2)] []))
    refine Go.of (fun t k => XS.bipush X1.here hx rfl (hb hby d9_79) k) ?_
    show Go _ _ _ _ _ _ _ (T1.setTop (mkF m 81 #[.val (.ref a1), .val (.int p2)] [(.int (31 : Int32))]))
    refine Go.out X1 (v := some (.int (31 : Int32))) (fun h => by rw [Bd.returns] at h; cases h) hlk (fun fs hr => retOut X1 hx (t := .int) Bd.returns rfl (Or.inl ⟨rfl, Or.inl rfl, _, rfl⟩) (hb hby d9_81) hr) ?_ (by decide) (by decide)
    show Q9 Z a1 p2 k h0 n0 _ T1.heap _
    rw [e1]
    exact ⟨by simp [own_len, hk], N1, rfl⟩
  · skip
    refine Go.of (fun t q => XS.tswIn X1.here hx rfl (pc0 := 4) (pc' := 74) (o := 70) rfl (hb hby d9_4) rfl (by rw [hk]; decide) (by rw [hk]; rfl) (by decide) (by decide) q) ?_
    show Go _ _ _ _ _ _ _ (T1.setTop (mkF m 74 #[.val (.ref a1), .val (.int p2)] []))
    refine Go.of (fun t k => XS.bipush X1.here hx rfl (hb hby d9_74) k) ?_
    show Go _ _ _ _ _ _ _ (T1.setTop (mkF m 76 #[.val (.ref a1), .val (.int p2)] [(.int (30 : Int32))]))
    refine Go.of (fun t k => XS.goto X1.here hx rfl (pc0 := 76) (pc' := 81) rfl (hb hby d9_76) (by decide) (by decide) k) ?_
    show Go _ _ _ _ _ _ _ (T1.setTop (mkF m 81 #[.val (.ref a1), .val (.int p2)] [(.int (30 : Int32))]))
    refine Go.out X1 (v := some (.int (30 : Int32))) (fun h => by rw [Bd.returns] at h; cases h) hlk (fun fs hr => retOut X1 hx (t := .int) Bd.returns rfl (Or.inl ⟨rfl, Or.inl rfl, _, rfl⟩) (hb hby d9_81) hr) ?_ (by decide) (by decide)
    show Q9 Z a1 p2 k h0 n0 _ T1.heap _
    rw [e1]
    exact ⟨by simp [own_len, hk], N1, rfl⟩
  · skip
    refine Go.of (fun t q => XS.tswIn X1.here hx rfl (pc0 := 4) (pc' := 79) (o := 75) rfl (hb hby d9_4) rfl (by rw [hk]; decide) (by rw [hk]; rfl) (by decide) (by decide) q) ?_
    show Go _ _ _ _ _ _ _ (T1.setTop (mkF m 79 #[.val (.ref a1), .val (.int p2)] []))
    refine Go.of (fun t k => XS.bipush X1.here hx rfl (hb hby d9_79) k) ?_
    show Go _ _ _ _ _ _ _ (T1.setTop (mkF m 81 #[.val (.ref a1), .val (.int p2)] [(.int (31 : Int32))]))
    refine Go.out X1 (v := some (.int (31 : Int32))) (fun h => by rw [Bd.returns] at h; cases h) hlk (fun fs hr => retOut X1 hx (t := .int) Bd.returns rfl (Or.inl ⟨rfl, Or.inl rfl, _, rfl⟩) (hb hby d9_81) hr) ?_ (by decide) (by decide)
    show Q9 Z a1 p2 k h0 n0 _ T1.heap _
    rw [e1]
    exact ⟨by simp [own_len, hk], N1, rfl⟩
  · skip
    refine Go.of (fun t q => XS.tswIn X1.here hx rfl (pc0 := 4) (pc' := 74) (o := 70) rfl (hb hby d9_4) rfl (by rw [hk]; decide) (by rw [hk]; rfl) (by decide) (by decide) q) ?_
    show Go _ _ _ _ _ _ _ (T1.setTop (mkF m 74 #[.val (.ref a1), .val (.int p2)] []))
    refine Go.of (fun t k => XS.bipush X1.here hx rfl (hb hby d9_74) k) ?_
    show Go _ _ _ _ _ _ _ (T1.setTop (mkF m 76 #[.val (.ref a1), .val (.int p2)] [(.int (30 : Int32))]))
    refine Go.of (fun t k => XS.goto X1.here hx rfl (pc0 := 76) (pc' := 81) rfl (hb hby d9_76) (by decide) (by decide) k) ?_
    show Go _ _ _ _ _ _ _ (T1.setTop (mkF m 81 #[.val (.ref a1), .val (.int p2)] [(.int (30 : Int32))]))
    refine Go.out X1 (v := some (.int (30 : Int32))) (fun h => by rw [Bd.returns] at h; cases h) hlk (fun fs hr => retOut X1 hx (t := .int) Bd.returns rfl (Or.inl ⟨rfl, Or.inl rfl, _, rfl⟩) (hb hby d9_81) hr) ?_ (by decide) (by decide)
    show Q9 Z a1 p2 k h0 n0 _ T1.heap _
    rw [e1]
    exact ⟨by simp [own_len, hk], N1, rfl⟩
  · skip
    refine Go.of (fun t q => XS.tswIn X1.here hx rfl (pc0 := 4) (pc' := 79) (o := 75) rfl (hb hby d9_4) rfl (by rw [hk]; decide) (by rw [hk]; rfl) (by decide) (by decide) q) ?_
    show Go _ _ _ _ _ _ _ (T1.setTop (mkF m 79 #[.val (.ref a1), .val (.int p2)] []))
    refine Go.of (fun t k => XS.bipush X1.here hx rfl (hb hby d9_79) k) ?_
    show Go _ _ _ _ _ _ _ (T1.setTop (mkF m 81 #[.val (.ref a1), .val (.int p2)] [(.int (31 : Int32))]))
    refine Go.out X1 (v := some (.int (31 : Int32))) (fun h => by rw [Bd.returns] at h; cases h) hlk (fun fs hr => retOut X1 hx (t := .int) Bd.returns rfl (Or.inl ⟨rfl, Or.inl rfl, _, rfl⟩) (hb hby d9_81) hr) ?_ (by decide) (by decide)
    show Q9 Z a1 p2 k h0 n0 _ T1.heap _
    rw [e1]
    exact ⟨by simp [own_len, hk], N1, rfl⟩
  · skip
    refine Go.of (fun t q => XS.tswIn X1.here hx rfl (pc0 := 4) (pc' := 79) (o := 75) rfl (hb hby d9_4) rfl (by rw [hk]; decide) (by rw [hk]; rfl) (by decide) (by decide) q) ?_
    show Go _ _ _ _ _ _ _ (T1.setTop (mkF m 79 #[.val (.ref a1), .val (.int p2)] []))
    refine Go.of (fun t k => XS.bipush X1.here hx rfl (hb hby d9_79) k) ?_
    show Go _ _ _ _ _ _ _ (T1.setTop (mkF m 81 #[.val (.ref a1), .val (.int p2)] [(.int (31 : Int32))]))
    refine Go.out X1 (v := some (.int (31 : Int32))) (fun h => by rw [Bd.returns] at h; cases h) hlk (fun fs hr => retOut X1 hx (t := .int) Bd.returns rfl (Or.inl ⟨rfl, Or.inl rfl, _, rfl⟩) (hb hby d9_81) hr) ?_ (by decide) (by decide)
    show Q9 Z a1 p2 k h0 n0 _ T1.heap _
    rw [e1]
    exact ⟨by simp [own_len, hk], N1, rfl⟩
  · skip
    refine Go.of (fun t q => XS.tswIn X1.here hx rfl (pc0 := 4) (pc' := 74) (o := 70) rfl (hb hby d9_4) rfl (by rw [hk]; decide) (by rw [hk]; rfl) (by decide) (by decide) q) ?_
    show Go _ _ _ _ _ _ _ (T1.setTop (mkF m 74 #[.val (.ref a1), .val (.int p2)] []))
    refine Go.of (fun t k => XS.bipush X1.here hx rfl (hb hby d9_74) k) ?_
    show Go _ _ _ _ _ _ _ (T1.setTop (mkF m 76 #[.val (.ref a1), .val (.int p2)] [(.int (30 : Int32))]))
    refine Go.of (fun t k => XS.goto X1.here hx rfl (pc0 := 76) (pc' := 81) rfl (hb hby d9_76) (by decide) (by decide) k) ?_
    show Go _ _ _ _ _ _ _ (T1.setTop (mkF m 81 #[.val (.ref a1), .val (.int p2)] [(.int (30 : Int32))]))
    refine Go.out X1 (v := some (.int (30 : Int32))) (fun h => by rw [Bd.returns] at h; cases h) hlk (fun fs hr => retOut X1 hx (t := .int) Bd.returns rfl (Or.inl ⟨rfl, Or.inl rfl, _, rfl⟩) (hb hby d9_81) hr) ?_ (by decide) (by decide)
    show Q9 Z a1 p2 k h0 n0 _ T1.heap _
    rw [e1]
    exact ⟨by simp [own_len, hk], N1, rfl⟩
  · skip
    refine Go.of (fun t q => XS.tswIn X1.here hx rfl (pc0 := 4) (pc' := 79) (o := 75) rfl (hb hby d9_4) rfl (by rw [hk]; decide) (by rw [hk]; rfl) (by decide) (by decide) q) ?_
    show Go _ _ _ _ _ _ _ (T1.setTop (mkF m 79 #[.val (.ref a1), .val (.int p2)] []))
    refine Go.of (fun t k => XS.bipush X1.here hx rfl (hb hby d9_79) k) ?_
    show Go _ _ _ _ _ _ _ (T1.setTop (mkF m 81 #[.val (.ref a1), .val (.int p2)] [(.int (31 : Int32))]))
    refine Go.out X1 (v := some (.int (31 : Int32))) (fun h => by rw [Bd.returns] at h; cases h) hlk (fun fs hr => retOut X1 hx (t := .int) Bd.returns rfl (Or.inl ⟨rfl, Or.inl rfl, _, rfl⟩) (hb hby d9_81) hr) ?_ (by decide) (by decide)
    show Q9 Z a1 p2 k h0 n0 _ T1.heap _
    rw [e1]
    exact ⟨by simp [own_len, hk], N1, rfl⟩
  · skip
    refine Go.of (fun t q => XS.tswIn X1.here hx rfl (pc0 := 4) (pc' := 74) (o := 70) rfl (hb hby d9_4) rfl (by rw [hk]; decide) (by rw [hk]; rfl) (by decide) (by decide) q) ?_
    show Go _ _ _ _ _ _ _ (T1.setTop (mkF m 74 #[.val (.ref a1), .val (.int p2)] []))
    refine Go.of (fun t k => XS.bipush X1.here hx rfl (hb hby d9_74) k) ?_
    show Go _ _ _ _ _ _ _ (T1.setTop (mkF m 76 #[.val (.ref a1), .val (.int p2)] [(.int (30 : Int32))]))
    refine Go.of (fun t k => XS.goto X1.here hx rfl (pc0 := 76) (pc' := 81) rfl (hb hby d9_76) (by decide) (by decide) k) ?_
    show Go _ _ _ _ _ _ _ (T1.setTop (mkF m 81 #[.val (.ref a1), .val (.int p2)] [(.int (30 : Int32))]))
    refine Go.out X1 (v := some (.int (30 : Int32))) (fun h => by rw [Bd.returns] at h; cases h) hlk (fun fs hr => retOut X1 hx (t := .int) Bd.returns rfl (Or.inl ⟨rfl, Or.inl rfl, _, rfl⟩) (hb hby d9_81) hr) ?_ (by decide) (by decide)
    show Q9 Z a1 p2 k h0 n0 _ T1.heap _
    rw [e1]
    exact ⟨by simp [own_len, hk], N1, rfl⟩
  · skip
    refine Go.of (fun t q => XS.tswOut X1.here hx rfl (pc0 := 4) (pc' := 79) rfl (hb hby d9_4) rfl (by rw [hk]; decide) (by decide) (by decide) q) ?_
    show Go _ _ _ _ _ _ _ (T1.setTop (mkF m 79 #[.val (.ref a1), .val (.int p2)] []))
    refine Go.of (fun t k => XS.bipush X1.here hx rfl (hb hby d9_79) k) ?_
    show Go _ _ _ _ _ _ _ (T1.setTop (mkF m 81 #[.val (.ref a1), .val (.int p2)] [(.int (31 : Int32))]))
    refine Go.out X1 (v := some (.int (31 : Int32))) (fun h => by rw [Bd.returns] at h; cases h) hlk (fun fs hr => retOut X1 hx (t := .int) Bd.returns rfl (Or.inl ⟨rfl, Or.inl rfl, _, rfl⟩) (hb hby d9_81) hr) ?_ (by decide) (by decide)
    show Q9 Z a1 p2 k h0 n0 _ T1.heap _
    rw [e1]
    exact ⟨by simp [own_len, hk], N1, rfl⟩
theorem pd_1 : parseMethodDescriptor "(I)Ljava/time/Month;" = some ⟨[.int], some (.object "java/time/Month")⟩ := by decide +kernel
theorem pd_2 : parseMethodDescriptor "(I)Z" = some ⟨[.int], some .boolean⟩ := by decide +kernel
theorem pd_3 : parseMethodDescriptor "(Z)I" = some ⟨[.boolean], some .int⟩ := by decide +kernel
theorem d6_0 : decode prog_122_method_14_code 0 = .ok (.iload_n 0, 1) := by decide +kernel
theorem d6_1 : decode prog_122_method_14_code 1 = .ok (.ifCond .lt 24, 3) := by decide +kernel
theorem d6_4 : decode prog_122_method_14_code 4 = .ok (.iload_n 0, 1) := by decide +kernel
theorem d6_5 : decode prog_122_method_14_code 5 = .ok (.sipush 9999, 3) := by decide +kernel
theorem d6_8 : decode prog_122_method_14_code 8 = .ok (.if_icmp .gt 17, 3) := by decide +kernel
theorem d6_11 : decode prog_122_method_14_code 11 = .ok (.iload_n 1, 1) := by decide +kernel
theorem d6_12 : decode prog_122_method_14_code 12 = .ok (.ifCond .lt 13, 3) := by decide +kernel
theorem d6_15 : decode prog_122_method_14_code 15 = .ok (.iload_n 1, 1) := by decide +kernel
theorem d6_16 : decode prog_122_method_14_code 16 = .ok (.bipush 12, 2) := by decide +kernel
theorem d6_18 : decode prog_122_method_14_code 18 = .ok (.if_icmp .gt 7, 3) := by decide +kernel
theorem d6_21 : decode prog_122_method_14_code 21 = .ok (.iload_n 2, 1) := by decide +kernel
theorem d6_22 : decode prog_122_method_14_code 22 = .ok (.ifCond .ge 5, 3) := by decide +kernel
theorem d6_27 : decode prog_122_method_14_code 27 = .ok (.iload_n 1, 1) := by decide +kernel
theorem d6_28 : decode prog_122_method_14_code 28 = .ok (.ifCond .ne 8, 3) := by decide +kernel
theorem d6_31 : decode prog_122_method_14_code 31 = .ok (.bipush 31, 2) := by decide +kernel
theorem d6_33 : decode prog_122_method_14_code 33 = .ok (.goto 14, 3) := by decide +kernel
theorem d6_36 : decode prog_122_method_14_code 36 = .ok (.iload_n 1, 1) := by decide +kernel
theorem d6_37 : decode prog_122_method_14_code 37 = .ok (.invokestatic 178, 3) := by decide +kernel
theorem d6_40 : decode prog_122_method_14_code 40 = .ok (.iload_n 0, 1) := by decide +kernel
theorem d6_41 : decode prog_122_method_14_code 41 = .ok (.invokestatic 183, 3) := by decide +kernel
theorem d6_44 : decode prog_122_method_14_code 44 = .ok (.invokevirtual 187, 3) := by decide +kernel
theorem d6_47 : decode prog_122_method_14_code 47 = .ok (.istore_n 3, 1) := by decide +kernel
theorem d6_48 : decode prog_122_method_14_code 48 = .ok (.iload_n 2, 1) := by decide +kernel
theorem d6_49 : decode prog_122_method_14_code 49 = .ok (.iload_n 3, 1) := by decide +kernel
theorem d6_50 : decode prog_122_method_14_code 50 = .ok (.if_icmp .gt 7, 3) := by decide +kernel
theorem d6_53 : decode prog_122_method_14_code 53 = .ok (.iconst 1, 1) := by decide +kernel
theorem d6_54 : decode prog_122_method_14_code 54 = .ok (.goto 4, 3) := by decide +kernel
theorem d6_58 : decode prog_122_method_14_code 58 = .ok (.ireturn, 1) := by decide +kernel
def Q6 (Z : State) (p1 : Int32) (p2 : Int32) (p3 : Int32) (w : Addr) (cl : Cell) (mo : Int32 → Addr) (h0 : Heap) (n0 : Nat) (v : Option Value) (h : Heap) (L : List Loc) : Prop := v = some (.int 1) ∧ Fr n0 L ∧ h = h0
set_option maxRecDepth 65536 in
set_option maxHeartbeats 40000000 in
theorem rm6 (l : Launch) (Z : State) (a0 : Array Value) (hw : ∀ d ∈ tables_1, d.before a0 Z = true) (ws : List Jvm.Cond) (p1 : Int32) (p2 : Int32) (p3 : Int32) (w : Addr) (cl : Cell) (mo : Int32 → Addr) (h0 : Heap) (n0 : Nat) (Z0 : n0 ≤ h0.size) (M : own_months Z h0 w cl mo) (hy0 : ¬ p1 < (0 : Int32)) (hy1 : ¬ (9999 : Int32) < p1) (hm0 : ¬ p2 < (0 : Int32)) (hm1 : ¬ (12 : Int32) < p2) (hd0 : ¬ p3 < (0 : Int32)) (hd1 : ¬ own_ml p1 p2 < p3) :
    MetFree l (⟨"com/example/live_alter/livealter/schema/Datetime", "isValidDate", "(III)Z"⟩ : MethodName) (head1 (Jvm.Cond.code (⟨"com/example/live_alter/livealter/schema/Datetime", "isValidDate", "(III)Z"⟩ : MethodName) prog_122_method_14_code 4 (some .boolean) :: ws) ({ frames := 2, cells := 0, slots := 0, locals := 38 } : Room)) (fun a U => a = #[(.int p1), (.int p2), (.int p3)] ∧ Z.Warmed39 U.vm ∧ U.heap = h0) (fun _ _ _ _ _ => True) (fun _ U o U' => ∃ v L, o = .returned v ∧ Q6 Z p1 p2 p3 w cl mo h0 n0 v U'.heap L ∧ FrameEnd U o U' L ({ frames := 2, cells := 0, slots := 0, locals := 38 } : Room).cells ({ frames := 2, cells := 0, slots := 0, locals := 38 } : Room).slots) := by
  refine MetFree.of_bodySF (plainFor_of_name pn_3) hisR ?_
  intro p e s m args below meth c s₁ Bd hml0 hP hK
  obtain ⟨rfl, hZ, hh⟩ := hP
  have hx := Bd.exec
  have hby := Bd.bytes
  have hml : c.maxLocals = 4 := hml0
  have hown : s.vm.findClass "com/example/live_alter/livealter/schema/Datetime" = some m.cls := findClass_of_methodNamed Bd.named
  have hnm := (name_of_methodNamed Bd.named Bd.method).1
  have hlk : meth.locks = false := BodyLoose.notSynchronized Bd
  have X0 : Stand p l e ({ frames := 2, cells := 0, slots := 0, locals := 38 } : Room) s m #[(.int p1), (.int p2), (.int p3)] below meth c s₁ [] 0 0 := Stand.of_body Bd
  have e0 : s₁.heap = h0 := by rw [← hh, Bd.state]; rfl
  have N0 := Fr.nil n0
  have hef : entryFrame m #[(.int p1), (.int p2), (.int p3)] 4 = mkF m 0 #[.val (.int p1), .val (.int p2), .val (.int p3), .unset] [] := by first | (simp [entryFrame, mkF, argsToLocals, Value.category]; done) | rfl
  show Go p e below s ({ frames := 2, cells := 0, slots := 0, locals := 38 } : Room).cells ({ frames := 2, cells := 0, slots := 0, locals := 38 } : Room).slots (Q6 Z p1 p2 p3 w cl mo h0 n0) (s₁.setTop (entryFrame m #[(.int p1), (.int p2), (.int p3)] 4))
  rw [hef]
  refine Go.of (fun t k => XS.iloadN X0.here hx rfl (hb hby d6_0) rfl k) ?_
  show Go _ _ _ _ _ _ _ (s₁.setTop (mkF m 1 #[.val (.int p1), .val (.int p2), .val (.int p3), .unset] [(.int p1)]))
  have hc1 : ¬ (p1 < (0 : Int32)) := hy0
  refine Go.of (fun t k => XS.ifNo X0.here hx rfl (hb hby d6_1) rfl ((if0 _ _).trans (flt hc1).1) k) ?_
  show Go _ _ _ _ _ _ _ (s₁.setTop (mkF m 4 #[.val (.int p1), .val (.int p2), .val (.int p3), .unset] []))
  refine Go.of (fun t k => XS.iloadN X0.here hx rfl (hb hby d6_4) rfl k) ?_
  show Go _ _ _ _ _ _ _ (s₁.setTop (mkF m 5 #[.val (.int p1), .val (.int p2), .val (.int p3), .unset] [(.int p1)]))
  refine Go.of (fun t k => XS.sipush X0.here hx rfl (hb hby d6_5) k) ?_
  show Go _ _ _ _ _ _ _ (s₁.setTop (mkF m 8 #[.val (.int p1), .val (.int p2), .val (.int p3), .unset] [(.int (9999 : Int32)), (.int p1)]))
  have hc8 : ¬ ((9999 : Int32) < p1) := hy1
  refine Go.of (fun t k => XS.icmpNo X0.here hx rfl (hb hby d6_8) rfl (flt hc8).2.2.1 k) ?_
  show Go _ _ _ _ _ _ _ (s₁.setTop (mkF m 11 #[.val (.int p1), .val (.int p2), .val (.int p3), .unset] []))
  refine Go.of (fun t k => XS.iloadN X0.here hx rfl (hb hby d6_11) rfl k) ?_
  show Go _ _ _ _ _ _ _ (s₁.setTop (mkF m 12 #[.val (.int p1), .val (.int p2), .val (.int p3), .unset] [(.int p2)]))
  have hc12 : ¬ (p2 < (0 : Int32)) := hm0
  refine Go.of (fun t k => XS.ifNo X0.here hx rfl (hb hby d6_12) rfl ((if0 _ _).trans (flt hc12).1) k) ?_
  show Go _ _ _ _ _ _ _ (s₁.setTop (mkF m 15 #[.val (.int p1), .val (.int p2), .val (.int p3), .unset] []))
  refine Go.of (fun t k => XS.iloadN X0.here hx rfl (hb hby d6_15) rfl k) ?_
  show Go _ _ _ _ _ _ _ (s₁.setTop (mkF m 16 #[.val (.int p1), .val (.int p2), .val (.int p3), .unset] [(.int p2)]))
  refine Go.of (fun t k => XS.bipush X0.here hx rfl (hb hby d6_16) k) ?_
  show Go _ _ _ _ _ _ _ (s₁.setTop (mkF m 18 #[.val (.int p1), .val (.int p2), .val (.int p3), .unset] [(.int (12 : Int32)), (.int p2)]))
  have hc18 : ¬ ((12 : Int32) < p2) := hm1
  refine Go.of (fun t k => XS.icmpNo X0.here hx rfl (hb hby d6_18) rfl (flt hc18).2.2.1 k) ?_
  show Go _ _ _ _ _ _ _ (s₁.setTop (mkF m 21 #[.val (.int p1), .val (.int p2), .val (.int p3), .unset] []))
  refine Go.of (fun t k => XS.iloadN X0.here hx rfl (hb hby d6_21) rfl k) ?_
  show Go _ _ _ _ _ _ _ (s₁.setTop (mkF m 22 #[.val (.int p1), .val (.int p2), .val (.int p3), .unset] [(.int p3)]))
  have hc22 : ¬ (p3 < (0 : Int32)) := hd0
  refine Go.of (fun t k => XS.ifYes X0.here hx rfl (pc0 := 22) (pc' := 27) rfl (hb hby d6_22) rfl ((if0 _ _).trans (flt hc22).2.1) (by decide) (by decide) k) ?_
  show Go _ _ _ _ _ _ _ (s₁.setTop (mkF m 27 #[.val (.int p1), .val (.int p2), .val (.int p3), .unset] []))
  refine Go.of (fun t k => XS.iloadN X0.here hx rfl (hb hby d6_27) rfl k) ?_
  show Go _ _ _ _ _ _ _ (s₁.setTop (mkF m 28 #[.val (.int p1), .val (.int p2), .val (.int p3), .unset] [(.int p2)]))
  by_cases hc28_1 : p2 = (0 : Int32)
  · skip
    refine Go.of (fun t k => XS.ifNo X0.here hx rfl (hb hby d6_28) rfl ((if0 _ _).trans (teq hc28_1).2) k) ?_
    show Go _ _ _ _ _ _ _ (s₁.setTop (mkF m 31 #[.val (.int p1), .val (.int p2), .val (.int p3), .unset] []))
    refine Go.of (fun t k => XS.bipush X0.here hx rfl (hb hby d6_31) k) ?_
    show Go _ _ _ _ _ _ _ (s₁.setTop (mkF m 33 #[.val (.int p1), .val (.int p2), .val (.int p3), .unset] [(.int (31 : Int32))]))
    refine Go.of (fun t k => XS.goto X0.here hx rfl (pc0 := 33) (pc' := 47) rfl (hb hby d6_33) (by decide) (by decide) k) ?_
    show Go _ _ _ _ _ _ _ (s₁.setTop (mkF m 47 #[.val (.int p1), .val (.int p2), .val (.int p3), .unset] [(.int (31 : Int32))]))
    refine Go.of (fun t k => XS.istoreN X0.here hx rfl (hb hby d6_47) rfl (l' := #[.val (.int p1), .val (.int p2), .val (.int p3), .val (.int (31 : Int32))]) rfl k) ?_
    show Go _ _ _ _ _ _ _ (s₁.setTop (mkF m 48 #[.val (.int p1), .val (.int p2), .val (.int p3), .val (.int (31 : Int32))] []))
    refine Go.of (fun t k => XS.iloadN X0.here hx rfl (hb hby d6_48) rfl k) ?_
    show Go _ _ _ _ _ _ _ (s₁.setTop (mkF m 49 #[.val (.int p1), .val (.int p2), .val (.int p3), .val (.int (31 : Int32))] [(.int p3)]))
    refine Go.of (fun t k => XS.iloadN X0.here hx rfl (hb hby d6_49) rfl k) ?_
    show Go _ _ _ _ _ _ _ (s₁.setTop (mkF m 50 #[.val (.int p1), .val (.int p2), .val (.int p3), .val (.int (31 : Int32))] [(.int (31 : Int32)), (.int p3)]))
    have hc50 : ¬ ((31 : Int32) < p3) := by have q := hd1; rwa [show own_ml p1 p2 = 31 from by simp [own_ml, hc28_1]] at q
    refine Go.of (fun t k => XS.icmpNo X0.here hx rfl (hb hby d6_50) rfl (flt hc50).2.2.1 k) ?_
    show Go _ _ _ _ _ _ _ (s₁.setTop (mkF m 53 #[.val (.int p1), .val (.int p2), .val (.int p3), .val (.int (31 : Int32))] []))
    refine Go.of (fun t k => XS.iconst X0.here hx rfl (hb hby d6_53) k) ?_
    show Go _ _ _ _ _ _ _ (s₁.setTop (mkF m 54 #[.val (.int p1), .val (.int p2), .val (.int p3), .val (.int (31 : Int32))] [(.int (1 : Int32))]))
    refine Go.of (fun t k => XS.goto X0.here hx rfl (pc0 := 54) (pc' := 58) rfl (hb hby d6_54) (by decide) (by decide) k) ?_
    show Go _ _ _ _ _ _ _ (s₁.setTop (mkF m 58 #[.val (.int p1), .val (.int p2), .val (.int p3), .val (.int (31 : Int32))] [(.int (1 : Int32))]))
    refine Go.out X0 (v := some (.int (1 : Int32))) (fun h => by rw [Bd.returns] at h; cases h) hlk (fun fs hr => retN X0 hx (t := .boolean) Bd.returns (by simp) (hb hby d6_58) hr) ?_ (by decide) (by decide)
    show Q6 Z p1 p2 p3 w cl mo h0 n0 _ s₁.heap _
    rw [e0]
    exact ⟨rfl, N0, rfl⟩
  · skip
    refine Go.of (fun t k => XS.ifYes X0.here hx rfl (pc0 := 28) (pc' := 36) rfl (hb hby d6_28) rfl ((if0 _ _).trans (feq hc28_1).2) (by decide) (by decide) k) ?_
    show Go _ _ _ _ _ _ _ (s₁.setTop (mkF m 36 #[.val (.int p1), .val (.int p2), .val (.int p3), .unset] []))
    refine Go.of (fun t k => XS.iloadN X0.here hx rfl (hb hby d6_36) rfl k) ?_
    show Go _ _ _ _ _ _ _ (s₁.setTop (mkF m 37 #[.val (.int p1), .val (.int p2), .val (.int p3), .unset] [(.int p2)]))
    obtain ⟨ha2, hb2, hc2⟩ := own_m1 hm0 hm1 hc28_1
    obtain ⟨_, _, ⟨T3, L3, k3, n3⟩, -, X3, ⟨Lc3, hQ3, l3, y3, z3⟩, st3⟩ := Jvm.LawKit.callS X0 hx (y := (⟨"java/time/Month", "of", "(I)Ljava/time/Month;"⟩ : MethodName)) hown (mvT hZ (hw _ (List.mem_of_getElem? (i := 25) rfl))) (mvT hZ (hw _ (List.mem_of_getElem? (i := 26) rfl))) (mvT hZ (hw _ (List.mem_of_getElem? (i := 27) rfl))) (mvT hZ (hw _ (List.mem_of_getElem? (i := 28) rfl))) (by decide) (backOf (W := 0) (rm7 l Z a0 hw [] p2 w cl mo h0 n0 Z0 M hc2 hm1 ha2 hb2) hZ (hw _ (List.mem_of_getElem? (i := 28) rfl)) (hw _ (List.mem_of_getElem? (i := 27) rfl)) (by decide) (by decide)) (g := (mkF m 37 #[.val (.int p1), .val (.int p2), .val (.int p3), .unset] [(.int p2)])) rfl (by rw [hml]; rfl) (argsL := [(.int p2)]) (rest := []) (lenOf pd_1 rfl) rfl (by show 2 * 0 + _ ≤ _; exact Nat.le_of_eq rfl) (hb hby d6_37) (fun _ _ => ⟨rfl, e0, (by decide : 0 + 0 ≤ _), (by decide : 0 + 0 ≤ _)⟩)
    dsimp only [Pt.U, Pt.locs, Pt.cells, Pt.slots] at X3 l3 y3 z3 st3 hQ3
    subst l3 y3 z3
    obtain ⟨rfl, N3q, e3⟩ := hQ3
    have N3 := Fr.app N0 N3q
    refine Go.of st3 ?_
    obtain ⟨-, E2, F2⟩ := M.2.2.2 _ ha2 hb2
    show Go _ _ _ _ _ _ _ (T3.setTop (mkF m 40 #[.val (.int p1), .val (.int p2), .val (.int p3), .unset] [(.ref (mo (p2 - 1)))]))
    refine Go.of (fun t k => XS.iloadN X3.here hx rfl (hb hby d6_40) rfl k) ?_
    show Go _ _ _ _ _ _ _ (T3.setTop (mkF m 41 #[.val (.int p1), .val (.int p2), .val (.int p3), .unset] [(.int p1), (.ref (mo (p2 - 1)))]))
    obtain ⟨_, _, ⟨T4, L4, k4, n4⟩, -, X4, ⟨Lc4, hQ4, l4, y4, z4⟩, st4⟩ := Jvm.LawKit.callS X3 hx (y := (⟨"com/example/live_alter/livealter/schema/Datetime", "isLeapYear", "(I)Z"⟩ : MethodName)) hown (mvT hZ (hw _ (List.mem_of_getElem? (i := 30) rfl))) (mvT hZ (hw _ (List.mem_of_getElem? (i := 31) rfl))) (mvT hZ (hw _ (List.mem_of_getElem? (i := 7) rfl))) (mvT hZ (hw _ (List.mem_of_getElem? (i := 32) rfl))) (by decide) (backOf (W := 1) (rm8 l Z a0 hw [] p1 h0 n0 Z0 ) hZ (hw _ (List.mem_of_getElem? (i := 32) rfl)) (hw _ (List.mem_of_getElem? (i := 7) rfl)) (by decide) (by decide)) (g := (mkF m 41 #[.val (.int p1), .val (.int p2), .val (.int p3), .unset] [(.int p1), (.ref (mo (p2 - 1)))])) rfl (by rw [hml]; rfl) (argsL := [(.int p1)]) (rest := [(.ref (mo (p2 - 1)))]) (lenOf pd_2 rfl) rfl (by show 2 * 0 + _ ≤ _; exact Nat.le_of_eq rfl) (hb hby d6_41) (fun _ _ => ⟨rfl, e3, (by decide : 0 + 0 ≤ _), (by decide : 0 + 0 ≤ _)⟩)
    dsimp only [Pt.U, Pt.locs, Pt.cells, Pt.slots] at X4 l4 y4 z4 st4 hQ4
    subst l4 y4 z4
    obtain ⟨rfl, N4q, e4⟩ := hQ4
    have N4 := Fr.app N3 N4q
    refine Go.of st4 ?_
    show Go _ _ _ _ _ _ _ (T4.setTop (mkF m 44 #[.val (.int p1), .val (.int p2), .val (.int p3), .unset] [(.int (own_leap p1)), (.ref (mo (p2 - 1)))]))
    obtain ⟨cq5, kq5, q5a, q5b, q5c⟩ := isOf hZ e4 E2
    obtain ⟨_, _, ⟨T5, L5, k5, n5⟩, -, X5, ⟨Lc5, hQ5, l5, y5, z5⟩, st5⟩ := X4.virtualBack hx (y := (⟨"java/time/Month", "length", "(Z)I"⟩ : MethodName)) (z := (⟨"java/time/Month", "length", "(Z)I"⟩ : MethodName)) hown (mvT hZ (hw _ (List.mem_of_getElem? (i := 33) rfl))) (mvT hZ (hw _ (List.mem_of_getElem? (i := 34) rfl))) (notFace_of_selects (args := #[]) (mvT hZ (hw _ (List.mem_of_getElem? (i := 36) rfl)))) (mvT hZ (hw _ (List.mem_of_getElem? (i := 36) rfl))) (mvT hZ (hw _ (List.mem_of_getElem? (i := 35) rfl))) (by decide) (backOf (W := 0) (rm9 l Z a0 hw [] (mo (p2 - 1)) (own_leap p1) (p2 - 1) h0 n0 Z0 E2 F2 ha2 hb2) hZ (hw _ (List.mem_of_getElem? (i := 37) rfl)) (hw _ (List.mem_of_getElem? (i := 27) rfl)) (by decide) (by decide)) q5a q5c (g := (mkF m 44 #[.val (.int p1), .val (.int p2), .val (.int p3), .unset] [(.int (own_leap p1)), (.ref (mo (p2 - 1)))])) rfl (by rw [hml]; rfl) (Steps.refl _) (argsL := [(.int (own_leap p1))]) (rest := []) (lenOf pd_3 rfl) rfl (by show 2 * 0 + _ ≤ _; exact Nat.le_of_eq rfl) (hb hby d6_44) (fun _ _ => ⟨rfl, e4, (by decide : 0 + 0 ≤ _), (by decide : 0 + 0 ≤ _)⟩)
    dsimp only [Pt.U, Pt.locs, Pt.cells, Pt.slots] at X5 l5 y5 z5 st5 hQ5
    subst l5 y5 z5
    obtain ⟨rfl, N5q, e5⟩ := hQ5
    have N5 := Fr.app N4 N5q
    refine Go.tr st5 ?_
    show Go _ _ _ _ _ _ _ (T5.setTop (mkF m 47 #[.val (.int p1), .val (.int p2), .val (.int p3), .unset] [(.int (own_len (p2 - 1) (own_leap p1)))]))
    refine Go.of (fun t k => XS.istoreN X5.here hx rfl (hb hby d6_47) rfl (l' := #[.val (.int p1), .val (.int p2), .val (.int p3), .val (.int (own_len (p2 - 1) (own_leap p1)))]) rfl k) ?_
    show Go _ _ _ _ _ _ _ (T5.setTop (mkF m 48 #[.val (.int p1), .val (.int p2), .val (.int p3), .val (.int (own_len (p2 - 1) (own_leap p1)))] []))
    refine Go.of (fun t k => XS.iloadN X5.here hx rfl (hb hby d6_48) rfl k) ?_
    show Go _ _ _ _ _ _ _ (T5.setTop (mkF m 49 #[.val (.int p1), .val (.int p2), .val (.int p3), .val (.int (own_len (p2 - 1) (own_leap p1)))] [(.int p3)]))
    refine Go.of (fun t k => XS.iloadN X5.here hx rfl (hb hby d6_49) rfl k) ?_
    show Go _ _ _ _ _ _ _ (T5.setTop (mkF m 50 #[.val (.int p1), .val (.int p2), .val (.int p3), .val (.int (own_len (p2 - 1) (own_leap p1)))] [(.int (own_len (p2 - 1) (own_leap p1))), (.int p3)]))
    have hc50 : ¬ ((own_len (p2 - 1) (own_leap p1)) < p3) := by have q := hd1; rwa [own_ml_eq hm0 hm1 hc28_1] at q
    refine Go.of (fun t k => XS.icmpNo X5.here hx rfl (hb hby d6_50) rfl (flt hc50).2.2.1 k) ?_
    show Go _ _ _ _ _ _ _ (T5.setTop (mkF m 53 #[.val (.int p1), .val (.int p2), .val (.int p3), .val (.int (own_len (p2 - 1) (own_leap p1)))] []))
    refine Go.of (fun t k => XS.iconst X5.here hx rfl (hb hby d6_53) k) ?_
    show Go _ _ _ _ _ _ _ (T5.setTop (mkF m 54 #[.val (.int p1), .val (.int p2), .val (.int p3), .val (.int (own_len (p2 - 1) (own_leap p1)))] [(.int (1 : Int32))]))
    refine Go.of (fun t k => XS.goto X5.here hx rfl (pc0 := 54) (pc' := 58) rfl (hb hby d6_54) (by decide) (by decide) k) ?_
    show Go _ _ _ _ _ _ _ (T5.setTop (mkF m 58 #[.val (.int p1), .val (.int p2), .val (.int p3), .val (.int (own_len (p2 - 1) (own_leap p1)))] [(.int (1 : Int32))]))
    refine Go.out X5 (v := some (.int (1 : Int32))) (fun h => by rw [Bd.returns] at h; cases h) hlk (fun fs hr => retN X5 hx (t := .boolean) Bd.returns (by simp) (hb hby d6_58) hr) ?_ (by decide) (by decide)
    show Q6 Z p1 p2 p3 w cl mo h0 n0 _ T5.heap _
    rw [e5]
    exact ⟨rfl, N5, rfl⟩
theorem pd_4 : parseMethodDescriptor "(III)Z" = some ⟨[.int, .int, .int], some .boolean⟩ := by decide +kernel
theorem d5_0 : decode prog_122_method_13_code 0 = .ok (.iload_n 0, 1) := by decide +kernel
theorem d5_1 : decode prog_122_method_13_code 1 = .ok (.iload_n 1, 1) := by decide +kernel
theorem d5_2 : decode prog_122_method_13_code 2 = .ok (.iload_n 2, 1) := by decide +kernel
theorem d5_3 : decode prog_122_method_13_code 3 = .ok (.invokestatic 174, 3) := by decide +kernel
theorem d5_6 : decode prog_122_method_13_code 6 = .ok (.ifCond .eq 41, 3) := by decide +kernel
theorem d5_9 : decode prog_122_method_13_code 9 = .ok (.iload_n 3, 1) := by decide +kernel
theorem d5_10 : decode prog_122_method_13_code 10 = .ok (.ifCond .lt 37, 3) := by decide +kernel
theorem d5_13 : decode prog_122_method_13_code 13 = .ok (.iload_n 3, 1) := by decide +kernel
theorem d5_14 : decode prog_122_method_13_code 14 = .ok (.bipush 23, 2) := by decide +kernel
theorem d5_16 : decode prog_122_method_13_code 16 = .ok (.if_icmp .gt 31, 3) := by decide +kernel
theorem d5_19 : decode prog_122_method_13_code 19 = .ok (.iload 4, 2) := by decide +kernel
theorem d5_21 : decode prog_122_method_13_code 21 = .ok (.ifCond .lt 26, 3) := by decide +kernel
theorem d5_24 : decode prog_122_method_13_code 24 = .ok (.iload 4, 2) := by decide +kernel
theorem d5_26 : decode prog_122_method_13_code 26 = .ok (.bipush 59, 2) := by decide +kernel
theorem d5_28 : decode prog_122_method_13_code 28 = .ok (.if_icmp .gt 19, 3) := by decide +kernel
theorem d5_31 : decode prog_122_method_13_code 31 = .ok (.iload 5, 2) := by decide +kernel
theorem d5_33 : decode prog_122_method_13_code 33 = .ok (.ifCond .lt 14, 3) := by decide +kernel
theorem d5_36 : decode prog_122_method_13_code 36 = .ok (.iload 5, 2) := by decide +kernel
theorem d5_38 : decode prog_122_method_13_code 38 = .ok (.bipush 59, 2) := by decide +kernel
theorem d5_40 : decode prog_122_method_13_code 40 = .ok (.if_icmp .gt 7, 3) := by decide +kernel
theorem d5_43 : decode prog_122_method_13_code 43 = .ok (.iconst 1, 1) := by decide +kernel
theorem d5_44 : decode prog_122_method_13_code 44 = .ok (.goto 4, 3) := by decide +kernel
theorem d5_48 : decode prog_122_method_13_code 48 = .ok (.ireturn, 1) := by decide +kernel
def Q5 (Z : State) (p1 : Int32) (p2 : Int32) (p3 : Int32) (p4 : Int32) (p5 : Int32) (p6 : Int32) (w : Addr) (cl : Cell) (mo : Int32 → Addr) (h0 : Heap) (n0 : Nat) (v : Option Value) (h : Heap) (L : List Loc) : Prop := v = some (.int 1) ∧ Fr n0 L ∧ h = h0
set_option maxRecDepth 65536 in
set_option maxHeartbeats 40000000 in
theorem rm5 (l : Launch) (Z : State) (a0 : Array Value) (hw : ∀ d ∈ tables_1, d.before a0 Z = true) (ws : List Jvm.Cond) (p1 : Int32) (p2 : Int32) (p3 : Int32) (p4 : Int32) (p5 : Int32) (p6 : Int32) (w : Addr) (cl : Cell) (mo : Int32 → Addr) (h0 : Heap) (n0 : Nat) (Z0 : n0 ≤ h0.size) (M : own_months Z h0 w cl mo) (hy0 : ¬ p1 < (0 : Int32)) (hy1 : ¬ (9999 : Int32) < p1) (hm0 : ¬ p2 < (0 : Int32)) (hm1 : ¬ (12 : Int32) < p2) (hd0 : ¬ p3 < (0 : Int32)) (hd1 : ¬ own_ml p1 p2 < p3) (hh0 : ¬ p4 < (0 : Int32)) (hh1 : ¬ (23 : Int32) < p4) (hi0 : ¬ p5 < (0 : Int32)) (hi1 : ¬ (59 : Int32) < p5) (hs0 : ¬ p6 < (0 : Int32)) (hs1 : ¬ (59 : Int32) < p6) :
    MetFree l (⟨"com/example/live_alter/livealter/schema/Datetime", "isValid", "(IIIIII)Z"⟩ : MethodName) (head1 (Jvm.Cond.code (⟨"com/example/live_alter/livealter/schema/Datetime", "isValid", "(IIIIII)Z"⟩ : MethodName) prog_122_method_13_code 6 (some .boolean) :: ws) ({ frames := 3, cells := 0, slots := 0, locals := 53 } : Room)) (fun a U => a = #[(.int p1), (.int p2), (.int p3), (.int p4), (.int p5), (.int p6)] ∧ Z.Warmed39 U.vm ∧ U.heap = h0) (fun _ _ _ _ _ => True) (fun _ U o U' => ∃ v L, o = .returned v ∧ Q5 Z p1 p2 p3 p4 p5 p6 w cl mo h0 n0 v U'.heap L ∧ FrameEnd U o U' L ({ frames := 3, cells := 0, slots := 0, locals := 53 } : Room).cells ({ frames := 3, cells := 0, slots := 0, locals := 53 } : Room).slots) := by
  refine MetFree.of_bodySF (plainFor_of_name pn_3) hisR ?_
  intro p e s m args below meth c s₁ Bd hml0 hP hK
  obtain ⟨rfl, hZ, hh⟩ := hP
  have hx := Bd.exec
  have hby := Bd.bytes
  have hml : c.maxLocals = 6 := hml0
  have hown : s.vm.findClass "com/example/live_alter/livealter/schema/Datetime" = some m.cls := findClass_of_methodNamed Bd.named
  have hnm := (name_of_methodNamed Bd.named Bd.method).1
  have hlk : meth.locks = false := BodyLoose.notSynchronized Bd
  have X0 : Stand p l e ({ frames := 3, cells := 0, slots := 0, locals := 53 } : Room) s m #[(.int p1), (.int p2), (.int p3), (.int p4), (.int p5), (.int p6)] below meth c s₁ [] 0 0 := Stand.of_body Bd
  have e0 : s₁.heap = h0 := by rw [← hh, Bd.state]; rfl
  have N0 := Fr.nil n0
  have hef : entryFrame m #[(.int p1), (.int p2), (.int p3), (.int p4), (.int p5), (.int p6)] 6 = mkF m 0 #[.val (.int p1), .val (.int p2), .val (.int p3), .val (.int p4), .val (.int p5), .val (.int p6)] [] := by first | (simp [entryFrame, mkF, argsToLocals, Value.category]; done) | rfl
  show Go p e below s ({ frames := 3, cells := 0, slots := 0, locals := 53 } : Room).cells ({ frames := 3, cells := 0, slots := 0, locals := 53 } : Room).slots (Q5 Z p1 p2 p3 p4 p5 p6 w cl mo h0 n0) (s₁.setTop (entryFrame m #[(.int p1), (.int p2), (.int p3), (.int p4), (.int p5), (.int p6)] 6))
  rw [hef]
  refine Go.of (fun t k => XS.iloadN X0.here hx rfl (hb hby d5_0) rfl k) ?_
  show Go _ _ _ _ _ _ _ (s₁.setTop (mkF m 1 #[.val (.int p1), .val (.int p2), .val (.int p3), .val (.int p4), .val (.int p5), .val (.int p6)] [(.int p1)]))
  refine Go.of (fun t k => XS.iloadN X0.here hx rfl (hb hby d5_1) rfl k) ?_
  show Go _ _ _ _ _ _ _ (s₁.setTop (mkF m 2 #[.val (.int p1), .val (.int p2), .val (.int p3), .val (.int p4), .val (.int p5), .val (.int p6)] [(.int p2), (.int p1)]))
  refine Go.of (fun t k => XS.iloadN X0.here hx rfl (hb hby d5_2) rfl k) ?_
  show Go _ _ _ _ _ _ _ (s₁.setTop (mkF m 3 #[.val (.int p1), .val (.int p2), .val (.int p3), .val (.int p4), .val (.int p5), .val (.int p6)] [(.int p3), (.int p2), (.int p1)]))
  obtain ⟨_, _, ⟨T1, L1, k1, n1⟩, -, X1, ⟨Lc1, hQ1, l1, y1, z1⟩, st1⟩ := Jvm.LawKit.callS X0 hx (y := (⟨"com/example/live_alter/livealter/schema/Datetime", "isValidDate", "(III)Z"⟩ : MethodName)) hown (mvT hZ (hw _ (List.mem_of_getElem? (i := 22) rfl))) (mvT hZ (hw _ (List.mem_of_getElem? (i := 23) rfl))) (mvT hZ (hw _ (List.mem_of_getElem? (i := 7) rfl))) (mvT hZ (hw _ (List.mem_of_getElem? (i := 24) rfl))) (by decide) (backOf (W := 0) (rm6 l Z a0 hw [] p1 p2 p3 w cl mo h0 n0 Z0 M hy0 hy1 hm0 hm1 hd0 hd1) hZ (hw _ (List.mem_of_getElem? (i := 24) rfl)) (hw _ (List.mem_of_getElem? (i := 7) rfl)) (by decide) (by decide)) (g := (mkF m 3 #[.val (.int p1), .val (.int p2), .val (.int p3), .val (.int p4), .val (.int p5), .val (.int p6)] [(.int p3), (.int p2), (.int p1)])) rfl (by rw [hml]; rfl) (argsL := [(.int p1), (.int p2), (.int p3)]) (rest := []) (lenOf pd_4 rfl) rfl (by show 2 * 0 + _ ≤ _; exact Nat.le_of_eq rfl) (hb hby d5_3) (fun _ _ => ⟨rfl, e0, (by decide : 0 + 0 ≤ _), (by decide : 0 + 0 ≤ _)⟩)
  dsimp only [Pt.U, Pt.locs, Pt.cells, Pt.slots] at X1 l1 y1 z1 st1 hQ1
  subst l1 y1 z1
  obtain ⟨rfl, N1q, e1⟩ := hQ1
  have N1 := Fr.app N0 N1q
  refine Go.of st1 ?_
  show Go _ _ _ _ _ _ _ (T1.setTop (mkF m 6 #[.val (.int p1), .val (.int p2), .val (.int p3), .val (.int p4), .val (.int p5), .val (.int p6)] [(.int (1 : Int32))]))
  refine Go.of (fun t k => XS.ifNo X1.here hx rfl (hb hby d5_6) rfl ((if0 _ _).trans (feq (by decide : ¬ ((1 : Int32) = (0 : Int32)))).1) k) ?_
  show Go _ _ _ _ _ _ _ (T1.setTop (mkF m 9 #[.val (.int p1), .val (.int p2), .val (.int p3), .val (.int p4), .val (.int p5), .val (.int p6)] []))
  refine Go.of (fun t k => XS.iloadN X1.here hx rfl (hb hby d5_9) rfl k) ?_
  show Go _ _ _ _ _ _ _ (T1.setTop (mkF m 10 #[.val (.int p1), .val (.int p2), .val (.int p3), .val (.int p4), .val (.int p5), .val (.int p6)] [(.int p4)]))
  have hc10 : ¬ (p4 < (0 : Int32)) := hh0
  refine Go.of (fun t k => XS.ifNo X1.here hx rfl (hb hby d5_10) rfl ((if0 _ _).trans (flt hc10).1) k) ?_
  show Go _ _ _ _ _ _ _ (T1.setTop (mkF m 13 #[.val (.int p1), .val (.int p2), .val (.int p3), .val (.int p4), .val (.int p5), .val (.int p6)] []))
  refine Go.of (fun t k => XS.iloadN X1.here hx rfl (hb hby d5_13) rfl k) ?_
  show Go _ _ _ _ _ _ _ (T1.setTop (mkF m 14 #[.val (.int p1), .val (.int p2), .val (.int p3), .val (.int p4), .val (.int p5), .val (.int p6)] [(.int p4)]))
  refine Go.of (fun t k => XS.bipush X1.here hx rfl (hb hby d5_14) k) ?_
  show Go _ _ _ _ _ _ _ (T1.setTop (mkF m 16 #[.val (.int p1), .val (.int p2), .val (.int p3), .val (.int p4), .val (.int p5), .val (.int p6)] [(.int (23 : Int32)), (.int p4)]))
  have hc16 : ¬ ((23 : Int32) < p4) := hh1
  refine Go.of (fun t k => XS.icmpNo X1.here hx rfl (hb hby d5_16) rfl (flt hc16).2.2.1 k) ?_
  show Go _ _ _ _ _ _ _ (T1.setTop (mkF m 19 #[.val (.int p1), .val (.int p2), .val (.int p3), .val (.int p4), .val (.int p5), .val (.int p6)] []))
  refine Go.of (fun t k => XS.iload X1.here hx rfl (hb hby d5_19) rfl k) ?_
  show Go _ _ _ _ _ _ _ (T1.setTop (mkF m 21 #[.val (.int p1), .val (.int p2), .val (.int p3), .val (.int p4), .val (.int p5), .val (.int p6)] [(.int p5)]))
  have hc21 : ¬ (p5 < (0 : Int32)) := hi0
  refine Go.of (fun t k => XS.ifNo X1.here hx rfl (hb hby d5_21) rfl ((if0 _ _).trans (flt hc21).1) k) ?_
  show Go _ _ _ _ _ _ _ (T1.setTop (mkF m 24 #[.val (.int p1), .val (.int p2), .val (.int p3), .val (.int p4), .val (.int p5), .val (.int p6)] []))
  refine Go.of (fun t k => XS.iload X1.here hx rfl (hb hby d5_24) rfl k) ?_
  show Go _ _ _ _ _ _ _ (T1.setTop (mkF m 26 #[.val (.int p1), .val (.int p2), .val (.int p3), .val (.int p4), .val (.int p5), .val (.int p6)] [(.int p5)]))
  refine Go.of (fun t k => XS.bipush X1.here hx rfl (hb hby d5_26) k) ?_
  show Go _ _ _ _ _ _ _ (T1.setTop (mkF m 28 #[.val (.int p1), .val (.int p2), .val (.int p3), .val (.int p4), .val (.int p5), .val (.int p6)] [(.int (59 : Int32)), (.int p5)]))
  have hc28 : ¬ ((59 : Int32) < p5) := hi1
  refine Go.of (fun t k => XS.icmpNo X1.here hx rfl (hb hby d5_28) rfl (flt hc28).2.2.1 k) ?_
  show Go _ _ _ _ _ _ _ (T1.setTop (mkF m 31 #[.val (.int p1), .val (.int p2), .val (.int p3), .val (.int p4), .val (.int p5), .val (.int p6)] []))
  refine Go.of (fun t k => XS.iload X1.here hx rfl (hb hby d5_31) rfl k) ?_
  show Go _ _ _ _ _ _ _ (T1.setTop (mkF m 33 #[.val (.int p1), .val (.int p2), .val (.int p3), .val (.int p4), .val (.int p5), .val (.int p6)] [(.int p6)]))
  have hc33 : ¬ (p6 < (0 : Int32)) := hs0
  refine Go.of (fun t k => XS.ifNo X1.here hx rfl (hb hby d5_33) rfl ((if0 _ _).trans (flt hc33).1) k) ?_
  show Go _ _ _ _ _ _ _ (T1.setTop (mkF m 36 #[.val (.int p1), .val (.int p2), .val (.int p3), .val (.int p4), .val (.int p5), .val (.int p6)] []))
  refine Go.of (fun t k => XS.iload X1.here hx rfl (hb hby d5_36) rfl k) ?_
  show Go _ _ _ _ _ _ _ (T1.setTop (mkF m 38 #[.val (.int p1), .val (.int p2), .val (.int p3), .val (.int p4), .val (.int p5), .val (.int p6)] [(.int p6)]))
  refine Go.of (fun t k => XS.bipush X1.here hx rfl (hb hby d5_38) k) ?_
  show Go _ _ _ _ _ _ _ (T1.setTop (mkF m 40 #[.val (.int p1), .val (.int p2), .val (.int p3), .val (.int p4), .val (.int p5), .val (.int p6)] [(.int (59 : Int32)), (.int p6)]))
  have hc40 : ¬ ((59 : Int32) < p6) := hs1
  refine Go.of (fun t k => XS.icmpNo X1.here hx rfl (hb hby d5_40) rfl (flt hc40).2.2.1 k) ?_
  show Go _ _ _ _ _ _ _ (T1.setTop (mkF m 43 #[.val (.int p1), .val (.int p2), .val (.int p3), .val (.int p4), .val (.int p5), .val (.int p6)] []))
  refine Go.of (fun t k => XS.iconst X1.here hx rfl (hb hby d5_43) k) ?_
  show Go _ _ _ _ _ _ _ (T1.setTop (mkF m 44 #[.val (.int p1), .val (.int p2), .val (.int p3), .val (.int p4), .val (.int p5), .val (.int p6)] [(.int (1 : Int32))]))
  refine Go.of (fun t k => XS.goto X1.here hx rfl (pc0 := 44) (pc' := 48) rfl (hb hby d5_44) (by decide) (by decide) k) ?_
  show Go _ _ _ _ _ _ _ (T1.setTop (mkF m 48 #[.val (.int p1), .val (.int p2), .val (.int p3), .val (.int p4), .val (.int p5), .val (.int p6)] [(.int (1 : Int32))]))
  refine Go.out X1 (v := some (.int (1 : Int32))) (fun h => by rw [Bd.returns] at h; cases h) hlk (fun fs hr => retN X1 hx (t := .boolean) Bd.returns (by simp) (hb hby d5_48) hr) ?_ (by decide) (by decide)
  show Q5 Z p1 p2 p3 p4 p5 p6 w cl mo h0 n0 _ T1.heap _
  rw [e1]
  exact ⟨rfl, N1, rfl⟩
theorem pd_5 : parseMethodDescriptor "()V" = some ⟨[], none⟩ := by decide +kernel
theorem pd_6 : parseMethodDescriptor "(IIIIII)Z" = some ⟨[.int, .int, .int, .int, .int, .int], some .boolean⟩ := by decide +kernel
theorem d2_0 : decode prog_122_method_1_code 0 = .ok (.aload_n 0, 1) := by decide +kernel
theorem d2_1 : decode prog_122_method_1_code 1 = .ok (.invokespecial 1, 3) := by decide +kernel
theorem d2_4 : decode prog_122_method_1_code 4 = .ok (.iload_n 1, 1) := by decide +kernel
theorem d2_5 : decode prog_122_method_1_code 5 = .ok (.iload_n 2, 1) := by decide +kernel
theorem d2_6 : decode prog_122_method_1_code 6 = .ok (.iload_n 3, 1) := by decide +kernel
theorem d2_7 : decode prog_122_method_1_code 7 = .ok (.iload 4, 2) := by decide +kernel
theorem d2_9 : decode prog_122_method_1_code 9 = .ok (.iload 5, 2) := by decide +kernel
theorem d2_11 : decode prog_122_method_1_code 11 = .ok (.iload 6, 2) := by decide +kernel
theorem d2_13 : decode prog_122_method_1_code 13 = .ok (.invokestatic 7, 3) := by decide +kernel
theorem d2_16 : decode prog_122_method_1_code 16 = .ok (.ifCond .ne 25, 3) := by decide +kernel
theorem d2_41 : decode prog_122_method_1_code 41 = .ok (.aload_n 0, 1) := by decide +kernel
theorem d2_42 : decode prog_122_method_1_code 42 = .ok (.iload_n 1, 1) := by decide +kernel
theorem d2_43 : decode prog_122_method_1_code 43 = .ok (.putfield 22, 3) := by decide +kernel
theorem d2_46 : decode prog_122_method_1_code 46 = .ok (.aload_n 0, 1) := by decide +kernel
theorem d2_47 : decode prog_122_method_1_code 47 = .ok (.iload_n 2, 1) := by decide +kernel
theorem d2_48 : decode prog_122_method_1_code 48 = .ok (.putfield 26, 3) := by decide +kernel
theorem d2_51 : decode prog_122_method_1_code 51 = .ok (.aload_n 0, 1) := by decide +kernel
theorem d2_52 : decode prog_122_method_1_code 52 = .ok (.iload_n 3, 1) := by decide +kernel
theorem d2_53 : decode prog_122_method_1_code 53 = .ok (.putfield 29, 3) := by decide +kernel
theorem d2_56 : decode prog_122_method_1_code 56 = .ok (.aload_n 0, 1) := by decide +kernel
theorem d2_57 : decode prog_122_method_1_code 57 = .ok (.iload 4, 2) := by decide +kernel
theorem d2_59 : decode prog_122_method_1_code 59 = .ok (.putfield 32, 3) := by decide +kernel
theorem d2_62 : decode prog_122_method_1_code 62 = .ok (.aload_n 0, 1) := by decide +kernel
theorem d2_63 : decode prog_122_method_1_code 63 = .ok (.iload 5, 2) := by decide +kernel
theorem d2_65 : decode prog_122_method_1_code 65 = .ok (.putfield 35, 3) := by decide +kernel
theorem d2_68 : decode prog_122_method_1_code 68 = .ok (.aload_n 0, 1) := by decide +kernel
theorem d2_69 : decode prog_122_method_1_code 69 = .ok (.iload 6, 2) := by decide +kernel
theorem d2_71 : decode prog_122_method_1_code 71 = .ok (.putfield 38, 3) := by decide +kernel
theorem d2_74 : decode prog_122_method_1_code 74 = .ok (.return_, 1) := by decide +kernel
def Q2 (Z : State) (a1 : Addr) (p1 : Int32) (p2 : Int32) (p3 : Int32) (p4 : Int32) (p5 : Int32) (p6 : Int32) (w : Addr) (cl : Cell) (mo : Int32 → Addr) (h0 : Heap) (n0 : Nat) (v : Option Value) (h : Heap) (L : List Loc) : Prop := v = none ∧ Fr n0 L ∧ Keep h0 h [a1] ∧ Exa Z h a1 "com/example/live_alter/livealter/schema/Datetime" ∧ Fld Z h a1 "com/example/live_alter/livealter/schema/Datetime" "year" "I" (.int p1) ∧ Fld Z h a1 "com/example/live_alter/livealter/schema/Datetime" "month" "I" (.int p2) ∧ Fld Z h a1 "com/example/live_alter/livealter/schema/Datetime" "day" "I" (.int p3) ∧ Fld Z h a1 "com/example/live_alter/livealter/schema/Datetime" "hour" "I" (.int p4) ∧ Fld Z h a1 "com/example/live_alter/livealter/schema/Datetime" "minute" "I" (.int p5) ∧ Fld Z h a1 "com/example/live_alter/livealter/schema/Datetime" "second" "I" (.int p6)
set_option maxRecDepth 65536 in
set_option maxHeartbeats 40000000 in
theorem rm2 (l : Launch) (Z : State) (a0 : Array Value) (hw : ∀ d ∈ tables_1, d.before a0 Z = true) (ws : List Jvm.Cond) (a1 : Addr) (p1 : Int32) (p2 : Int32) (p3 : Int32) (p4 : Int32) (p5 : Int32) (p6 : Int32) (w : Addr) (cl : Cell) (mo : Int32 → Addr) (h0 : Heap) (n0 : Nat) (Z0 : n0 ≤ h0.size) (M : own_months Z h0 w cl mo) (hy0 : ¬ p1 < (0 : Int32)) (hy1 : ¬ (9999 : Int32) < p1) (hm0 : ¬ p2 < (0 : Int32)) (hm1 : ¬ (12 : Int32) < p2) (hd0 : ¬ p3 < (0 : Int32)) (hd1 : ¬ own_ml p1 p2 < p3) (hh0 : ¬ p4 < (0 : Int32)) (hh1 : ¬ (23 : Int32) < p4) (hi0 : ¬ p5 < (0 : Int32)) (hi1 : ¬ (59 : Int32) < p5) (hs0 : ¬ p6 < (0 : Int32)) (hs1 : ¬ (59 : Int32) < p6) (E1 : Exa Z h0 a1 "com/example/live_alter/livealter/schema/Datetime") (g1 : n0 ≤ a1) (F_year : Fld Z h0 a1 "com/example/live_alter/livealter/schema/Datetime" "year" "I" (.int (0 : Int32))) (F_month : Fld Z h0 a1 "com/example/live_alter/livealter/schema/Datetime" "month" "I" (.int (0 : Int32))) (F_day : Fld Z h0 a1 "com/example/live_alter/livealter/schema/Datetime" "day" "I" (.int (0 : Int32))) (F_hour : Fld Z h0 a1 "com/example/live_alter/livealter/schema/Datetime" "hour" "I" (.int (0 : Int32))) (F_minute : Fld Z h0 a1 "com/example/live_alter/livealter/schema/Datetime" "minute" "I" (.int (0 : Int32))) (F_second : Fld Z h0 a1 "com/example/live_alter/livealter/schema/Datetime" "second" "I" (.int (0 : Int32))) :
    MetFree l (⟨"com/example/live_alter/livealter/schema/Datetime", "<init>", "(IIIIII)V"⟩ : MethodName) (head1 (Jvm.Cond.code (⟨"com/example/live_alter/livealter/schema/Datetime", "<init>", "(IIIIII)V"⟩ : MethodName) prog_122_method_1_code 7 none :: ws) ({ frames := 4, cells := 0, slots := 0, locals := 70 } : Room)) (fun a U => a = #[(.ref a1), (.int p1), (.int p2), (.int p3), (.int p4), (.int p5), (.int p6)] ∧ Z.Warmed39 U.vm ∧ U.heap = h0) (fun _ _ _ _ _ => True) (fun _ U o U' => ∃ v L, o = .returned v ∧ Q2 Z a1 p1 p2 p3 p4 p5 p6 w cl mo h0 n0 v U'.heap L ∧ FrameEnd U o U' L ({ frames := 4, cells := 0, slots := 0, locals := 70 } : Room).cells ({ frames := 4, cells := 0, slots := 0, locals := 70 } : Room).slots) := by
  refine MetFree.of_bodySF (plainFor_of_name pn_3) hisR ?_
  intro p e s m args below meth c s₁ Bd hml0 hP hK
  obtain ⟨rfl, hZ, hh⟩ := hP
  have hx := Bd.exec
  have hby := Bd.bytes
  have hml : c.maxLocals = 7 := hml0
  have hown : s.vm.findClass "com/example/live_alter/livealter/schema/Datetime" = some m.cls := findClass_of_methodNamed Bd.named
  have hnm := (name_of_methodNamed Bd.named Bd.method).1
  have hlk : meth.locks = false := BodyLoose.notSynchronized Bd
  have X0 : Stand p l e ({ frames := 4, cells := 0, slots := 0, locals := 70 } : Room) s m #[(.ref a1), (.int p1), (.int p2), (.int p3), (.int p4), (.int p5), (.int p6)] below meth c s₁ [] 0 0 := Stand.of_body Bd
  have e0 : s₁.heap = h0 := by rw [← hh, Bd.state]; rfl
  have N0 := Fr.nil n0
  have hef : entryFrame m #[(.ref a1), (.int p1), (.int p2), (.int p3), (.int p4), (.int p5), (.int p6)] 7 = mkF m 0 #[.val (.ref a1), .val (.int p1), .val (.int p2), .val (.int p3), .val (.int p4), .val (.int p5), .val (.int p6)] [] := by first | (simp [entryFrame, mkF, argsToLocals, Value.category]; done) | rfl
  show Go p e below s ({ frames := 4, cells := 0, slots := 0, locals := 70 } : Room).cells ({ frames := 4, cells := 0, slots := 0, locals := 70 } : Room).slots (Q2 Z a1 p1 p2 p3 p4 p5 p6 w cl mo h0 n0) (s₁.setTop (entryFrame m #[(.ref a1), (.int p1), (.int p2), (.int p3), (.int p4), (.int p5), (.int p6)] 7))
  rw [hef]
  refine Go.of (fun t k => XS.aloadN X0.here hx rfl (hb hby d2_0) rfl rfl k) ?_
  show Go _ _ _ _ _ _ _ (s₁.setTop (mkF m 1 #[.val (.ref a1), .val (.int p1), .val (.int p2), .val (.int p3), .val (.int p4), .val (.int p5), .val (.int p6)] [(.ref a1)]))
  obtain ⟨_, _, ⟨T1, L1, k1, n1⟩, -, X1, ⟨Lc1, hQ1, l1, y1, z1⟩, st1⟩ := X0.specialBack hx (y := (⟨"java/lang/Record", "<init>", "()V"⟩ : MethodName)) rfl hown (mvT hZ (hw _ (List.mem_of_getElem? (i := 11) rfl))) (mvT hZ (hw _ (List.mem_of_getElem? (i := 12) rfl))) (mvT hZ (hw _ (List.mem_of_getElem? (i := 15) rfl))) (by decide) (backOf (W := 0) (rm3 l Z a0 hw [] a1 h0 n0 Z0 ) hZ (hw _ (List.mem_of_getElem? (i := 15) rfl)) (hw _ (List.mem_of_getElem? (i := 14) rfl)) (by decide) (by decide)) (g := (mkF m 1 #[.val (.ref a1), .val (.int p1), .val (.int p2), .val (.int p3), .val (.int p4), .val (.int p5), .val (.int p6)] [(.ref a1)])) rfl (by rw [hml]; rfl) (Steps.refl _) (a := a1) (argsL := []) (rest := []) (lenOf pd_5 rfl) rfl (by show 2 * 0 + _ ≤ _; exact Nat.le_of_eq rfl) (hb hby d2_1) (fun _ _ => ⟨rfl, e0, (by decide : 0 + 0 ≤ _), (by decide : 0 + 0 ≤ _)⟩)
  dsimp only [Pt.U, Pt.locs, Pt.cells, Pt.slots] at X1 l1 y1 z1 st1 hQ1
  subst l1 y1 z1
  obtain ⟨rfl, N1q, e1⟩ := hQ1
  have N1 := Fr.app N0 N1q
  refine Go.tr st1 ?_
  show Go _ _ _ _ _ _ _ (T1.setTop (mkF m 4 #[.val (.ref a1), .val (.int p1), .val (.int p2), .val (.int p3), .val (.int p4), .val (.int p5), .val (.int p6)] []))
  refine Go.of (fun t k => XS.iloadN X1.here hx rfl (hb hby d2_4) rfl k) ?_
  show Go _ _ _ _ _ _ _ (T1.setTop (mkF m 5 #[.val (.ref a1), .val (.int p1), .val (.int p2), .val (.int p3), .val (.int p4), .val (.int p5), .val (.int p6)] [(.int p1)]))
  refine Go.of (fun t k => XS.iloadN X1.here hx rfl (hb hby d2_5) rfl k) ?_
  show Go _ _ _ _ _ _ _ (T1.setTop (mkF m 6 #[.val (.ref a1), .val (.int p1), .val (.int p2), .val (.int p3), .val (.int p4), .val (.int p5), .val (.int p6)] [(.int p2), (.int p1)]))
  refine Go.of (fun t k => XS.iloadN X1.here hx rfl (hb hby d2_6) rfl k) ?_
  show Go _ _ _ _ _ _ _ (T1.setTop (mkF m 7 #[.val (.ref a1), .val (.int p1), .val (.int p2), .val (.int p3), .val (.int p4), .val (.int p5), .val (.int p6)] [(.int p3), (.int p2), (.int p1)]))
  refine Go.of (fun t k => XS.iload X1.here hx rfl (hb hby d2_7) rfl k) ?_
  show Go _ _ _ _ _ _ _ (T1.setTop (mkF m 9 #[.val (.ref a1), .val (.int p1), .val (.int p2), .val (.int p3), .val (.int p4), .val (.int p5), .val (.int p6)] [(.int p4), (.int p3), (.int p2), (.int p1)]))
  refine Go.of (fun t k => XS.iload X1.here hx rfl (hb hby d2_9) rfl k) ?_
  show Go _ _ _ _ _ _ _ (T1.setTop (mkF m 11 #[.val (.ref a1), .val (.int p1), .val (.int p2), .val (.int p3), .val (.int p4), .val (.int p5), .val (.int p6)] [(.int p5), (.int p4), (.int p3), (.int p2), (.int p1)]))
  refine Go.of (fun t k => XS.iload X1.here hx rfl (hb hby d2_11) rfl k) ?_
  show Go _ _ _ _ _ _ _ (T1.setTop (mkF m 13 #[.val (.ref a1), .val (.int p1), .val (.int p2), .val (.int p3), .val (.int p4), .val (.int p5), .val (.int p6)] [(.int p6), (.int p5), (.int p4), (.int p3), (.int p2), (.int p1)]))
  obtain ⟨_, _, ⟨T2, L2, k2, n2⟩, -, X2, ⟨Lc2, hQ2, l2, y2, z2⟩, st2⟩ := Jvm.LawKit.callS X1 hx (y := (⟨"com/example/live_alter/livealter/schema/Datetime", "isValid", "(IIIIII)Z"⟩ : MethodName)) hown (mvT hZ (hw _ (List.mem_of_getElem? (i := 19) rfl))) (mvT hZ (hw _ (List.mem_of_getElem? (i := 20) rfl))) (mvT hZ (hw _ (List.mem_of_getElem? (i := 7) rfl))) (mvT hZ (hw _ (List.mem_of_getElem? (i := 21) rfl))) (by decide) (backOf (W := 0) (rm5 l Z a0 hw [] p1 p2 p3 p4 p5 p6 w cl mo h0 n0 Z0 M hy0 hy1 hm0 hm1 hd0 hd1 hh0 hh1 hi0 hi1 hs0 hs1) hZ (hw _ (List.mem_of_getElem? (i := 21) rfl)) (hw _ (List.mem_of_getElem? (i := 7) rfl)) (by decide) (by decide)) (g := (mkF m 13 #[.val (.ref a1), .val (.int p1), .val (.int p2), .val (.int p3), .val (.int p4), .val (.int p5), .val (.int p6)] [(.int p6), (.int p5), (.int p4), (.int p3), (.int p2), (.int p1)])) rfl (by rw [hml]; rfl) (argsL := [(.int p1), (.int p2), (.int p3), (.int p4), (.int p5), (.int p6)]) (rest := []) (lenOf pd_6 rfl) rfl (by show 2 * 0 + _ ≤ _; exact Nat.le_of_eq rfl) (hb hby d2_13) (fun _ _ => ⟨rfl, e1, (by decide : 0 + 0 ≤ _), (by decide : 0 + 0 ≤ _)⟩)
  dsimp only [Pt.U, Pt.locs, Pt.cells, Pt.slots] at X2 l2 y2 z2 st2 hQ2
  subst l2 y2 z2
  obtain ⟨rfl, N2q, e2⟩ := hQ2
  have N2 := Fr.app N1 N2q
  refine Go.of st2 ?_
  show Go _ _ _ _ _ _ _ (T2.setTop (mkF m 16 #[.val (.ref a1), .val (.int p1), .val (.int p2), .val (.int p3), .val (.int p4), .val (.int p5), .val (.int p6)] [(.int (1 : Int32))]))
  refine Go.of (fun t k => XS.ifYes X2.here hx rfl (pc0 := 16) (pc' := 41) rfl (hb hby d2_16) rfl ((if0 _ _).trans (feq (by decide : ¬ ((1 : Int32) = (0 : Int32)))).2) (by decide) (by decide) k) ?_
  show Go _ _ _ _ _ _ _ (T2.setTop (mkF m 41 #[.val (.ref a1), .val (.int p1), .val (.int p2), .val (.int p3), .val (.int p4), .val (.int p5), .val (.int p6)] []))
  refine Go.of (fun t k => XS.aloadN X2.here hx rfl (hb hby d2_41) rfl rfl k) ?_
  show Go _ _ _ _ _ _ _ (T2.setTop (mkF m 42 #[.val (.ref a1), .val (.int p1), .val (.int p2), .val (.int p3), .val (.int p4), .val (.int p5), .val (.int p6)] [(.ref a1)]))
  refine Go.of (fun t k => XS.iloadN X2.here hx rfl (hb hby d2_42) rfl k) ?_
  show Go _ _ _ _ _ _ _ (T2.setTop (mkF m 43 #[.val (.ref a1), .val (.int p1), .val (.int p2), .val (.int p3), .val (.int p4), .val (.int p5), .val (.int p6)] [(.int p1), (.ref a1)]))
  obtain ⟨T3, h3, X3, e3, W3, st3⟩ := putF X2 hx hZ hown (host := "") (Or.inl (hw _ (List.mem_of_getElem? (i := 47) rfl))) Via.refl e2 F_year E1 (Or.inr ⟨(hw _ (List.mem_of_getElem? (i := 48) rfl)), rfl, hnm⟩) (hw _ (List.mem_of_getElem? (i := 6) rfl)) (ty := .int) (by decide) rfl rfl (g := (mkF m 43 #[.val (.ref a1), .val (.int p1), .val (.int p2), .val (.int p3), .val (.int p4), .val (.int p5), .val (.int p6)] [(.int p1), (.ref a1)])) rfl rfl (hb hby d2_43)
  refine Go.of st3 ?_
  have Fw3 := F_year.same W3
  have hs4 : h0.size ≤ h3.size := Nat.le_of_eq W3.size.symm
  have N3 := Fr.snoc X3 N2 g1
  show Go _ _ _ _ _ _ _ (T3.setTop (mkF m 46 #[.val (.ref a1), .val (.int p1), .val (.int p2), .val (.int p3), .val (.int p4), .val (.int p5), .val (.int p6)] []))
  refine Go.of (fun t k => XS.aloadN X3.here hx rfl (hb hby d2_46) rfl rfl k) ?_
  show Go _ _ _ _ _ _ _ (T3.setTop (mkF m 47 #[.val (.ref a1), .val (.int p1), .val (.int p2), .val (.int p3), .val (.int p4), .val (.int p5), .val (.int p6)] [(.ref a1)]))
  refine Go.of (fun t k => XS.iloadN X3.here hx rfl (hb hby d2_47) rfl k) ?_
  show Go _ _ _ _ _ _ _ (T3.setTop (mkF m 48 #[.val (.ref a1), .val (.int p1), .val (.int p2), .val (.int p3), .val (.int p4), .val (.int p5), .val (.int p6)] [(.int p2), (.ref a1)]))
  have f5 := (E1.wr W3)
  have f6 := (F_month.other W3 (Or.inr (slot_ne (Or.inr (hw _ (List.mem_of_getElem? (i := 50) rfl))) (Or.inr (hw _ (List.mem_of_getElem? (i := 48) rfl))) (by decide) (t := .int) (t' := .int) (by decide) (by decide))))
  obtain ⟨T7, h7, X7, e7, W7, st7⟩ := putF X3 hx hZ hown (host := "") (Or.inl (hw _ (List.mem_of_getElem? (i := 49) rfl))) Via.refl e3 f6 f5 (Or.inr ⟨(hw _ (List.mem_of_getElem? (i := 50) rfl)), rfl, hnm⟩) (hw _ (List.mem_of_getElem? (i := 6) rfl)) (ty := .int) (by decide) rfl rfl (g := (mkF m 48 #[.val (.ref a1), .val (.int p1), .val (.int p2), .val (.int p3), .val (.int p4), .val (.int p5), .val (.int p6)] [(.int p2), (.ref a1)])) rfl rfl (hb hby d2_48)
  refine Go.of st7 ?_
  have Fw7 := f6.same W7
  have hs8 : h3.size ≤ h7.size := Nat.le_of_eq W7.size.symm
  have N7 := Fr.snoc X7 N3 g1
  show Go _ _ _ _ _ _ _ (T7.setTop (mkF m 51 #[.val (.ref a1), .val (.int p1), .val (.int p2), .val (.int p3), .val (.int p4), .val (.int p5), .val (.int p6)] []))
  refine Go.of (fun t k => XS.aloadN X7.here hx rfl (hb hby d2_51) rfl rfl k) ?_
  show Go _ _ _ _ _ _ _ (T7.setTop (mkF m 52 #[.val (.ref a1), .val (.int p1), .val (.int p2), .val (.int p3), .val (.int p4), .val (.int p5), .val (.int p6)] [(.ref a1)]))
  refine Go.of (fun t k => XS.iloadN X7.here hx rfl (hb hby d2_52) rfl k) ?_
  show Go _ _ _ _ _ _ _ (T7.setTop (mkF m 53 #[.val (.ref a1), .val (.int p1), .val (.int p2), .val (.int p3), .val (.int p4), .val (.int p5), .val (.int p6)] [(.int p3), (.ref a1)]))
  have f9 := (f5.wr W7)
  have f10 := ((F_day.other W3 (Or.inr (slot_ne (Or.inr (hw _ (List.mem_of_getElem? (i := 52) rfl))) (Or.inr (hw _ (List.mem_of_getElem? (i := 48) rfl))) (by decide) (t := .int) (t' := .int) (by decide) (by decide)))).other W7 (Or.inr (slot_ne (Or.inr (hw _ (List.mem_of_getElem? (i := 52) rfl))) (Or.inr (hw _ (List.mem_of_getElem? (i := 50) rfl))) (by decide) (t := .int) (t' := .int) (by decide) (by decide))))
  obtain ⟨T11, h11, X11, e11, W11, st11⟩ := putF X7 hx hZ hown (host := "") (Or.inl (hw _ (List.mem_of_getElem? (i := 51) rfl))) Via.refl e7 f10 f9 (Or.inr ⟨(hw _ (List.mem_of_getElem? (i := 52) rfl)), rfl, hnm⟩) (hw _ (List.mem_of_getElem? (i := 6) rfl)) (ty := .int) (by decide) rfl rfl (g := (mkF m 53 #[.val (.ref a1), .val (.int p1), .val (.int p2), .val (.int p3), .val (.int p4), .val (.int p5), .val (.int p6)] [(.int p3), (.ref a1)])) rfl rfl (hb hby d2_53)
  refine Go.of st11 ?_
  have Fw11 := f10.same W11
  have hs12 : h7.size ≤ h11.size := Nat.le_of_eq W11.size.symm
  have N11 := Fr.snoc X11 N7 g1
  show Go _ _ _ _ _ _ _ (T11.setTop (mkF m 56 #[.val (.ref a1), .val (.int p1), .val (.int p2), .val (.int p3), .val (.int p4), .val (.int p5), .val (.int p6)] []))
  refine Go.of (fun t k => XS.aloadN X11.here hx rfl (hb hby d2_56) rfl rfl k) ?_
  show Go _ _ _ _ _ _ _ (T11.setTop (mkF m 57 #[.val (.ref a1), .val (.int p1), .val (.int p2), .val (.int p3), .val (.int p4), .val (.int p5), .val (.int p6)] [(.ref a1)]))
  refine Go.of (fun t k => XS.iload X11.here hx rfl (hb hby d2_57) rfl k) ?_
  show Go _ _ _ _ _ _ _ (T11.setTop (mkF m 59 #[.val (.ref a1), .val (.int p1), .val (.int p2), .val (.int p3), .val (.int p4), .val (.int p5), .val (.int p6)] [(.int p4), (.ref a1)]))
  have f13 := (f9.wr W11)
  have f14 := (((F_hour.other W3 (Or.inr (slot_ne (Or.inr (hw _ (List.mem_of_getElem? (i := 54) rfl))) (Or.inr (hw _ (List.mem_of_getElem? (i := 48) rfl))) (by decide) (t := .int) (t' := .int) (by decide) (by decide)))).other W7 (Or.inr (slot_ne (Or.inr (hw _ (List.mem_of_getElem? (i := 54) rfl))) (Or.inr (hw _ (List.mem_of_getElem? (i := 50) rfl))) (by decide) (t := .int) (t' := .int) (by decide) (by decide)))).other W11 (Or.inr (slot_ne (Or.inr (hw _ (List.mem_of_getElem? (i := 54) rfl))) (Or.inr (hw _ (List.mem_of_getElem? (i := 52) rfl))) (by decide) (t := .int) (t' := .int) (by decide) (by decide))))
  obtain ⟨T15, h15, X15, e15, W15, st15⟩ := putF X11 hx hZ hown (host := "") (Or.inl (hw _ (List.mem_of_getElem? (i := 53) rfl))) Via.refl e11 f14 f13 (Or.inr ⟨(hw _ (List.mem_of_getElem? (i := 54) rfl)), rfl, hnm⟩) (hw _ (List.mem_of_getElem? (i := 6) rfl)) (ty := .int) (by decide) rfl rfl (g := (mkF m 59 #[.val (.ref a1), .val (.int p1), .val (.int p2), .val (.int p3), .val (.int p4), .val (.int p5), .val (.int p6)] [(.int p4), (.ref a1)])) rfl rfl (hb hby d2_59)
  refine Go.of st15 ?_
  have Fw15 := f14.same W15
  have hs16 : h11.size ≤ h15.size := Nat.le_of_eq W15.size.symm
  have N15 := Fr.snoc X15 N11 g1
  show Go _ _ _ _ _ _ _ (T15.setTop (mkF m 62 #[.val (.ref a1), .val (.int p1), .val (.int p2), .val (.int p3), .val (.int p4), .val (.int p5), .val (.int p6)] []))
  refine Go.of (fun t k => XS.aloadN X15.here hx rfl (hb hby d2_62) rfl rfl k) ?_
  show Go _ _ _ _ _ _ _ (T15.setTop (mkF m 63 #[.val (.ref a1), .val (.int p1), .val (.int p2), .val (.int p3), .val (.int p4), .val (.int p5), .val (.int p6)] [(.ref a1)]))
  refine Go.of (fun t k => XS.iload X15.here hx rfl (hb hby d2_63) rfl k) ?_
  show Go _ _ _ _ _ _ _ (T15.setTop (mkF m 65 #[.val (.ref a1), .val (.int p1), .val (.int p2), .val (.int p3), .val (.int p4), .val (.int p5), .val (.int p6)] [(.int p5), (.ref a1)]))
  have f17 := (f13.wr W15)
  have f18 := ((((F_minute.other W3 (Or.inr (slot_ne (Or.inr (hw _ (List.mem_of_getElem? (i := 56) rfl))) (Or.inr (hw _ (List.mem_of_getElem? (i := 48) rfl))) (by decide) (t := .int) (t' := .int) (by decide) (by decide)))).other W7 (Or.inr (slot_ne (Or.inr (hw _ (List.mem_of_getElem? (i := 56) rfl))) (Or.inr (hw _ (List.mem_of_getElem? (i := 50) rfl))) (by decide) (t := .int) (t' := .int) (by decide) (by decide)))).other W11 (Or.inr (slot_ne (Or.inr (hw _ (List.mem_of_getElem? (i := 56) rfl))) (Or.inr (hw _ (List.mem_of_getElem? (i := 52) rfl))) (by decide) (t := .int) (t' := .int) (by decide) (by decide)))).other W15 (Or.inr (slot_ne (Or.inr (hw _ (List.mem_of_getElem? (i := 56) rfl))) (Or.inr (hw _ (List.mem_of_getElem? (i := 54) rfl))) (by decide) (t := .int) (t' := .int) (by decide) (by decide))))
  obtain ⟨T19, h19, X19, e19, W19, st19⟩ := putF X15 hx hZ hown (host := "") (Or.inl (hw _ (List.mem_of_getElem? (i := 55) rfl))) Via.refl e15 f18 f17 (Or.inr ⟨(hw _ (List.mem_of_getElem? (i := 56) rfl)), rfl, hnm⟩) (hw _ (List.mem_of_getElem? (i := 6) rfl)) (ty := .int) (by decide) rfl rfl (g := (mkF m 65 #[.val (.ref a1), .val (.int p1), .val (.int p2), .val (.int p3), .val (.int p4), .val (.int p5), .val (.int p6)] [(.int p5), (.ref a1)])) rfl rfl (hb hby d2_65)
  refine Go.of st19 ?_
  have Fw19 := f18.same W19
  have hs20 : h15.size ≤ h19.size := Nat.le_of_eq W19.size.symm
  have N19 := Fr.snoc X19 N15 g1
  show Go _ _ _ _ _ _ _ (T19.setTop (mkF m 68 #[.val (.ref a1), .val (.int p1), .val (.int p2), .val (.int p3), .val (.int p4), .val (.int p5), .val (.int p6)] []))
  refine Go.of (fun t k => XS.aloadN X19.here hx rfl (hb hby d2_68) rfl rfl k) ?_
  show Go _ _ _ _ _ _ _ (T19.setTop (mkF m 69 #[.val (.ref a1), .val (.int p1), .val (.int p2), .val (.int p3), .val (.int p4), .val (.int p5), .val (.int p6)] [(.ref a1)]))
  refine Go.of (fun t k => XS.iload X19.here hx rfl (hb hby d2_69) rfl k) ?_
  show Go _ _ _ _ _ _ _ (T19.setTop (mkF m 71 #[.val (.ref a1), .val (.int p1), .val (.int p2), .val (.int p3), .val (.int p4), .val (.int p5), .val (.int p6)] [(.int p6), (.ref a1)]))
  have f21 := (f17.wr W19)
  have f22 := (((((F_second.other W3 (Or.inr (slot_ne (Or.inr (hw _ (List.mem_of_getElem? (i := 58) rfl))) (Or.inr (hw _ (List.mem_of_getElem? (i := 48) rfl))) (by decide) (t := .int) (t' := .int) (by decide) (by decide)))).other W7 (Or.inr (slot_ne (Or.inr (hw _ (List.mem_of_getElem? (i := 58) rfl))) (Or.inr (hw _ (List.mem_of_getElem? (i := 50) rfl))) (by decide) (t := .int) (t' := .int) (by decide) (by decide)))).other W11 (Or.inr (slot_ne (Or.inr (hw _ (List.mem_of_getElem? (i := 58) rfl))) (Or.inr (hw _ (List.mem_of_getElem? (i := 52) rfl))) (by decide) (t := .int) (t' := .int) (by decide) (by decide)))).other W15 (Or.inr (slot_ne (Or.inr (hw _ (List.mem_of_getElem? (i := 58) rfl))) (Or.inr (hw _ (List.mem_of_getElem? (i := 54) rfl))) (by decide) (t := .int) (t' := .int) (by decide) (by decide)))).other W19 (Or.inr (slot_ne (Or.inr (hw _ (List.mem_of_getElem? (i := 58) rfl))) (Or.inr (hw _ (List.mem_of_getElem? (i := 56) rfl))) (by decide) (t := .int) (t' := .int) (by decide) (by decide))))
  obtain ⟨T23, h23, X23, e23, W23, st23⟩ := putF X19 hx hZ hown (host := "") (Or.inl (hw _ (List.mem_of_getElem? (i := 57) rfl))) Via.refl e19 f22 f21 (Or.inr ⟨(hw _ (List.mem_of_getElem? (i := 58) rfl)), rfl, hnm⟩) (hw _ (List.mem_of_getElem? (i := 6) rfl)) (ty := .int) (by decide) rfl rfl (g := (mkF m 71 #[.val (.ref a1), .val (.int p1), .val (.int p2), .val (.int p3), .val (.int p4), .val (.int p5), .val (.int p6)] [(.int p6), (.ref a1)])) rfl rfl (hb hby d2_71)
  refine Go.of st23 ?_
  have Fw23 := f22.same W23
  have hs24 : h19.size ≤ h23.size := Nat.le_of_eq W23.size.symm
  have N23 := Fr.snoc X23 N19 g1
  show Go _ _ _ _ _ _ _ (T23.setTop (mkF m 74 #[.val (.ref a1), .val (.int p1), .val (.int p2), .val (.int p3), .val (.int p4), .val (.int p5), .val (.int p6)] []))
  refine Go.out X23 (v := none) (fun _ => rfl) hlk (fun fs hr => X23.returnOut hx Bd.returns (hb hby d2_74) hr) ?_ (by decide) (by decide)
  show Q2 Z a1 p1 p2 p3 p4 p5 p6 w cl mo h0 n0 _ T23.heap _
  have f25 := (((((Fw3.other W7 (Or.inr (slot_ne (Or.inr (hw _ (List.mem_of_getElem? (i := 48) rfl))) (Or.inr (hw _ (List.mem_of_getElem? (i := 50) rfl))) (by decide) (t := .int) (t' := .int) (by decide) (by decide)))).other W11 (Or.inr (slot_ne (Or.inr (hw _ (List.mem_of_getElem? (i := 48) rfl))) (Or.inr (hw _ (List.mem_of_getElem? (i := 52) rfl))) (by decide) (t := .int) (t' := .int) (by decide) (by decide)))).other W15 (Or.inr (slot_ne (Or.inr (hw _ (List.mem_of_getElem? (i := 48) rfl))) (Or.inr (hw _ (List.mem_of_getElem? (i := 54) rfl))) (by decide) (t := .int) (t' := .int) (by decide) (by decide)))).other W19 (Or.inr (slot_ne (Or.inr (hw _ (List.mem_of_getElem? (i := 48) rfl))) (Or.inr (hw _ (List.mem_of_getElem? (i := 56) rfl))) (by decide) (t := .int) (t' := .int) (by decide) (by decide)))).other W23 (Or.inr (slot_ne (Or.inr (hw _ (List.mem_of_getElem? (i := 48) rfl))) (Or.inr (hw _ (List.mem_of_getElem? (i := 58) rfl))) (by decide) (t := .int) (t' := .int) (by decide) (by decide))))
  have f26 := ((((Fw7.other W11 (Or.inr (slot_ne (Or.inr (hw _ (List.mem_of_getElem? (i := 50) rfl))) (Or.inr (hw _ (List.mem_of_getElem? (i := 52) rfl))) (by decide) (t := .int) (t' := .int) (by decide) (by decide)))).other W15 (Or.inr (slot_ne (Or.inr (hw _ (List.mem_of_getElem? (i := 50) rfl))) (Or.inr (hw _ (List.mem_of_getElem? (i := 54) rfl))) (by decide) (t := .int) (t' := .int) (by decide) (by decide)))).other W19 (Or.inr (slot_ne (Or.inr (hw _ (List.mem_of_getElem? (i := 50) rfl))) (Or.inr (hw _ (List.mem_of_getElem? (i := 56) rfl))) (by decide) (t := .int) (t' := .int) (by decide) (by decide)))).other W23 (Or.inr (slot_ne (Or.inr (hw _ (List.mem_of_getElem? (i := 50) rfl))) (Or.inr (hw _ (List.mem_of_getElem? (i := 58) rfl))) (by decide) (t := .int) (t' := .int) (by decide) (by decide))))
  have f27 := (((Fw11.other W15 (Or.inr (slot_ne (Or.inr (hw _ (List.mem_of_getElem? (i := 52) rfl))) (Or.inr (hw _ (List.mem_of_getElem? (i := 54) rfl))) (by decide) (t := .int) (t' := .int) (by decide) (by decide)))).other W19 (Or.inr (slot_ne (Or.inr (hw _ (List.mem_of_getElem? (i := 52) rfl))) (Or.inr (hw _ (List.mem_of_getElem? (i := 56) rfl))) (by decide) (t := .int) (t' := .int) (by decide) (by decide)))).other W23 (Or.inr (slot_ne (Or.inr (hw _ (List.mem_of_getElem? (i := 52) rfl))) (Or.inr (hw _ (List.mem_of_getElem? (i := 58) rfl))) (by decide) (t := .int) (t' := .int) (by decide) (by decide))))
  have f28 := ((Fw15.other W19 (Or.inr (slot_ne (Or.inr (hw _ (List.mem_of_getElem? (i := 54) rfl))) (Or.inr (hw _ (List.mem_of_getElem? (i := 56) rfl))) (by decide) (t := .int) (t' := .int) (by decide) (by decide)))).other W23 (Or.inr (slot_ne (Or.inr (hw _ (List.mem_of_getElem? (i := 54) rfl))) (Or.inr (hw _ (List.mem_of_getElem? (i := 58) rfl))) (by decide) (t := .int) (t' := .int) (by decide) (by decide))))
  have f29 := (Fw19.other W23 (Or.inr (slot_ne (Or.inr (hw _ (List.mem_of_getElem? (i := 56) rfl))) (Or.inr (hw _ (List.mem_of_getElem? (i := 58) rfl))) (by decide) (t := .int) (t' := .int) (by decide) (by decide))))
  have f30 := (f21.wr W23)
  rw [e23]
  exact ⟨rfl, N23, (((((((Keep.refl h0 [a1]).wr W3 (Or.inl (List.mem_of_getElem? (i := 0) rfl))).wr W7 (Or.inl (List.mem_of_getElem? (i := 0) rfl))).wr W11 (Or.inl (List.mem_of_getElem? (i := 0) rfl))).wr W15 (Or.inl (List.mem_of_getElem? (i := 0) rfl))).wr W19 (Or.inl (List.mem_of_getElem? (i := 0) rfl))).wr W23 (Or.inl (List.mem_of_getElem? (i := 0) rfl))), f30, f25, f26, f27, f28, f29, Fw23⟩
theorem d11_0 : decode prog_122_method_5_code 0 = .ok (.aload_n 0, 1) := by decide +kernel
theorem d11_1 : decode prog_122_method_5_code 1 = .ok (.getfield 22, 3) := by decide +kernel
theorem d11_4 : decode prog_122_method_5_code 4 = .ok (.i2l, 1) := by decide +kernel
theorem d11_5 : decode prog_122_method_5_code 5 = .ok (.ldc2_w 94, 3) := by decide +kernel
theorem d11_8 : decode prog_122_method_5_code 8 = .ok (.lmul, 1) := by decide +kernel
theorem d11_9 : decode prog_122_method_5_code 9 = .ok (.aload_n 0, 1) := by decide +kernel
theorem d11_10 : decode prog_122_method_5_code 10 = .ok (.getfield 26, 3) := by decide +kernel
theorem d11_13 : decode prog_122_method_5_code 13 = .ok (.i2l, 1) := by decide +kernel
theorem d11_14 : decode prog_122_method_5_code 14 = .ok (.ladd, 1) := by decide +kernel
theorem d11_15 : decode prog_122_method_5_code 15 = .ok (.ldc2_w 94, 3) := by decide +kernel
theorem d11_18 : decode prog_122_method_5_code 18 = .ok (.lmul, 1) := by decide +kernel
theorem d11_19 : decode prog_122_method_5_code 19 = .ok (.aload_n 0, 1) := by decide +kernel
theorem d11_20 : decode prog_122_method_5_code 20 = .ok (.getfield 29, 3) := by decide +kernel
theorem d11_23 : decode prog_122_method_5_code 23 = .ok (.i2l, 1) := by decide +kernel
theorem d11_24 : decode prog_122_method_5_code 24 = .ok (.ladd, 1) := by decide +kernel
theorem d11_25 : decode prog_122_method_5_code 25 = .ok (.ldc2_w 94, 3) := by decide +kernel
theorem d11_28 : decode prog_122_method_5_code 28 = .ok (.lmul, 1) := by decide +kernel
theorem d11_29 : decode prog_122_method_5_code 29 = .ok (.aload_n 0, 1) := by decide +kernel
theorem d11_30 : decode prog_122_method_5_code 30 = .ok (.getfield 32, 3) := by decide +kernel
theorem d11_33 : decode prog_122_method_5_code 33 = .ok (.i2l, 1) := by decide +kernel
theorem d11_34 : decode prog_122_method_5_code 34 = .ok (.ladd, 1) := by decide +kernel
theorem d11_35 : decode prog_122_method_5_code 35 = .ok (.ldc2_w 94, 3) := by decide +kernel
theorem d11_38 : decode prog_122_method_5_code 38 = .ok (.lmul, 1) := by decide +kernel
theorem d11_39 : decode prog_122_method_5_code 39 = .ok (.aload_n 0, 1) := by decide +kernel
theorem d11_40 : decode prog_122_method_5_code 40 = .ok (.getfield 35, 3) := by decide +kernel
theorem d11_43 : decode prog_122_method_5_code 43 = .ok (.i2l, 1) := by decide +kernel
theorem d11_44 : decode prog_122_method_5_code 44 = .ok (.ladd, 1) := by decide +kernel
theorem d11_45 : decode prog_122_method_5_code 45 = .ok (.ldc2_w 94, 3) := by decide +kernel
theorem d11_48 : decode prog_122_method_5_code 48 = .ok (.lmul, 1) := by decide +kernel
theorem d11_49 : decode prog_122_method_5_code 49 = .ok (.aload_n 0, 1) := by decide +kernel
theorem d11_50 : decode prog_122_method_5_code 50 = .ok (.getfield 38, 3) := by decide +kernel
theorem d11_53 : decode prog_122_method_5_code 53 = .ok (.i2l, 1) := by decide +kernel
theorem d11_54 : decode prog_122_method_5_code 54 = .ok (.ladd, 1) := by decide +kernel
theorem d11_55 : decode prog_122_method_5_code 55 = .ok (.lreturn, 1) := by decide +kernel
def Q11 (Z : State) (a1 : Addr) (p1 : Int32) (p2 : Int32) (p3 : Int32) (p4 : Int32) (p5 : Int32) (p6 : Int32) (h0 : Heap) (n0 : Nat) (v : Option Value) (h : Heap) (L : List Loc) : Prop := v = some (.long (own_dig p1 p2 p3 p4 p5 p6)) ∧ Fr n0 L ∧ h = h0
set_option maxRecDepth 65536 in
set_option maxHeartbeats 40000000 in
theorem rm11 (l : Launch) (Z : State) (a0 : Array Value) (hw : ∀ d ∈ tables_1, d.before a0 Z = true) (ws : List Jvm.Cond) (a1 : Addr) (p1 : Int32) (p2 : Int32) (p3 : Int32) (p4 : Int32) (p5 : Int32) (p6 : Int32) (h0 : Heap) (n0 : Nat) (Z0 : n0 ≤ h0.size) (F_year : Fld Z h0 a1 "com/example/live_alter/livealter/schema/Datetime" "year" "I" (.int p1)) (F_month : Fld Z h0 a1 "com/example/live_alter/livealter/schema/Datetime" "month" "I" (.int p2)) (F_day : Fld Z h0 a1 "com/example/live_alter/livealter/schema/Datetime" "day" "I" (.int p3)) (F_hour : Fld Z h0 a1 "com/example/live_alter/livealter/schema/Datetime" "hour" "I" (.int p4)) (F_minute : Fld Z h0 a1 "com/example/live_alter/livealter/schema/Datetime" "minute" "I" (.int p5)) (F_second : Fld Z h0 a1 "com/example/live_alter/livealter/schema/Datetime" "second" "I" (.int p6)) :
    MetFree l (⟨"com/example/live_alter/livealter/schema/Datetime", "digits", "()J"⟩ : MethodName) (head1 (Jvm.Cond.code (⟨"com/example/live_alter/livealter/schema/Datetime", "digits", "()J"⟩ : MethodName) prog_122_method_5_code 1 (some .long) :: ws) ({ frames := 0, cells := 0, slots := 0, locals := 0 } : Room)) (fun a U => a = #[(.ref a1)] ∧ Z.Warmed39 U.vm ∧ U.heap = h0) (fun _ _ _ _ _ => True) (fun _ U o U' => ∃ v L, o = .returned v ∧ Q11 Z a1 p1 p2 p3 p4 p5 p6 h0 n0 v U'.heap L ∧ FrameEnd U o U' L ({ frames := 0, cells := 0, slots := 0, locals := 0 } : Room).cells ({ frames := 0, cells := 0, slots := 0, locals := 0 } : Room).slots) := by
  refine MetFree.of_bodySF (plainFor_of_name pn_3) hisR ?_
  intro p e s m args below meth c s₁ Bd hml0 hP hK
  obtain ⟨rfl, hZ, hh⟩ := hP
  have hx := Bd.exec
  have hby := Bd.bytes
  have hml : c.maxLocals = 1 := hml0
  have hown : s.vm.findClass "com/example/live_alter/livealter/schema/Datetime" = some m.cls := findClass_of_methodNamed Bd.named
  have hnm := (name_of_methodNamed Bd.named Bd.method).1
  have hlk : meth.locks = false := BodyLoose.notSynchronized Bd
  have X0 : Stand p l e ({ frames := 0, cells := 0, slots := 0, locals := 0 } : Room) s m #[(.ref a1)] below meth c s₁ [] 0 0 := Stand.of_body Bd
  have e0 : s₁.heap = h0 := by rw [← hh, Bd.state]; rfl
  have N0 := Fr.nil n0
  have hef : entryFrame m #[(.ref a1)] 1 = mkF m 0 #[.val (.ref a1)] [] := by first | (simp [entryFrame, mkF, argsToLocals, Value.category]; done) | rfl
  show Go p e below s ({ frames := 0, cells := 0, slots := 0, locals := 0 } : Room).cells ({ frames := 0, cells := 0, slots := 0, locals := 0 } : Room).slots (Q11 Z a1 p1 p2 p3 p4 p5 p6 h0 n0) (s₁.setTop (entryFrame m #[(.ref a1)] 1))
  rw [hef]
  refine Go.of (fun t k => XS.aloadN X0.here hx rfl (hb hby d11_0) rfl rfl k) ?_
  show Go _ _ _ _ _ _ _ (s₁.setTop (mkF m 1 #[.val (.ref a1)] [(.ref a1)]))
  obtain ⟨T1, X1, e1, st1⟩ := getF X0 hx hZ hown (host := "") (Or.inl (hw _ (List.mem_of_getElem? (i := 47) rfl))) Via.refl e0 F_year (g := (mkF m 1 #[.val (.ref a1)] [(.ref a1)])) rfl rfl (hb hby d11_1)
  refine Go.of st1 ?_
  show Go _ _ _ _ _ _ _ (T1.setTop (mkF m 4 #[.val (.ref a1)] [(.int p1)]))
  refine Go.of (fun t k => XS.i2l X1.here hx rfl (hb hby d11_4) rfl k) ?_
  show Go _ _ _ _ _ _ _ (T1.setTop (mkF m 5 #[.val (.ref a1)] [(.long (p1.toInt64))]))
  refine Go.of (fun t k => X1.ldc2Long hx hown (mvT hZ (hw _ (List.mem_of_getElem? (i := 69) rfl))) (g := (mkF m 5 #[.val (.ref a1)] [(.long (p1.toInt64))])) rfl (hb hby d11_5) _ k) ?_
  show Go _ _ _ _ _ _ _ (T1.setTop (mkF m 8 #[.val (.ref a1)] [(.long (100 : Int64)), (.long (p1.toInt64))]))
  refine Go.of (fun t k => XS.lmul X1.here hx rfl (hb hby d11_8) rfl k) ?_
  show Go _ _ _ _ _ _ _ (T1.setTop (mkF m 9 #[.val (.ref a1)] [(.long ((p1.toInt64) * (100 : Int64)))]))
  refine Go.of (fun t k => XS.aloadN X1.here hx rfl (hb hby d11_9) rfl rfl k) ?_
  show Go _ _ _ _ _ _ _ (T1.setTop (mkF m 10 #[.val (.ref a1)] [(.ref a1), (.long ((p1.toInt64) * (100 : Int64)))]))
  obtain ⟨T2, X2, e2, st2⟩ := getF X1 hx hZ hown (host := "") (Or.inl (hw _ (List.mem_of_getElem? (i := 49) rfl))) Via.refl e1 F_month (g := (mkF m 10 #[.val (.ref a1)] [(.ref a1), (.long ((p1.toInt64) * (100 : Int64)))])) rfl rfl (hb hby d11_10)
  refine Go.of st2 ?_
  show Go _ _ _ _ _ _ _ (T2.setTop (mkF m 13 #[.val (.ref a1)] [(.int p2), (.long ((p1.toInt64) * (100 : Int64)))]))
  refine Go.of (fun t k => XS.i2l X2.here hx rfl (hb hby d11_13) rfl k) ?_
  show Go _ _ _ _ _ _ _ (T2.setTop (mkF m 14 #[.val (.ref a1)] [(.long (p2.toInt64)), (.long ((p1.toInt64) * (100 : Int64)))]))
  refine Go.of (fun t k => XS.ladd X2.here hx rfl (hb hby d11_14) rfl k) ?_
  show Go _ _ _ _ _ _ _ (T2.setTop (mkF m 15 #[.val (.ref a1)] [(.long (((p1.toInt64) * (100 : Int64)) + (p2.toInt64)))]))
  refine Go.of (fun t k => X2.ldc2Long hx hown (mvT hZ (hw _ (List.mem_of_getElem? (i := 69) rfl))) (g := (mkF m 15 #[.val (.ref a1)] [(.long (((p1.toInt64) * (100 : Int64)) + (p2.toInt64)))])) rfl (hb hby d11_15) _ k) ?_
  show Go _ _ _ _ _ _ _ (T2.setTop (mkF m 18 #[.val (.ref a1)] [(.long (100 : Int64)), (.long (((p1.toInt64) * (100 : Int64)) + (p2.toInt64)))]))
  refine Go.of (fun t k => XS.lmul X2.here hx rfl (hb hby d11_18) rfl k) ?_
  show Go _ _ _ _ _ _ _ (T2.setTop (mkF m 19 #[.val (.ref a1)] [(.long ((((p1.toInt64) * (100 : Int64)) + (p2.toInt64)) * (100 : Int64)))]))
  refine Go.of (fun t k => XS.aloadN X2.here hx rfl (hb hby d11_19) rfl rfl k) ?_
  show Go _ _ _ _ _ _ _ (T2.setTop (mkF m 20 #[.val (.ref a1)] [(.ref a1), (.long ((((p1.toInt64) * (100 : Int64)) + (p2.toInt64)) * (100 : Int64)))]))
  obtain ⟨T3, X3, e3, st3⟩ := getF X2 hx hZ hown (host := "") (Or.inl (hw _ (List.mem_of_getElem? (i := 51) rfl))) Via.refl e2 F_day (g := (mkF m 20 #[.val (.ref a1)] [(.ref a1), (.long ((((p1.toInt64) * (100 : Int64)) + (p2.toInt64)) * (100 : Int64)))])) rfl rfl (hb hby d11_20)
  refine Go.of st3 ?_
  show Go _ _ _ _ _ _ _ (T3.setTop (mkF m 23 #[.val (.ref a1)] [(.int p3), (.long ((((p1.toInt64) * (100 : Int64)) + (p2.toInt64)) * (100 : Int64)))]))
  refine Go.of (fun t k => XS.i2l X3.here hx rfl (hb hby d11_23) rfl k) ?_
  show Go _ _ _ _ _ _ _ (T3.setTop (mkF m 24 #[.val (.ref a1)] [(.long (p3.toInt64)), (.long ((((p1.toInt64) * (100 : Int64)) + (p2.toInt64)) * (100 : Int64)))]))
  refine Go.of (fun t k => XS.ladd X3.here hx rfl (hb hby d11_24) rfl k) ?_
  show Go _ _ _ _ _ _ _ (T3.setTop (mkF m 25 #[.val (.ref a1)] [(.long (((((p1.toInt64) * (100 : Int64)) + (p2.toInt64)) * (100 : Int64)) + (p3.toInt64)))]))
  refine Go.of (fun t k => X3.ldc2Long hx hown (mvT hZ (hw _ (List.mem_of_getElem? (i := 69) rfl))) (g := (mkF m 25 #[.val (.ref a1)] [(.long (((((p1.toInt64) * (100 : Int64)) + (p2.toInt64)) * (100 : Int64)) + (p3.toInt64)))])) rfl (hb hby d11_25) _ k) ?_
  show Go _ _ _ _ _ _ _ (T3.setTop (mkF m 28 #[.val (.ref a1)] [(.long (100 : Int64)), (.long (((((p1.toInt64) * (100 : Int64)) + (p2.toInt64)) * (100 : Int64)) + (p3.toInt64)))]))
  refine Go.of (fun t k => XS.lmul X3.here hx rfl (hb hby d11_28) rfl k) ?_
  show Go _ _ _ _ _ _ _ (T3.setTop (mkF m 29 #[.val (.ref a1)] [(.long ((((((p1.toInt64) * (100 : Int64)) + (p2.toInt64)) * (100 : Int64)) + (p3.toInt64)) * (100 : Int64)))]))
  refine Go.of (fun t k => XS.aloadN X3.here hx rfl (hb hby d11_29) rfl rfl k) ?_
  show Go _ _ _ _ _ _ _ (T3.setTop (mkF m 30 #[.val (.ref a1)] [(.ref a1), (.long ((((((p1.toInt64) * (100 : Int64)) + (p2.toInt64)) * (100 : Int64)) + (p3.toInt64)) * (100 : Int64)))]))
  obtain ⟨T4, X4, e4, st4⟩ := getF X3 hx hZ hown (host := "") (Or.inl (hw _ (List.mem_of_getElem? (i := 53) rfl))) Via.refl e3 F_hour (g := (mkF m 30 #[.val (.ref a1)] [(.ref a1), (.long ((((((p1.toInt64) * (100 : Int64)) + (p2.toInt64)) * (100 : Int64)) + (p3.toInt64)) * (100 : Int64)))])) rfl rfl (hb hby d11_30)
  refine Go.of st4 ?_
  show Go _ _ _ _ _ _ _ (T4.setTop (mkF m 33 #[.val (.ref a1)] [(.int p4), (.long ((((((p1.toInt64) * (100 : Int64)) + (p2.toInt64)) * (100 : Int64)) + (p3.toInt64)) * (100 : Int64)))]))
  refine Go.of (fun t k => XS.i2l X4.here hx rfl (hb hby d11_33) rfl k) ?_
  show Go _ _ _ _ _ _ _ (T4.setTop (mkF m 34 #[.val (.ref a1)] [(.long (p4.toInt64)), (.long ((((((p1.toInt64) * (100 : Int64)) + (p2.toInt64)) * (100 : Int64)) + (p3.toInt64)) * (100 : Int64)))]))
  refine Go.of (fun t k => XS.ladd X4.here hx rfl (hb hby d11_34) rfl k) ?_
  show Go _ _ _ _ _ _ _ (T4.setTop (mkF m 35 #[.val (.ref a1)] [(.long (((((((p1.toInt64) * (100 : Int64)) + (p2.toInt64)) * (100 : Int64)) + (p3.toInt64)) * (100 : Int64)) + (p4.toInt64)))]))
  refine Go.of (fun t k => X4.ldc2Long hx hown (mvT hZ (hw _ (List.mem_of_getElem? (i := 69) rfl))) (g := (mkF m 35 #[.val (.ref a1)] [(.long (((((((p1.toInt64) * (100 : Int64)) + (p2.toInt64)) * (100 : Int64)) + (p3.toInt64)) * (100 : Int64)) + (p4.toInt64)))])) rfl (hb hby d11_35) _ k) ?_
  show Go _ _ _ _ _ _ _ (T4.setTop (mkF m 38 #[.val (.ref a1)] [(.long (100 : Int64)), (.long (((((((p1.toInt64) * (100 : Int64)) + (p2.toInt64)) * (100 : Int64)) + (p3.toInt64)) * (100 : Int64)) + (p4.toInt64)))]))
  refine Go.of (fun t k => XS.lmul X4.here hx rfl (hb hby d11_38) rfl k) ?_
  show Go _ _ _ _ _ _ _ (T4.setTop (mkF m 39 #[.val (.ref a1)] [(.long ((((((((p1.toInt64) * (100 : Int64)) + (p2.toInt64)) * (100 : Int64)) + (p3.toInt64)) * (100 : Int64)) + (p4.toInt64)) * (100 : Int64)))]))
  refine Go.of (fun t k => XS.aloadN X4.here hx rfl (hb hby d11_39) rfl rfl k) ?_
  show Go _ _ _ _ _ _ _ (T4.setTop (mkF m 40 #[.val (.ref a1)] [(.ref a1), (.long ((((((((p1.toInt64) * (100 : Int64)) + (p2.toInt64)) * (100 : Int64)) + (p3.toInt64)) * (100 : Int64)) + (p4.toInt64)) * (100 : Int64)))]))
  obtain ⟨T5, X5, e5, st5⟩ := getF X4 hx hZ hown (host := "") (Or.inl (hw _ (List.mem_of_getElem? (i := 55) rfl))) Via.refl e4 F_minute (g := (mkF m 40 #[.val (.ref a1)] [(.ref a1), (.long ((((((((p1.toInt64) * (100 : Int64)) + (p2.toInt64)) * (100 : Int64)) + (p3.toInt64)) * (100 : Int64)) + (p4.toInt64)) * (100 : Int64)))])) rfl rfl (hb hby d11_40)
  refine Go.of st5 ?_
  show Go _ _ _ _ _ _ _ (T5.setTop (mkF m 43 #[.val (.ref a1)] [(.int p5), (.long ((((((((p1.toInt64) * (100 : Int64)) + (p2.toInt64)) * (100 : Int64)) + (p3.toInt64)) * (100 : Int64)) + (p4.toInt64)) * (100 : Int64)))]))
  refine Go.of (fun t k => XS.i2l X5.here hx rfl (hb hby d11_43) rfl k) ?_
  show Go _ _ _ _ _ _ _ (T5.setTop (mkF m 44 #[.val (.ref a1)] [(.long (p5.toInt64)), (.long ((((((((p1.toInt64) * (100 : Int64)) + (p2.toInt64)) * (100 : Int64)) + (p3.toInt64)) * (100 : Int64)) + (p4.toInt64)) * (100 : Int64)))]))
  refine Go.of (fun t k => XS.ladd X5.here hx rfl (hb hby d11_44) rfl k) ?_
  show Go _ _ _ _ _ _ _ (T5.setTop (mkF m 45 #[.val (.ref a1)] [(.long (((((((((p1.toInt64) * (100 : Int64)) + (p2.toInt64)) * (100 : Int64)) + (p3.toInt64)) * (100 : Int64)) + (p4.toInt64)) * (100 : Int64)) + (p5.toInt64)))]))
  refine Go.of (fun t k => X5.ldc2Long hx hown (mvT hZ (hw _ (List.mem_of_getElem? (i := 69) rfl))) (g := (mkF m 45 #[.val (.ref a1)] [(.long (((((((((p1.toInt64) * (100 : Int64)) + (p2.toInt64)) * (100 : Int64)) + (p3.toInt64)) * (100 : Int64)) + (p4.toInt64)) * (100 : Int64)) + (p5.toInt64)))])) rfl (hb hby d11_45) _ k) ?_
  show Go _ _ _ _ _ _ _ (T5.setTop (mkF m 48 #[.val (.ref a1)] [(.long (100 : Int64)), (.long (((((((((p1.toInt64) * (100 : Int64)) + (p2.toInt64)) * (100 : Int64)) + (p3.toInt64)) * (100 : Int64)) + (p4.toInt64)) * (100 : Int64)) + (p5.toInt64)))]))
  refine Go.of (fun t k => XS.lmul X5.here hx rfl (hb hby d11_48) rfl k) ?_
  show Go _ _ _ _ _ _ _ (T5.setTop (mkF m 49 #[.val (.ref a1)] [(.long ((((((((((p1.toInt64) * (100 : Int64)) + (p2.toInt64)) * (100 : Int64)) + (p3.toInt64)) * (100 : Int64)) + (p4.toInt64)) * (100 : Int64)) + (p5.toInt64)) * (100 : Int64)))]))
  refine Go.of (fun t k => XS.aloadN X5.here hx rfl (hb hby d11_49) rfl rfl k) ?_
  show Go _ _ _ _ _ _ _ (T5.setTop (mkF m 50 #[.val (.ref a1)] [(.ref a1), (.long ((((((((((p1.toInt64) * (100 : Int64)) + (p2.toInt64)) * (100 : Int64)) + (p3.toInt64)) * (100 : Int64)) + (p4.toInt64)) * (100 : Int64)) + (p5.toInt64)) * (100 : Int64)))]))
  obtain ⟨T6, X6, e6, st6⟩ := getF X5 hx hZ hown (host := "") (Or.inl (hw _ (List.mem_of_getElem? (i := 57) rfl))) Via.refl e5 F_second (g := (mkF m 50 #[.val (.ref a1)] [(.ref a1), (.long ((((((((((p1.toInt64) * (100 : Int64)) + (p2.toInt64)) * (100 : Int64)) + (p3.toInt64)) * (100 : Int64)) + (p4.toInt64)) * (100 : Int64)) + (p5.toInt64)) * (100 : Int64)))])) rfl rfl (hb hby d11_50)
  refine Go.of st6 ?_
  show Go _ _ _ _ _ _ _ (T6.setTop (mkF m 53 #[.val (.ref a1)] [(.int p6), (.long ((((((((((p1.toInt64) * (100 : Int64)) + (p2.toInt64)) * (100 : Int64)) + (p3.toInt64)) * (100 : Int64)) + (p4.toInt64)) * (100 : Int64)) + (p5.toInt64)) * (100 : Int64)))]))
  refine Go.of (fun t k => XS.i2l X6.here hx rfl (hb hby d11_53) rfl k) ?_
  show Go _ _ _ _ _ _ _ (T6.setTop (mkF m 54 #[.val (.ref a1)] [(.long (p6.toInt64)), (.long ((((((((((p1.toInt64) * (100 : Int64)) + (p2.toInt64)) * (100 : Int64)) + (p3.toInt64)) * (100 : Int64)) + (p4.toInt64)) * (100 : Int64)) + (p5.toInt64)) * (100 : Int64)))]))
  refine Go.of (fun t k => XS.ladd X6.here hx rfl (hb hby d11_54) rfl k) ?_
  show Go _ _ _ _ _ _ _ (T6.setTop (mkF m 55 #[.val (.ref a1)] [(.long (((((((((((p1.toInt64) * (100 : Int64)) + (p2.toInt64)) * (100 : Int64)) + (p3.toInt64)) * (100 : Int64)) + (p4.toInt64)) * (100 : Int64)) + (p5.toInt64)) * (100 : Int64)) + (p6.toInt64)))]))
  refine Go.out X6 (v := some (.long (((((((((((p1.toInt64) * (100 : Int64)) + (p2.toInt64)) * (100 : Int64)) + (p3.toInt64)) * (100 : Int64)) + (p4.toInt64)) * (100 : Int64)) + (p5.toInt64)) * (100 : Int64)) + (p6.toInt64)))) (fun h => by rw [Bd.returns] at h; cases h) hlk (fun fs hr => retOut X6 hx (t := .long) Bd.returns rfl (Or.inr (Or.inl ⟨rfl, rfl, _, rfl⟩)) (hb hby d11_55) hr) ?_ (by decide) (by decide)
  show Q11 Z a1 p1 p2 p3 p4 p5 p6 h0 n0 _ T6.heap _
  rw [e6]
  exact ⟨rfl, N0, rfl⟩
theorem own_mask (x m : Int32) (k : Nat) (hk : k ≤ 31) (hm : m.toBitVec.toNat = 2 ^ k - 1) (q : Int32) (d : Int) (hq : q.toInt = d) (hd : 0 < d) : 0 ≤ ((x &&& m) % q).toInt ∧ ((x &&& m) % q).toInt < d := by
  have a := c_mask x m k hk hm
  have b : 0 ≤ (x &&& m).toInt := by rw [a]; exact Int.emod_nonneg _ (by have : 0 < 2 ^ k := Nat.pow_pos (by decide); omega)
  have e := (c_irem (x &&& m) q d hq).1 b
  rw [e]
  exact ⟨Int.emod_nonneg _ (by omega), Int.emod_lt_of_pos _ hd⟩
theorem own_rng {x : Int32} {d : Int} (h : 0 ≤ x.toInt ∧ x.toInt < d) (e : Int32) (he : e.toInt = d - 1) : ¬ x < 0 ∧ ¬ e < x := by
  have o : (0 : Int32).toInt = 0 := by decide
  refine ⟨fun q => ?_, fun q => ?_⟩
  · rw [Int32.lt_iff_toInt_lt] at q; omega
  · rw [Int32.lt_iff_toInt_lt] at q; omega
theorem own_ml_rng (y m : Int32) : (own_ml y m + 1).toInt = (own_ml y m).toInt + 1 ∧ 28 ≤ (own_ml y m).toInt := by
  unfold own_ml
  repeat' split
  all_goals decide
theorem pd_7 : parseMethodDescriptor "(II)I" = some ⟨[.int, .int], some .int⟩ := by decide +kernel
theorem pd_8 : parseMethodDescriptor "(IIIIII)V" = some ⟨[.int, .int, .int, .int, .int, .int], none⟩ := by decide +kernel
theorem pd_9 : parseMethodDescriptor "()J" = some ⟨[], some .long⟩ := by decide +kernel
def Q0 (Z : State) (p1 : Int32) (p2 : Int32) (p3 : Int32) (p4 : Int32) (p5 : Int32) (p6 : Int32) (w : Addr) (cl : Cell) (mo : Int32 → Addr) (h0 : Heap) (n0 : Nat) (v : Option Value) (h : Heap) (L : List Loc) : Prop := v = some (.int 1) ∧ Fr n0 L
set_option maxRecDepth 65536 in
set_option maxHeartbeats 40000000 in
theorem rm0 (l : Launch) (Z : State) (a0 : Array Value) (hw : ∀ d ∈ tables_1, d.before a0 Z = true) (ws : List Jvm.Cond) (p1 : Int32) (p2 : Int32) (p3 : Int32) (p4 : Int32) (p5 : Int32) (p6 : Int32) (w : Addr) (cl : Cell) (mo : Int32 → Addr) (h0 : Heap) (n0 : Nat) (Z0 : n0 ≤ h0.size) (M : own_months Z h0 w cl mo) :
    MetFree l x (head1 (Jvm.Cond.code x code maxLocals ret :: ws) room_1) (fun a U => a = #[(.int p1), (.int p2), (.int p3), (.int p4), (.int p5), (.int p6)] ∧ Z.Warmed39 U.vm ∧ U.heap = h0) (fun _ _ _ _ _ => True) (fun _ U o U' => ∃ v L, o = .returned v ∧ Q0 Z p1 p2 p3 p4 p5 p6 w cl mo h0 n0 v U'.heap L ∧ FrameEnd U o U' L room_1.cells room_1.slots) := by
  refine MetFree.of_bodySF (plainFor_of_name pn_0) hisR ?_
  intro p e s m args below meth c s₁ Bd hml0 hP hK
  obtain ⟨rfl, hZ, hh⟩ := hP
  have hx := Bd.exec
  have hby := Bd.bytes
  have hml : c.maxLocals = 15 := hml0
  have hown : s.vm.findClass "com/example/live_alter/livealter/schema/DatetimeDigitsPinLaw" = some m.cls := findClass_of_methodNamed Bd.named
  have hnm := (name_of_methodNamed Bd.named Bd.method).1
  have hlk : meth.locks = false := BodyLoose.notSynchronized Bd
  have X0 : Stand p l e room_1 s m #[(.int p1), (.int p2), (.int p3), (.int p4), (.int p5), (.int p6)] below meth c s₁ [] 0 0 := Stand.of_body Bd
  have e0 : s₁.heap = h0 := by rw [← hh, Bd.state]; rfl
  have N0 := Fr.nil n0
  have hef : entryFrame m #[(.int p1), (.int p2), (.int p3), (.int p4), (.int p5), (.int p6)] maxLocals = mkF m 0 #[.val (.int p1), .val (.int p2), .val (.int p3), .val (.int p4), .val (.int p5), .val (.int p6), .unset, .unset, .unset, .unset, .unset, .unset, .unset, .unset, .unset] [] := by first | (simp [entryFrame, mkF, argsToLocals, Value.category, maxLocals]; done) | rfl
  show Go p e below s room_1.cells room_1.slots (Q0 Z p1 p2 p3 p4 p5 p6 w cl mo h0 n0) (s₁.setTop (entryFrame m #[(.int p1), (.int p2), (.int p3), (.int p4), (.int p5), (.int p6)] maxLocals))
  rw [hef]
  refine Go.of (fun t k => XS.iloadN X0.here hx rfl (hb hby at_0) rfl k) ?_
  show Go _ _ _ _ _ _ _ (s₁.setTop (mkF m 1 #[.val (.int p1), .val (.int p2), .val (.int p3), .val (.int p4), .val (.int p5), .val (.int p6), .unset, .unset, .unset, .unset, .unset, .unset, .unset, .unset, .unset] [(.int p1)]))
  refine Go.of (fun t k => X0.ldcInt hx hown (mvT hZ (hw _ (List.mem_of_getElem? (i := 0) rfl))) (g := (mkF m 1 #[.val (.int p1), .val (.int p2), .val (.int p3), .val (.int p4), .val (.int p5), .val (.int p6), .unset, .unset, .unset, .unset, .unset, .unset, .unset, .unset, .unset] [(.int p1)])) rfl (hb hby at_1) _ k) ?_
  show Go _ _ _ _ _ _ _ (s₁.setTop (mkF m 3 #[.val (.int p1), .val (.int p2), .val (.int p3), .val (.int p4), .val (.int p5), .val (.int p6), .unset, .unset, .unset, .unset, .unset, .unset, .unset, .unset, .unset] [(.int (2147483647 : Int32)), (.int p1)]))
  refine Go.of (fun t k => XS.iand X0.here hx rfl (hb hby at_3) rfl k) ?_
  show Go _ _ _ _ _ _ _ (s₁.setTop (mkF m 4 #[.val (.int p1), .val (.int p2), .val (.int p3), .val (.int p4), .val (.int p5), .val (.int p6), .unset, .unset, .unset, .unset, .unset, .unset, .unset, .unset, .unset] [(.int (p1 &&& (2147483647 : Int32)))]))
  refine Go.of (fun t k => XS.sipush X0.here hx rfl (hb hby at_4) k) ?_
  show Go _ _ _ _ _ _ _ (s₁.setTop (mkF m 7 #[.val (.int p1), .val (.int p2), .val (.int p3), .val (.int p4), .val (.int p5), .val (.int p6), .unset, .unset, .unset, .unset, .unset, .unset, .unset, .unset, .unset] [(.int (10000 : Int32)), (.int (p1 &&& (2147483647 : Int32)))]))
  refine Go.of (fun t k => iremM X0 hx rfl (hb hby at_7) rfl (by decide) k) ?_
  show Go _ _ _ _ _ _ _ (s₁.setTop (mkF m 8 #[.val (.int p1), .val (.int p2), .val (.int p3), .val (.int p4), .val (.int p5), .val (.int p6), .unset, .unset, .unset, .unset, .unset, .unset, .unset, .unset, .unset] [(.int ((p1 &&& (2147483647 : Int32)) % (10000 : Int32)))]))
  refine Go.of (fun t k => XS.istore X0.here hx rfl (hb hby at_8) rfl (l' := #[.val (.int p1), .val (.int p2), .val (.int p3), .val (.int p4), .val (.int p5), .val (.int p6), .val (.int ((p1 &&& (2147483647 : Int32)) % (10000 : Int32))), .unset, .unset, .unset, .unset, .unset, .unset, .unset, .unset]) rfl k) ?_
  show Go _ _ _ _ _ _ _ (s₁.setTop (mkF m 10 #[.val (.int p1), .val (.int p2), .val (.int p3), .val (.int p4), .val (.int p5), .val (.int p6), .val (.int ((p1 &&& (2147483647 : Int32)) % (10000 : Int32))), .unset, .unset, .unset, .unset, .unset, .unset, .unset, .unset] []))
  refine Go.of (fun t k => XS.iloadN X0.here hx rfl (hb hby at_10) rfl k) ?_
  show Go _ _ _ _ _ _ _ (s₁.setTop (mkF m 11 #[.val (.int p1), .val (.int p2), .val (.int p3), .val (.int p4), .val (.int p5), .val (.int p6), .val (.int ((p1 &&& (2147483647 : Int32)) % (10000 : Int32))), .unset, .unset, .unset, .unset, .unset, .unset, .unset, .unset] [(.int p2)]))
  refine Go.of (fun t k => X0.ldcInt hx hown (mvT hZ (hw _ (List.mem_of_getElem? (i := 0) rfl))) (g := (mkF m 11 #[.val (.int p1), .val (.int p2), .val (.int p3), .val (.int p4), .val (.int p5), .val (.int p6), .val (.int ((p1 &&& (2147483647 : Int32)) % (10000 : Int32))), .unset, .unset, .unset, .unset, .unset, .unset, .unset, .unset] [(.int p2)])) rfl (hb hby at_11) _ k) ?_
  show Go _ _ _ _ _ _ _ (s₁.setTop (mkF m 13 #[.val (.int p1), .val (.int p2), .val (.int p3), .val (.int p4), .val (.int p5), .val (.int p6), .val (.int ((p1 &&& (2147483647 : Int32)) % (10000 : Int32))), .unset, .unset, .unset, .unset, .unset, .unset, .unset, .unset] [(.int (2147483647 : Int32)), (.int p2)]))
  refine Go.of (fun t k => XS.iand X0.here hx rfl (hb hby at_13) rfl k) ?_
  show Go _ _ _ _ _ _ _ (s₁.setTop (mkF m 14 #[.val (.int p1), .val (.int p2), .val (.int p3), .val (.int p4), .val (.int p5), .val (.int p6), .val (.int ((p1 &&& (2147483647 : Int32)) % (10000 : Int32))), .unset, .unset, .unset, .unset, .unset, .unset, .unset, .unset] [(.int (p2 &&& (2147483647 : Int32)))]))
  refine Go.of (fun t k => XS.bipush X0.here hx rfl (hb hby at_14) k) ?_
  show Go _ _ _ _ _ _ _ (s₁.setTop (mkF m 16 #[.val (.int p1), .val (.int p2), .val (.int p3), .val (.int p4), .val (.int p5), .val (.int p6), .val (.int ((p1 &&& (2147483647 : Int32)) % (10000 : Int32))), .unset, .unset, .unset, .unset, .unset, .unset, .unset, .unset] [(.int (13 : Int32)), (.int (p2 &&& (2147483647 : Int32)))]))
  refine Go.of (fun t k => iremM X0 hx rfl (hb hby at_16) rfl (by decide) k) ?_
  show Go _ _ _ _ _ _ _ (s₁.setTop (mkF m 17 #[.val (.int p1), .val (.int p2), .val (.int p3), .val (.int p4), .val (.int p5), .val (.int p6), .val (.int ((p1 &&& (2147483647 : Int32)) % (10000 : Int32))), .unset, .unset, .unset, .unset, .unset, .unset, .unset, .unset] [(.int ((p2 &&& (2147483647 : Int32)) % (13 : Int32)))]))
  refine Go.of (fun t k => XS.istore X0.here hx rfl (hb hby at_17) rfl (l' := #[.val (.int p1), .val (.int p2), .val (.int p3), .val (.int p4), .val (.int p5), .val (.int p6), .val (.int ((p1 &&& (2147483647 : Int32)) % (10000 : Int32))), .val (.int ((p2 &&& (2147483647 : Int32)) % (13 : Int32))), .unset, .unset, .unset, .unset, .unset, .unset, .unset]) rfl k) ?_
  show Go _ _ _ _ _ _ _ (s₁.setTop (mkF m 19 #[.val (.int p1), .val (.int p2), .val (.int p3), .val (.int p4), .val (.int p5), .val (.int p6), .val (.int ((p1 &&& (2147483647 : Int32)) % (10000 : Int32))), .val (.int ((p2 &&& (2147483647 : Int32)) % (13 : Int32))), .unset, .unset, .unset, .unset, .unset, .unset, .unset] []))
  refine Go.of (fun t k => XS.iloadN X0.here hx rfl (hb hby at_19) rfl k) ?_
  show Go _ _ _ _ _ _ _ (s₁.setTop (mkF m 20 #[.val (.int p1), .val (.int p2), .val (.int p3), .val (.int p4), .val (.int p5), .val (.int p6), .val (.int ((p1 &&& (2147483647 : Int32)) % (10000 : Int32))), .val (.int ((p2 &&& (2147483647 : Int32)) % (13 : Int32))), .unset, .unset, .unset, .unset, .unset, .unset, .unset] [(.int p3)]))
  refine Go.of (fun t k => X0.ldcInt hx hown (mvT hZ (hw _ (List.mem_of_getElem? (i := 0) rfl))) (g := (mkF m 20 #[.val (.int p1), .val (.int p2), .val (.int p3), .val (.int p4), .val (.int p5), .val (.int p6), .val (.int ((p1 &&& (2147483647 : Int32)) % (10000 : Int32))), .val (.int ((p2 &&& (2147483647 : Int32)) % (13 : Int32))), .unset, .unset, .unset, .unset, .unset, .unset, .unset] [(.int p3)])) rfl (hb hby at_20) _ k) ?_
  show Go _ _ _ _ _ _ _ (s₁.setTop (mkF m 22 #[.val (.int p1), .val (.int p2), .val (.int p3), .val (.int p4), .val (.int p5), .val (.int p6), .val (.int ((p1 &&& (2147483647 : Int32)) % (10000 : Int32))), .val (.int ((p2 &&& (2147483647 : Int32)) % (13 : Int32))), .unset, .unset, .unset, .unset, .unset, .unset, .unset] [(.int (2147483647 : Int32)), (.int p3)]))
  refine Go.of (fun t k => XS.iand X0.here hx rfl (hb hby at_22) rfl k) ?_
  show Go _ _ _ _ _ _ _ (s₁.setTop (mkF m 23 #[.val (.int p1), .val (.int p2), .val (.int p3), .val (.int p4), .val (.int p5), .val (.int p6), .val (.int ((p1 &&& (2147483647 : Int32)) % (10000 : Int32))), .val (.int ((p2 &&& (2147483647 : Int32)) % (13 : Int32))), .unset, .unset, .unset, .unset, .unset, .unset, .unset] [(.int (p3 &&& (2147483647 : Int32)))]))
  refine Go.of (fun t k => XS.iload X0.here hx rfl (hb hby at_23) rfl k) ?_
  show Go _ _ _ _ _ _ _ (s₁.setTop (mkF m 25 #[.val (.int p1), .val (.int p2), .val (.int p3), .val (.int p4), .val (.int p5), .val (.int p6), .val (.int ((p1 &&& (2147483647 : Int32)) % (10000 : Int32))), .val (.int ((p2 &&& (2147483647 : Int32)) % (13 : Int32))), .unset, .unset, .unset, .unset, .unset, .unset, .unset] [(.int ((p1 &&& (2147483647 : Int32)) % (10000 : Int32))), (.int (p3 &&& (2147483647 : Int32)))]))
  refine Go.of (fun t k => XS.iload X0.here hx rfl (hb hby at_25) rfl k) ?_
  show Go _ _ _ _ _ _ _ (s₁.setTop (mkF m 27 #[.val (.int p1), .val (.int p2), .val (.int p3), .val (.int p4), .val (.int p5), .val (.int p6), .val (.int ((p1 &&& (2147483647 : Int32)) % (10000 : Int32))), .val (.int ((p2 &&& (2147483647 : Int32)) % (13 : Int32))), .unset, .unset, .unset, .unset, .unset, .unset, .unset] [(.int ((p2 &&& (2147483647 : Int32)) % (13 : Int32))), (.int ((p1 &&& (2147483647 : Int32)) % (10000 : Int32))), (.int (p3 &&& (2147483647 : Int32)))]))
  obtain ⟨_, _, ⟨T1, L1, k1, n1⟩, -, X1, ⟨Lc1, hQ1, l1, y1, z1⟩, st1⟩ := Jvm.LawKit.callS X0 hx (y := (⟨"com/example/live_alter/livealter/schema/DatetimeDigitsPinLaw", "monthLength", "(II)I"⟩ : MethodName)) hown (mvT hZ (hw _ (List.mem_of_getElem? (i := 1) rfl))) (mvT hZ (hw _ (List.mem_of_getElem? (i := 2) rfl))) (mvT hZ (hw _ (List.mem_of_getElem? (i := 3) rfl))) (mvT hZ (hw _ (List.mem_of_getElem? (i := 4) rfl))) (by decide) (backOf (W := 1) (rm1 l Z a0 hw [] ((p1 &&& (2147483647 : Int32)) % (10000 : Int32)) ((p2 &&& (2147483647 : Int32)) % (13 : Int32)) h0 n0 Z0 ) hZ (hw _ (List.mem_of_getElem? (i := 4) rfl)) (hw _ (List.mem_of_getElem? (i := 3) rfl)) (by decide) (by decide)) (g := (mkF m 27 #[.val (.int p1), .val (.int p2), .val (.int p3), .val (.int p4), .val (.int p5), .val (.int p6), .val (.int ((p1 &&& (2147483647 : Int32)) % (10000 : Int32))), .val (.int ((p2 &&& (2147483647 : Int32)) % (13 : Int32))), .unset, .unset, .unset, .unset, .unset, .unset, .unset] [(.int ((p2 &&& (2147483647 : Int32)) % (13 : Int32))), (.int ((p1 &&& (2147483647 : Int32)) % (10000 : Int32))), (.int (p3 &&& (2147483647 : Int32)))])) rfl (by rw [hml]; rfl) (argsL := [(.int ((p1 &&& (2147483647 : Int32)) % (10000 : Int32))), (.int ((p2 &&& (2147483647 : Int32)) % (13 : Int32)))]) (rest := [(.int (p3 &&& (2147483647 : Int32)))]) (lenOf pd_7 rfl) rfl (by show 2 * 0 + _ ≤ _; exact Nat.le_of_eq rfl) (hb hby at_27) (fun _ _ => ⟨rfl, e0, (by decide : 0 + 0 ≤ _), (by decide : 0 + 0 ≤ _)⟩)
  dsimp only [Pt.U, Pt.locs, Pt.cells, Pt.slots] at X1 l1 y1 z1 st1 hQ1
  subst l1 y1 z1
  obtain ⟨rfl, N1q, e1⟩ := hQ1
  have N1 := Fr.app N0 N1q
  refine Go.of st1 ?_
  show Go _ _ _ _ _ _ _ (T1.setTop (mkF m 30 #[.val (.int p1), .val (.int p2), .val (.int p3), .val (.int p4), .val (.int p5), .val (.int p6), .val (.int ((p1 &&& (2147483647 : Int32)) % (10000 : Int32))), .val (.int ((p2 &&& (2147483647 : Int32)) % (13 : Int32))), .unset, .unset, .unset, .unset, .unset, .unset, .unset] [(.int (own_ml ((p1 &&& (2147483647 : Int32)) % (10000 : Int32)) ((p2 &&& (2147483647 : Int32)) % (13 : Int32)))), (.int (p3 &&& (2147483647 : Int32)))]))
  refine Go.of (fun t k => XS.iconst X1.here hx rfl (hb hby at_30) k) ?_
  show Go _ _ _ _ _ _ _ (T1.setTop (mkF m 31 #[.val (.int p1), .val (.int p2), .val (.int p3), .val (.int p4), .val (.int p5), .val (.int p6), .val (.int ((p1 &&& (2147483647 : Int32)) % (10000 : Int32))), .val (.int ((p2 &&& (2147483647 : Int32)) % (13 : Int32))), .unset, .unset, .unset, .unset, .unset, .unset, .unset] [(.int (1 : Int32)), (.int (own_ml ((p1 &&& (2147483647 : Int32)) % (10000 : Int32)) ((p2 &&& (2147483647 : Int32)) % (13 : Int32)))), (.int (p3 &&& (2147483647 : Int32)))]))
  refine Go.of (fun t k => XS.iadd X1.here hx rfl (hb hby at_31) rfl k) ?_
  show Go _ _ _ _ _ _ _ (T1.setTop (mkF m 32 #[.val (.int p1), .val (.int p2), .val (.int p3), .val (.int p4), .val (.int p5), .val (.int p6), .val (.int ((p1 &&& (2147483647 : Int32)) % (10000 : Int32))), .val (.int ((p2 &&& (2147483647 : Int32)) % (13 : Int32))), .unset, .unset, .unset, .unset, .unset, .unset, .unset] [(.int ((own_ml ((p1 &&& (2147483647 : Int32)) % (10000 : Int32)) ((p2 &&& (2147483647 : Int32)) % (13 : Int32))) + (1 : Int32))), (.int (p3 &&& (2147483647 : Int32)))]))
  refine Go.of (fun t k => iremM X1 hx rfl (hb hby at_32) rfl (fun q => by have q1 := own_eq1 (k := 0) (by decide) q; have q2 := own_ml_rng ((p1 &&& (2147483647 : Int32)) % (10000 : Int32)) ((p2 &&& (2147483647 : Int32)) % (13 : Int32)); omega) k) ?_
  show Go _ _ _ _ _ _ _ (T1.setTop (mkF m 33 #[.val (.int p1), .val (.int p2), .val (.int p3), .val (.int p4), .val (.int p5), .val (.int p6), .val (.int ((p1 &&& (2147483647 : Int32)) % (10000 : Int32))), .val (.int ((p2 &&& (2147483647 : Int32)) % (13 : Int32))), .unset, .unset, .unset, .unset, .unset, .unset, .unset] [(.int ((p3 &&& (2147483647 : Int32)) % ((own_ml ((p1 &&& (2147483647 : Int32)) % (10000 : Int32)) ((p2 &&& (2147483647 : Int32)) % (13 : Int32))) + (1 : Int32))))]))
  refine Go.of (fun t k => XS.istore X1.here hx rfl (hb hby at_33) rfl (l' := #[.val (.int p1), .val (.int p2), .val (.int p3), .val (.int p4), .val (.int p5), .val (.int p6), .val (.int ((p1 &&& (2147483647 : Int32)) % (10000 : Int32))), .val (.int ((p2 &&& (2147483647 : Int32)) % (13 : Int32))), .val (.int ((p3 &&& (2147483647 : Int32)) % ((own_ml ((p1 &&& (2147483647 : Int32)) % (10000 : Int32)) ((p2 &&& (2147483647 : Int32)) % (13 : Int32))) + (1 : Int32)))), .unset, .unset, .unset, .unset, .unset, .unset]) rfl k) ?_
  show Go _ _ _ _ _ _ _ (T1.setTop (mkF m 35 #[.val (.int p1), .val (.int p2), .val (.int p3), .val (.int p4), .val (.int p5), .val (.int p6), .val (.int ((p1 &&& (2147483647 : Int32)) % (10000 : Int32))), .val (.int ((p2 &&& (2147483647 : Int32)) % (13 : Int32))), .val (.int ((p3 &&& (2147483647 : Int32)) % ((own_ml ((p1 &&& (2147483647 : Int32)) % (10000 : Int32)) ((p2 &&& (2147483647 : Int32)) % (13 : Int32))) + (1 : Int32)))), .unset, .unset, .unset, .unset, .unset, .unset] []))
  refine Go.of (fun t k => XS.iloadN X1.here hx rfl (hb hby at_35) rfl k) ?_
  show Go _ _ _ _ _ _ _ (T1.setTop (mkF m 36 #[.val (.int p1), .val (.int p2), .val (.int p3), .val (.int p4), .val (.int p5), .val (.int p6), .val (.int ((p1 &&& (2147483647 : Int32)) % (10000 : Int32))), .val (.int ((p2 &&& (2147483647 : Int32)) % (13 : Int32))), .val (.int ((p3 &&& (2147483647 : Int32)) % ((own_ml ((p1 &&& (2147483647 : Int32)) % (10000 : Int32)) ((p2 &&& (2147483647 : Int32)) % (13 : Int32))) + (1 : Int32)))), .unset, .unset, .unset, .unset, .unset, .unset] [(.int p4)]))
  refine Go.of (fun t k => X1.ldcInt hx hown (mvT hZ (hw _ (List.mem_of_getElem? (i := 0) rfl))) (g := (mkF m 36 #[.val (.int p1), .val (.int p2), .val (.int p3), .val (.int p4), .val (.int p5), .val (.int p6), .val (.int ((p1 &&& (2147483647 : Int32)) % (10000 : Int32))), .val (.int ((p2 &&& (2147483647 : Int32)) % (13 : Int32))), .val (.int ((p3 &&& (2147483647 : Int32)) % ((own_ml ((p1 &&& (2147483647 : Int32)) % (10000 : Int32)) ((p2 &&& (2147483647 : Int32)) % (13 : Int32))) + (1 : Int32)))), .unset, .unset, .unset, .unset, .unset, .unset] [(.int p4)])) rfl (hb hby at_36) _ k) ?_
  show Go _ _ _ _ _ _ _ (T1.setTop (mkF m 38 #[.val (.int p1), .val (.int p2), .val (.int p3), .val (.int p4), .val (.int p5), .val (.int p6), .val (.int ((p1 &&& (2147483647 : Int32)) % (10000 : Int32))), .val (.int ((p2 &&& (2147483647 : Int32)) % (13 : Int32))), .val (.int ((p3 &&& (2147483647 : Int32)) % ((own_ml ((p1 &&& (2147483647 : Int32)) % (10000 : Int32)) ((p2 &&& (2147483647 : Int32)) % (13 : Int32))) + (1 : Int32)))), .unset, .unset, .unset, .unset, .unset, .unset] [(.int (2147483647 : Int32)), (.int p4)]))
  refine Go.of (fun t k => XS.iand X1.here hx rfl (hb hby at_38) rfl k) ?_
  show Go _ _ _ _ _ _ _ (T1.setTop (mkF m 39 #[.val (.int p1), .val (.int p2), .val (.int p3), .val (.int p4), .val (.int p5), .val (.int p6), .val (.int ((p1 &&& (2147483647 : Int32)) % (10000 : Int32))), .val (.int ((p2 &&& (2147483647 : Int32)) % (13 : Int32))), .val (.int ((p3 &&& (2147483647 : Int32)) % ((own_ml ((p1 &&& (2147483647 : Int32)) % (10000 : Int32)) ((p2 &&& (2147483647 : Int32)) % (13 : Int32))) + (1 : Int32)))), .unset, .unset, .unset, .unset, .unset, .unset] [(.int (p4 &&& (2147483647 : Int32)))]))
  refine Go.of (fun t k => XS.bipush X1.here hx rfl (hb hby at_39) k) ?_
  show Go _ _ _ _ _ _ _ (T1.setTop (mkF m 41 #[.val (.int p1), .val (.int p2), .val (.int p3), .val (.int p4), .val (.int p5), .val (.int p6), .val (.int ((p1 &&& (2147483647 : Int32)) % (10000 : Int32))), .val (.int ((p2 &&& (2147483647 : Int32)) % (13 : Int32))), .val (.int ((p3 &&& (2147483647 : Int32)) % ((own_ml ((p1 &&& (2147483647 : Int32)) % (10000 : Int32)) ((p2 &&& (2147483647 : Int32)) % (13 : Int32))) + (1 : Int32)))), .unset, .unset, .unset, .unset, .unset, .unset] [(.int (24 : Int32)), (.int (p4 &&& (2147483647 : Int32)))]))
  refine Go.of (fun t k => iremM X1 hx rfl (hb hby at_41) rfl (by decide) k) ?_
  show Go _ _ _ _ _ _ _ (T1.setTop (mkF m 42 #[.val (.int p1), .val (.int p2), .val (.int p3), .val (.int p4), .val (.int p5), .val (.int p6), .val (.int ((p1 &&& (2147483647 : Int32)) % (10000 : Int32))), .val (.int ((p2 &&& (2147483647 : Int32)) % (13 : Int32))), .val (.int ((p3 &&& (2147483647 : Int32)) % ((own_ml ((p1 &&& (2147483647 : Int32)) % (10000 : Int32)) ((p2 &&& (2147483647 : Int32)) % (13 : Int32))) + (1 : Int32)))), .unset, .unset, .unset, .unset, .unset, .unset] [(.int ((p4 &&& (2147483647 : Int32)) % (24 : Int32)))]))
  refine Go.of (fun t k => XS.istore X1.here hx rfl (hb hby at_42) rfl (l' := #[.val (.int p1), .val (.int p2), .val (.int p3), .val (.int p4), .val (.int p5), .val (.int p6), .val (.int ((p1 &&& (2147483647 : Int32)) % (10000 : Int32))), .val (.int ((p2 &&& (2147483647 : Int32)) % (13 : Int32))), .val (.int ((p3 &&& (2147483647 : Int32)) % ((own_ml ((p1 &&& (2147483647 : Int32)) % (10000 : Int32)) ((p2 &&& (2147483647 : Int32)) % (13 : Int32))) + (1 : Int32)))), .val (.int ((p4 &&& (2147483647 : Int32)) % (24 : Int32))), .unset, .unset, .unset, .unset, .unset]) rfl k) ?_
  show Go _ _ _ _ _ _ _ (T1.setTop (mkF m 44 #[.val (.int p1), .val (.int p2), .val (.int p3), .val (.int p4), .val (.int p5), .val (.int p6), .val (.int ((p1 &&& (2147483647 : Int32)) % (10000 : Int32))), .val (.int ((p2 &&& (2147483647 : Int32)) % (13 : Int32))), .val (.int ((p3 &&& (2147483647 : Int32)) % ((own_ml ((p1 &&& (2147483647 : Int32)) % (10000 : Int32)) ((p2 &&& (2147483647 : Int32)) % (13 : Int32))) + (1 : Int32)))), .val (.int ((p4 &&& (2147483647 : Int32)) % (24 : Int32))), .unset, .unset, .unset, .unset, .unset] []))
  refine Go.of (fun t k => XS.iload X1.here hx rfl (hb hby at_44) rfl k) ?_
  show Go _ _ _ _ _ _ _ (T1.setTop (mkF m 46 #[.val (.int p1), .val (.int p2), .val (.int p3), .val (.int p4), .val (.int p5), .val (.int p6), .val (.int ((p1 &&& (2147483647 : Int32)) % (10000 : Int32))), .val (.int ((p2 &&& (2147483647 : Int32)) % (13 : Int32))), .val (.int ((p3 &&& (2147483647 : Int32)) % ((own_ml ((p1 &&& (2147483647 : Int32)) % (10000 : Int32)) ((p2 &&& (2147483647 : Int32)) % (13 : Int32))) + (1 : Int32)))), .val (.int ((p4 &&& (2147483647 : Int32)) % (24 : Int32))), .unset, .unset, .unset, .unset, .unset] [(.int p5)]))
  refine Go.of (fun t k => X1.ldcInt hx hown (mvT hZ (hw _ (List.mem_of_getElem? (i := 0) rfl))) (g := (mkF m 46 #[.val (.int p1), .val (.int p2), .val (.int p3), .val (.int p4), .val (.int p5), .val (.int p6), .val (.int ((p1 &&& (2147483647 : Int32)) % (10000 : Int32))), .val (.int ((p2 &&& (2147483647 : Int32)) % (13 : Int32))), .val (.int ((p3 &&& (2147483647 : Int32)) % ((own_ml ((p1 &&& (2147483647 : Int32)) % (10000 : Int32)) ((p2 &&& (2147483647 : Int32)) % (13 : Int32))) + (1 : Int32)))), .val (.int ((p4 &&& (2147483647 : Int32)) % (24 : Int32))), .unset, .unset, .unset, .unset, .unset] [(.int p5)])) rfl (hb hby at_46) _ k) ?_
  show Go _ _ _ _ _ _ _ (T1.setTop (mkF m 48 #[.val (.int p1), .val (.int p2), .val (.int p3), .val (.int p4), .val (.int p5), .val (.int p6), .val (.int ((p1 &&& (2147483647 : Int32)) % (10000 : Int32))), .val (.int ((p2 &&& (2147483647 : Int32)) % (13 : Int32))), .val (.int ((p3 &&& (2147483647 : Int32)) % ((own_ml ((p1 &&& (2147483647 : Int32)) % (10000 : Int32)) ((p2 &&& (2147483647 : Int32)) % (13 : Int32))) + (1 : Int32)))), .val (.int ((p4 &&& (2147483647 : Int32)) % (24 : Int32))), .unset, .unset, .unset, .unset, .unset] [(.int (2147483647 : Int32)), (.int p5)]))
  refine Go.of (fun t k => XS.iand X1.here hx rfl (hb hby at_48) rfl k) ?_
  show Go _ _ _ _ _ _ _ (T1.setTop (mkF m 49 #[.val (.int p1), .val (.int p2), .val (.int p3), .val (.int p4), .val (.int p5), .val (.int p6), .val (.int ((p1 &&& (2147483647 : Int32)) % (10000 : Int32))), .val (.int ((p2 &&& (2147483647 : Int32)) % (13 : Int32))), .val (.int ((p3 &&& (2147483647 : Int32)) % ((own_ml ((p1 &&& (2147483647 : Int32)) % (10000 : Int32)) ((p2 &&& (2147483647 : Int32)) % (13 : Int32))) + (1 : Int32)))), .val (.int ((p4 &&& (2147483647 : Int32)) % (24 : Int32))), .unset, .unset, .unset, .unset, .unset] [(.int (p5 &&& (2147483647 : Int32)))]))
  refine Go.of (fun t k => XS.bipush X1.here hx rfl (hb hby at_49) k) ?_
  show Go _ _ _ _ _ _ _ (T1.setTop (mkF m 51 #[.val (.int p1), .val (.int p2), .val (.int p3), .val (.int p4), .val (.int p5), .val (.int p6), .val (.int ((p1 &&& (2147483647 : Int32)) % (10000 : Int32))), .val (.int ((p2 &&& (2147483647 : Int32)) % (13 : Int32))), .val (.int ((p3 &&& (2147483647 : Int32)) % ((own_ml ((p1 &&& (2147483647 : Int32)) % (10000 : Int32)) ((p2 &&& (2147483647 : Int32)) % (13 : Int32))) + (1 : Int32)))), .val (.int ((p4 &&& (2147483647 : Int32)) % (24 : Int32))), .unset, .unset, .unset, .unset, .unset] [(.int (60 : Int32)), (.int (p5 &&& (2147483647 : Int32)))]))
  refine Go.of (fun t k => iremM X1 hx rfl (hb hby at_51) rfl (by decide) k) ?_
  show Go _ _ _ _ _ _ _ (T1.setTop (mkF m 52 #[.val (.int p1), .val (.int p2), .val (.int p3), .val (.int p4), .val (.int p5), .val (.int p6), .val (.int ((p1 &&& (2147483647 : Int32)) % (10000 : Int32))), .val (.int ((p2 &&& (2147483647 : Int32)) % (13 : Int32))), .val (.int ((p3 &&& (2147483647 : Int32)) % ((own_ml ((p1 &&& (2147483647 : Int32)) % (10000 : Int32)) ((p2 &&& (2147483647 : Int32)) % (13 : Int32))) + (1 : Int32)))), .val (.int ((p4 &&& (2147483647 : Int32)) % (24 : Int32))), .unset, .unset, .unset, .unset, .unset] [(.int ((p5 &&& (2147483647 : Int32)) % (60 : Int32)))]))
  refine Go.of (fun t k => XS.istore X1.here hx rfl (hb hby at_52) rfl (l' := #[.val (.int p1), .val (.int p2), .val (.int p3), .val (.int p4), .val (.int p5), .val (.int p6), .val (.int ((p1 &&& (2147483647 : Int32)) % (10000 : Int32))), .val (.int ((p2 &&& (2147483647 : Int32)) % (13 : Int32))), .val (.int ((p3 &&& (2147483647 : Int32)) % ((own_ml ((p1 &&& (2147483647 : Int32)) % (10000 : Int32)) ((p2 &&& (2147483647 : Int32)) % (13 : Int32))) + (1 : Int32)))), .val (.int ((p4 &&& (2147483647 : Int32)) % (24 : Int32))), .val (.int ((p5 &&& (2147483647 : Int32)) % (60 : Int32))), .unset, .unset, .unset, .unset]) rfl k) ?_
  show Go _ _ _ _ _ _ _ (T1.setTop (mkF m 54 #[.val (.int p1), .val (.int p2), .val (.int p3), .val (.int p4), .val (.int p5), .val (.int p6), .val (.int ((p1 &&& (2147483647 : Int32)) % (10000 : Int32))), .val (.int ((p2 &&& (2147483647 : Int32)) % (13 : Int32))), .val (.int ((p3 &&& (2147483647 : Int32)) % ((own_ml ((p1 &&& (2147483647 : Int32)) % (10000 : Int32)) ((p2 &&& (2147483647 : Int32)) % (13 : Int32))) + (1 : Int32)))), .val (.int ((p4 &&& (2147483647 : Int32)) % (24 : Int32))), .val (.int ((p5 &&& (2147483647 : Int32)) % (60 : Int32))), .unset, .unset, .unset, .unset] []))
  refine Go.of (fun t k => XS.iload X1.here hx rfl (hb hby at_54) rfl k) ?_
  show Go _ _ _ _ _ _ _ (T1.setTop (mkF m 56 #[.val (.int p1), .val (.int p2), .val (.int p3), .val (.int p4), .val (.int p5), .val (.int p6), .val (.int ((p1 &&& (2147483647 : Int32)) % (10000 : Int32))), .val (.int ((p2 &&& (2147483647 : Int32)) % (13 : Int32))), .val (.int ((p3 &&& (2147483647 : Int32)) % ((own_ml ((p1 &&& (2147483647 : Int32)) % (10000 : Int32)) ((p2 &&& (2147483647 : Int32)) % (13 : Int32))) + (1 : Int32)))), .val (.int ((p4 &&& (2147483647 : Int32)) % (24 : Int32))), .val (.int ((p5 &&& (2147483647 : Int32)) % (60 : Int32))), .unset, .unset, .unset, .unset] [(.int p6)]))
  refine Go.of (fun t k => X1.ldcInt hx hown (mvT hZ (hw _ (List.mem_of_getElem? (i := 0) rfl))) (g := (mkF m 56 #[.val (.int p1), .val (.int p2), .val (.int p3), .val (.int p4), .val (.int p5), .val (.int p6), .val (.int ((p1 &&& (2147483647 : Int32)) % (10000 : Int32))), .val (.int ((p2 &&& (2147483647 : Int32)) % (13 : Int32))), .val (.int ((p3 &&& (2147483647 : Int32)) % ((own_ml ((p1 &&& (2147483647 : Int32)) % (10000 : Int32)) ((p2 &&& (2147483647 : Int32)) % (13 : Int32))) + (1 : Int32)))), .val (.int ((p4 &&& (2147483647 : Int32)) % (24 : Int32))), .val (.int ((p5 &&& (2147483647 : Int32)) % (60 : Int32))), .unset, .unset, .unset, .unset] [(.int p6)])) rfl (hb hby at_56) _ k) ?_
  show Go _ _ _ _ _ _ _ (T1.setTop (mkF m 58 #[.val (.int p1), .val (.int p2), .val (.int p3), .val (.int p4), .val (.int p5), .val (.int p6), .val (.int ((p1 &&& (2147483647 : Int32)) % (10000 : Int32))), .val (.int ((p2 &&& (2147483647 : Int32)) % (13 : Int32))), .val (.int ((p3 &&& (2147483647 : Int32)) % ((own_ml ((p1 &&& (2147483647 : Int32)) % (10000 : Int32)) ((p2 &&& (2147483647 : Int32)) % (13 : Int32))) + (1 : Int32)))), .val (.int ((p4 &&& (2147483647 : Int32)) % (24 : Int32))), .val (.int ((p5 &&& (2147483647 : Int32)) % (60 : Int32))), .unset, .unset, .unset, .unset] [(.int (2147483647 : Int32)), (.int p6)]))
  refine Go.of (fun t k => XS.iand X1.here hx rfl (hb hby at_58) rfl k) ?_
  show Go _ _ _ _ _ _ _ (T1.setTop (mkF m 59 #[.val (.int p1), .val (.int p2), .val (.int p3), .val (.int p4), .val (.int p5), .val (.int p6), .val (.int ((p1 &&& (2147483647 : Int32)) % (10000 : Int32))), .val (.int ((p2 &&& (2147483647 : Int32)) % (13 : Int32))), .val (.int ((p3 &&& (2147483647 : Int32)) % ((own_ml ((p1 &&& (2147483647 : Int32)) % (10000 : Int32)) ((p2 &&& (2147483647 : Int32)) % (13 : Int32))) + (1 : Int32)))), .val (.int ((p4 &&& (2147483647 : Int32)) % (24 : Int32))), .val (.int ((p5 &&& (2147483647 : Int32)) % (60 : Int32))), .unset, .unset, .unset, .unset] [(.int (p6 &&& (2147483647 : Int32)))]))
  refine Go.of (fun t k => XS.bipush X1.here hx rfl (hb hby at_59) k) ?_
  show Go _ _ _ _ _ _ _ (T1.setTop (mkF m 61 #[.val (.int p1), .val (.int p2), .val (.int p3), .val (.int p4), .val (.int p5), .val (.int p6), .val (.int ((p1 &&& (2147483647 : Int32)) % (10000 : Int32))), .val (.int ((p2 &&& (2147483647 : Int32)) % (13 : Int32))), .val (.int ((p3 &&& (2147483647 : Int32)) % ((own_ml ((p1 &&& (2147483647 : Int32)) % (10000 : Int32)) ((p2 &&& (2147483647 : Int32)) % (13 : Int32))) + (1 : Int32)))), .val (.int ((p4 &&& (2147483647 : Int32)) % (24 : Int32))), .val (.int ((p5 &&& (2147483647 : Int32)) % (60 : Int32))), .unset, .unset, .unset, .unset] [(.int (60 : Int32)), (.int (p6 &&& (2147483647 : Int32)))]))
  refine Go.of (fun t k => iremM X1 hx rfl (hb hby at_61) rfl (by decide) k) ?_
  show Go _ _ _ _ _ _ _ (T1.setTop (mkF m 62 #[.val (.int p1), .val (.int p2), .val (.int p3), .val (.int p4), .val (.int p5), .val (.int p6), .val (.int ((p1 &&& (2147483647 : Int32)) % (10000 : Int32))), .val (.int ((p2 &&& (2147483647 : Int32)) % (13 : Int32))), .val (.int ((p3 &&& (2147483647 : Int32)) % ((own_ml ((p1 &&& (2147483647 : Int32)) % (10000 : Int32)) ((p2 &&& (2147483647 : Int32)) % (13 : Int32))) + (1 : Int32)))), .val (.int ((p4 &&& (2147483647 : Int32)) % (24 : Int32))), .val (.int ((p5 &&& (2147483647 : Int32)) % (60 : Int32))), .unset, .unset, .unset, .unset] [(.int ((p6 &&& (2147483647 : Int32)) % (60 : Int32)))]))
  refine Go.of (fun t k => XS.istore X1.here hx rfl (hb hby at_62) rfl (l' := #[.val (.int p1), .val (.int p2), .val (.int p3), .val (.int p4), .val (.int p5), .val (.int p6), .val (.int ((p1 &&& (2147483647 : Int32)) % (10000 : Int32))), .val (.int ((p2 &&& (2147483647 : Int32)) % (13 : Int32))), .val (.int ((p3 &&& (2147483647 : Int32)) % ((own_ml ((p1 &&& (2147483647 : Int32)) % (10000 : Int32)) ((p2 &&& (2147483647 : Int32)) % (13 : Int32))) + (1 : Int32)))), .val (.int ((p4 &&& (2147483647 : Int32)) % (24 : Int32))), .val (.int ((p5 &&& (2147483647 : Int32)) % (60 : Int32))), .val (.int ((p6 &&& (2147483647 : Int32)) % (60 : Int32))), .unset, .unset, .unset]) rfl k) ?_
  show Go _ _ _ _ _ _ _ (T1.setTop (mkF m 64 #[.val (.int p1), .val (.int p2), .val (.int p3), .val (.int p4), .val (.int p5), .val (.int p6), .val (.int ((p1 &&& (2147483647 : Int32)) % (10000 : Int32))), .val (.int ((p2 &&& (2147483647 : Int32)) % (13 : Int32))), .val (.int ((p3 &&& (2147483647 : Int32)) % ((own_ml ((p1 &&& (2147483647 : Int32)) % (10000 : Int32)) ((p2 &&& (2147483647 : Int32)) % (13 : Int32))) + (1 : Int32)))), .val (.int ((p4 &&& (2147483647 : Int32)) % (24 : Int32))), .val (.int ((p5 &&& (2147483647 : Int32)) % (60 : Int32))), .val (.int ((p6 &&& (2147483647 : Int32)) % (60 : Int32))), .unset, .unset, .unset] []))
  have r0 := own_rng (own_mask p1 (2147483647 : Int32) 31 (by decide) (by decide) (10000 : Int32) 10000 (by decide) (by decide)) (9999 : Int32) (by decide)
  have r1 := own_rng (own_mask p2 (2147483647 : Int32) 31 (by decide) (by decide) (13 : Int32) 13 (by decide) (by decide)) (12 : Int32) (by decide)
  have r3 := own_rng (own_mask p4 (2147483647 : Int32) 31 (by decide) (by decide) (24 : Int32) 24 (by decide) (by decide)) (23 : Int32) (by decide)
  have r4 := own_rng (own_mask p5 (2147483647 : Int32) 31 (by decide) (by decide) (60 : Int32) 60 (by decide) (by decide)) (59 : Int32) (by decide)
  have r5 := own_rng (own_mask p6 (2147483647 : Int32) 31 (by decide) (by decide) (60 : Int32) 60 (by decide) (by decide)) (59 : Int32) (by decide)
  have hmlr := own_ml_rng ((p1 &&& (2147483647 : Int32)) % (10000 : Int32)) ((p2 &&& (2147483647 : Int32)) % (13 : Int32))
  have rd := own_mask p3 (2147483647 : Int32) 31 (by decide) (by decide) (own_ml ((p1 &&& (2147483647 : Int32)) % (10000 : Int32)) ((p2 &&& (2147483647 : Int32)) % (13 : Int32)) + (1 : Int32)) _ hmlr.1 (by omega)
  have rd0 : ¬ ((p3 &&& (2147483647 : Int32)) % ((own_ml ((p1 &&& (2147483647 : Int32)) % (10000 : Int32)) ((p2 &&& (2147483647 : Int32)) % (13 : Int32))) + (1 : Int32))) < (0 : Int32) := fun q => absurd (own_lt1 (k := 0) (by decide) q) (by omega)
  have rd1 : ¬ own_ml ((p1 &&& (2147483647 : Int32)) % (10000 : Int32)) ((p2 &&& (2147483647 : Int32)) % (13 : Int32)) < ((p3 &&& (2147483647 : Int32)) % ((own_ml ((p1 &&& (2147483647 : Int32)) % (10000 : Int32)) ((p2 &&& (2147483647 : Int32)) % (13 : Int32))) + (1 : Int32))) := fun q => by rw [Int32.lt_iff_toInt_lt] at q; omega
  obtain ⟨T2, h2, X2, e2, E2, A2, D2, -, st2⟩ := newO X1 hx hZ hown (hw _ (List.mem_of_getElem? (i := 5) rfl)) (hw _ (List.mem_of_getElem? (i := 6) rfl)) (hw _ (List.mem_of_getElem? (i := 7) rfl)) e1 (g := (mkF m 64 #[.val (.int p1), .val (.int p2), .val (.int p3), .val (.int p4), .val (.int p5), .val (.int p6), .val (.int ((p1 &&& (2147483647 : Int32)) % (10000 : Int32))), .val (.int ((p2 &&& (2147483647 : Int32)) % (13 : Int32))), .val (.int ((p3 &&& (2147483647 : Int32)) % ((own_ml ((p1 &&& (2147483647 : Int32)) % (10000 : Int32)) ((p2 &&& (2147483647 : Int32)) % (13 : Int32))) + (1 : Int32)))), .val (.int ((p4 &&& (2147483647 : Int32)) % (24 : Int32))), .val (.int ((p5 &&& (2147483647 : Int32)) % (60 : Int32))), .val (.int ((p6 &&& (2147483647 : Int32)) % (60 : Int32))), .unset, .unset, .unset] [])) rfl (hb hby at_64) (by decide) (by decide)
  obtain ⟨b2, g2⟩ : ∃ z, z = h0.size := ⟨_, rfl⟩
  rw [← g2] at A2 D2 st2
  have lt2 : b2 < h2.size := A2.lt
  refine Go.of st2 ?_
  have hs3 : h0.size ≤ h2.size := E2.1
  have F2_year : Fld Z h2 b2 "com/example/live_alter/livealter/schema/Datetime" "year" "I" (.int (0 : Int32)) := D2 (Or.inr (hw _ (List.mem_of_getElem? (i := 48) rfl))) (ty := .int) (by decide)
  have F2_month : Fld Z h2 b2 "com/example/live_alter/livealter/schema/Datetime" "month" "I" (.int (0 : Int32)) := D2 (Or.inr (hw _ (List.mem_of_getElem? (i := 50) rfl))) (ty := .int) (by decide)
  have F2_day : Fld Z h2 b2 "com/example/live_alter/livealter/schema/Datetime" "day" "I" (.int (0 : Int32)) := D2 (Or.inr (hw _ (List.mem_of_getElem? (i := 52) rfl))) (ty := .int) (by decide)
  have F2_hour : Fld Z h2 b2 "com/example/live_alter/livealter/schema/Datetime" "hour" "I" (.int (0 : Int32)) := D2 (Or.inr (hw _ (List.mem_of_getElem? (i := 54) rfl))) (ty := .int) (by decide)
  have F2_minute : Fld Z h2 b2 "com/example/live_alter/livealter/schema/Datetime" "minute" "I" (.int (0 : Int32)) := D2 (Or.inr (hw _ (List.mem_of_getElem? (i := 56) rfl))) (ty := .int) (by decide)
  have F2_second : Fld Z h2 b2 "com/example/live_alter/livealter/schema/Datetime" "second" "I" (.int (0 : Int32)) := D2 (Or.inr (hw _ (List.mem_of_getElem? (i := 58) rfl))) (ty := .int) (by decide)
  show Go _ _ _ _ _ _ _ (T2.setTop (mkF m 67 #[.val (.int p1), .val (.int p2), .val (.int p3), .val (.int p4), .val (.int p5), .val (.int p6), .val (.int ((p1 &&& (2147483647 : Int32)) % (10000 : Int32))), .val (.int ((p2 &&& (2147483647 : Int32)) % (13 : Int32))), .val (.int ((p3 &&& (2147483647 : Int32)) % ((own_ml ((p1 &&& (2147483647 : Int32)) % (10000 : Int32)) ((p2 &&& (2147483647 : Int32)) % (13 : Int32))) + (1 : Int32)))), .val (.int ((p4 &&& (2147483647 : Int32)) % (24 : Int32))), .val (.int ((p5 &&& (2147483647 : Int32)) % (60 : Int32))), .val (.int ((p6 &&& (2147483647 : Int32)) % (60 : Int32))), .unset, .unset, .unset] [(.ref b2)]))
  refine Go.of (fun t k => XS.dup X2.here hx rfl (hb hby at_67) rfl rfl k) ?_
  show Go _ _ _ _ _ _ _ (T2.setTop (mkF m 68 #[.val (.int p1), .val (.int p2), .val (.int p3), .val (.int p4), .val (.int p5), .val (.int p6), .val (.int ((p1 &&& (2147483647 : Int32)) % (10000 : Int32))), .val (.int ((p2 &&& (2147483647 : Int32)) % (13 : Int32))), .val (.int ((p3 &&& (2147483647 : Int32)) % ((own_ml ((p1 &&& (2147483647 : Int32)) % (10000 : Int32)) ((p2 &&& (2147483647 : Int32)) % (13 : Int32))) + (1 : Int32)))), .val (.int ((p4 &&& (2147483647 : Int32)) % (24 : Int32))), .val (.int ((p5 &&& (2147483647 : Int32)) % (60 : Int32))), .val (.int ((p6 &&& (2147483647 : Int32)) % (60 : Int32))), .unset, .unset, .unset] [(.ref b2), (.ref b2)]))
  refine Go.of (fun t k => XS.iload X2.here hx rfl (hb hby at_68) rfl k) ?_
  show Go _ _ _ _ _ _ _ (T2.setTop (mkF m 70 #[.val (.int p1), .val (.int p2), .val (.int p3), .val (.int p4), .val (.int p5), .val (.int p6), .val (.int ((p1 &&& (2147483647 : Int32)) % (10000 : Int32))), .val (.int ((p2 &&& (2147483647 : Int32)) % (13 : Int32))), .val (.int ((p3 &&& (2147483647 : Int32)) % ((own_ml ((p1 &&& (2147483647 : Int32)) % (10000 : Int32)) ((p2 &&& (2147483647 : Int32)) % (13 : Int32))) + (1 : Int32)))), .val (.int ((p4 &&& (2147483647 : Int32)) % (24 : Int32))), .val (.int ((p5 &&& (2147483647 : Int32)) % (60 : Int32))), .val (.int ((p6 &&& (2147483647 : Int32)) % (60 : Int32))), .unset, .unset, .unset] [(.int ((p1 &&& (2147483647 : Int32)) % (10000 : Int32))), (.ref b2), (.ref b2)]))
  refine Go.of (fun t k => XS.iload X2.here hx rfl (hb hby at_70) rfl k) ?_
  show Go _ _ _ _ _ _ _ (T2.setTop (mkF m 72 #[.val (.int p1), .val (.int p2), .val (.int p3), .val (.int p4), .val (.int p5), .val (.int p6), .val (.int ((p1 &&& (2147483647 : Int32)) % (10000 : Int32))), .val (.int ((p2 &&& (2147483647 : Int32)) % (13 : Int32))), .val (.int ((p3 &&& (2147483647 : Int32)) % ((own_ml ((p1 &&& (2147483647 : Int32)) % (10000 : Int32)) ((p2 &&& (2147483647 : Int32)) % (13 : Int32))) + (1 : Int32)))), .val (.int ((p4 &&& (2147483647 : Int32)) % (24 : Int32))), .val (.int ((p5 &&& (2147483647 : Int32)) % (60 : Int32))), .val (.int ((p6 &&& (2147483647 : Int32)) % (60 : Int32))), .unset, .unset, .unset] [(.int ((p2 &&& (2147483647 : Int32)) % (13 : Int32))), (.int ((p1 &&& (2147483647 : Int32)) % (10000 : Int32))), (.ref b2), (.ref b2)]))
  refine Go.of (fun t k => XS.iload X2.here hx rfl (hb hby at_72) rfl k) ?_
  show Go _ _ _ _ _ _ _ (T2.setTop (mkF m 74 #[.val (.int p1), .val (.int p2), .val (.int p3), .val (.int p4), .val (.int p5), .val (.int p6), .val (.int ((p1 &&& (2147483647 : Int32)) % (10000 : Int32))), .val (.int ((p2 &&& (2147483647 : Int32)) % (13 : Int32))), .val (.int ((p3 &&& (2147483647 : Int32)) % ((own_ml ((p1 &&& (2147483647 : Int32)) % (10000 : Int32)) ((p2 &&& (2147483647 : Int32)) % (13 : Int32))) + (1 : Int32)))), .val (.int ((p4 &&& (2147483647 : Int32)) % (24 : Int32))), .val (.int ((p5 &&& (2147483647 : Int32)) % (60 : Int32))), .val (.int ((p6 &&& (2147483647 : Int32)) % (60 : Int32))), .unset, .unset, .unset] [(.int ((p3 &&& (2147483647 : Int32)) % ((own_ml ((p1 &&& (2147483647 : Int32)) % (10000 : Int32)) ((p2 &&& (2147483647 : Int32)) % (13 : Int32))) + (1 : Int32)))), (.int ((p2 &&& (2147483647 : Int32)) % (13 : Int32))), (.int ((p1 &&& (2147483647 : Int32)) % (10000 : Int32))), (.ref b2), (.ref b2)]))
  refine Go.of (fun t k => XS.iload X2.here hx rfl (hb hby at_74) rfl k) ?_
  show Go _ _ _ _ _ _ _ (T2.setTop (mkF m 76 #[.val (.int p1), .val (.int p2), .val (.int p3), .val (.int p4), .val (.int p5), .val (.int p6), .val (.int ((p1 &&& (2147483647 : Int32)) % (10000 : Int32))), .val (.int ((p2 &&& (2147483647 : Int32)) % (13 : Int32))), .val (.int ((p3 &&& (2147483647 : Int32)) % ((own_ml ((p1 &&& (2147483647 : Int32)) % (10000 : Int32)) ((p2 &&& (2147483647 : Int32)) % (13 : Int32))) + (1 : Int32)))), .val (.int ((p4 &&& (2147483647 : Int32)) % (24 : Int32))), .val (.int ((p5 &&& (2147483647 : Int32)) % (60 : Int32))), .val (.int ((p6 &&& (2147483647 : Int32)) % (60 : Int32))), .unset, .unset, .unset] [(.int ((p4 &&& (2147483647 : Int32)) % (24 : Int32))), (.int ((p3 &&& (2147483647 : Int32)) % ((own_ml ((p1 &&& (2147483647 : Int32)) % (10000 : Int32)) ((p2 &&& (2147483647 : Int32)) % (13 : Int32))) + (1 : Int32)))), (.int ((p2 &&& (2147483647 : Int32)) % (13 : Int32))), (.int ((p1 &&& (2147483647 : Int32)) % (10000 : Int32))), (.ref b2), (.ref b2)]))
  refine Go.of (fun t k => XS.iload X2.here hx rfl (hb hby at_76) rfl k) ?_
  show Go _ _ _ _ _ _ _ (T2.setTop (mkF m 78 #[.val (.int p1), .val (.int p2), .val (.int p3), .val (.int p4), .val (.int p5), .val (.int p6), .val (.int ((p1 &&& (2147483647 : Int32)) % (10000 : Int32))), .val (.int ((p2 &&& (2147483647 : Int32)) % (13 : Int32))), .val (.int ((p3 &&& (2147483647 : Int32)) % ((own_ml ((p1 &&& (2147483647 : Int32)) % (10000 : Int32)) ((p2 &&& (2147483647 : Int32)) % (13 : Int32))) + (1 : Int32)))), .val (.int ((p4 &&& (2147483647 : Int32)) % (24 : Int32))), .val (.int ((p5 &&& (2147483647 : Int32)) % (60 : Int32))), .val (.int ((p6 &&& (2147483647 : Int32)) % (60 : Int32))), .unset, .unset, .unset] [(.int ((p5 &&& (2147483647 : Int32)) % (60 : Int32))), (.int ((p4 &&& (2147483647 : Int32)) % (24 : Int32))), (.int ((p3 &&& (2147483647 : Int32)) % ((own_ml ((p1 &&& (2147483647 : Int32)) % (10000 : Int32)) ((p2 &&& (2147483647 : Int32)) % (13 : Int32))) + (1 : Int32)))), (.int ((p2 &&& (2147483647 : Int32)) % (13 : Int32))), (.int ((p1 &&& (2147483647 : Int32)) % (10000 : Int32))), (.ref b2), (.ref b2)]))
  refine Go.of (fun t k => XS.iload X2.here hx rfl (hb hby at_78) rfl k) ?_
  show Go _ _ _ _ _ _ _ (T2.setTop (mkF m 80 #[.val (.int p1), .val (.int p2), .val (.int p3), .val (.int p4), .val (.int p5), .val (.int p6), .val (.int ((p1 &&& (2147483647 : Int32)) % (10000 : Int32))), .val (.int ((p2 &&& (2147483647 : Int32)) % (13 : Int32))), .val (.int ((p3 &&& (2147483647 : Int32)) % ((own_ml ((p1 &&& (2147483647 : Int32)) % (10000 : Int32)) ((p2 &&& (2147483647 : Int32)) % (13 : Int32))) + (1 : Int32)))), .val (.int ((p4 &&& (2147483647 : Int32)) % (24 : Int32))), .val (.int ((p5 &&& (2147483647 : Int32)) % (60 : Int32))), .val (.int ((p6 &&& (2147483647 : Int32)) % (60 : Int32))), .unset, .unset, .unset] [(.int ((p6 &&& (2147483647 : Int32)) % (60 : Int32))), (.int ((p5 &&& (2147483647 : Int32)) % (60 : Int32))), (.int ((p4 &&& (2147483647 : Int32)) % (24 : Int32))), (.int ((p3 &&& (2147483647 : Int32)) % ((own_ml ((p1 &&& (2147483647 : Int32)) % (10000 : Int32)) ((p2 &&& (2147483647 : Int32)) % (13 : Int32))) + (1 : Int32)))), (.int ((p2 &&& (2147483647 : Int32)) % (13 : Int32))), (.int ((p1 &&& (2147483647 : Int32)) % (10000 : Int32))), (.ref b2), (.ref b2)]))
  have f4 := (M.ext E2)
  obtain ⟨_, _, ⟨T5, L5, k5, n5⟩, -, X5, ⟨Lc5, hQ5, l5, y5, z5⟩, st5⟩ := X2.specialBack hx (y := (⟨"com/example/live_alter/livealter/schema/Datetime", "<init>", "(IIIIII)V"⟩ : MethodName)) rfl hown (mvT hZ (hw _ (List.mem_of_getElem? (i := 8) rfl))) (mvT hZ (hw _ (List.mem_of_getElem? (i := 9) rfl))) (mvT hZ (hw _ (List.mem_of_getElem? (i := 10) rfl))) (by decide) (backOf (W := 1) (rm2 l Z a0 hw [] b2 ((p1 &&& (2147483647 : Int32)) % (10000 : Int32)) ((p2 &&& (2147483647 : Int32)) % (13 : Int32)) ((p3 &&& (2147483647 : Int32)) % ((own_ml ((p1 &&& (2147483647 : Int32)) % (10000 : Int32)) ((p2 &&& (2147483647 : Int32)) % (13 : Int32))) + (1 : Int32))) ((p4 &&& (2147483647 : Int32)) % (24 : Int32)) ((p5 &&& (2147483647 : Int32)) % (60 : Int32)) ((p6 &&& (2147483647 : Int32)) % (60 : Int32)) w cl mo h2 n0 (by omega) f4 r0.1 r0.2 r1.1 r1.2 rd0 rd1 r3.1 r3.2 r4.1 r4.2 r5.1 r5.2 A2 (by omega) F2_year F2_month F2_day F2_hour F2_minute F2_second) hZ (hw _ (List.mem_of_getElem? (i := 10) rfl)) (hw _ (List.mem_of_getElem? (i := 7) rfl)) (by decide) (by decide)) (g := (mkF m 80 #[.val (.int p1), .val (.int p2), .val (.int p3), .val (.int p4), .val (.int p5), .val (.int p6), .val (.int ((p1 &&& (2147483647 : Int32)) % (10000 : Int32))), .val (.int ((p2 &&& (2147483647 : Int32)) % (13 : Int32))), .val (.int ((p3 &&& (2147483647 : Int32)) % ((own_ml ((p1 &&& (2147483647 : Int32)) % (10000 : Int32)) ((p2 &&& (2147483647 : Int32)) % (13 : Int32))) + (1 : Int32)))), .val (.int ((p4 &&& (2147483647 : Int32)) % (24 : Int32))), .val (.int ((p5 &&& (2147483647 : Int32)) % (60 : Int32))), .val (.int ((p6 &&& (2147483647 : Int32)) % (60 : Int32))), .unset, .unset, .unset] [(.int ((p6 &&& (2147483647 : Int32)) % (60 : Int32))), (.int ((p5 &&& (2147483647 : Int32)) % (60 : Int32))), (.int ((p4 &&& (2147483647 : Int32)) % (24 : Int32))), (.int ((p3 &&& (2147483647 : Int32)) % ((own_ml ((p1 &&& (2147483647 : Int32)) % (10000 : Int32)) ((p2 &&& (2147483647 : Int32)) % (13 : Int32))) + (1 : Int32)))), (.int ((p2 &&& (2147483647 : Int32)) % (13 : Int32))), (.int ((p1 &&& (2147483647 : Int32)) % (10000 : Int32))), (.ref b2), (.ref b2)])) rfl (by rw [hml]; rfl) (Steps.refl _) (a := b2) (argsL := [(.int ((p1 &&& (2147483647 : Int32)) % (10000 : Int32))), (.int ((p2 &&& (2147483647 : Int32)) % (13 : Int32))), (.int ((p3 &&& (2147483647 : Int32)) % ((own_ml ((p1 &&& (2147483647 : Int32)) % (10000 : Int32)) ((p2 &&& (2147483647 : Int32)) % (13 : Int32))) + (1 : Int32)))), (.int ((p4 &&& (2147483647 : Int32)) % (24 : Int32))), (.int ((p5 &&& (2147483647 : Int32)) % (60 : Int32))), (.int ((p6 &&& (2147483647 : Int32)) % (60 : Int32)))]) (rest := [(.ref b2)]) (lenOf pd_8 rfl) rfl (by show 2 * 0 + _ ≤ _; exact Nat.le_of_eq rfl) (hb hby at_80) (fun _ _ => ⟨rfl, e2, (by decide : 1 + 0 ≤ _), (by decide : 6 + 0 ≤ _)⟩)
  dsimp only [Pt.U, Pt.locs, Pt.cells, Pt.slots] at X5 l5 y5 z5 st5 hQ5
  subst l5 y5 z5
  obtain ⟨rfl, N5q, K5, Ex5, Fa5, Fb5, Fc5, Fd5, Fe5, Ff5⟩ := hQ5
  have N5 := Fr.app N1 N5q
  refine Go.tr st5 ?_
  have hs6 : h2.size ≤ T5.heap.size := K5.1
  show Go _ _ _ _ _ _ _ (T5.setTop (mkF m 83 #[.val (.int p1), .val (.int p2), .val (.int p3), .val (.int p4), .val (.int p5), .val (.int p6), .val (.int ((p1 &&& (2147483647 : Int32)) % (10000 : Int32))), .val (.int ((p2 &&& (2147483647 : Int32)) % (13 : Int32))), .val (.int ((p3 &&& (2147483647 : Int32)) % ((own_ml ((p1 &&& (2147483647 : Int32)) % (10000 : Int32)) ((p2 &&& (2147483647 : Int32)) % (13 : Int32))) + (1 : Int32)))), .val (.int ((p4 &&& (2147483647 : Int32)) % (24 : Int32))), .val (.int ((p5 &&& (2147483647 : Int32)) % (60 : Int32))), .val (.int ((p6 &&& (2147483647 : Int32)) % (60 : Int32))), .unset, .unset, .unset] [(.ref b2)]))
  refine Go.of (fun t k => XS.astore X5.here hx rfl (hb hby at_83) rfl rfl (l' := #[.val (.int p1), .val (.int p2), .val (.int p3), .val (.int p4), .val (.int p5), .val (.int p6), .val (.int ((p1 &&& (2147483647 : Int32)) % (10000 : Int32))), .val (.int ((p2 &&& (2147483647 : Int32)) % (13 : Int32))), .val (.int ((p3 &&& (2147483647 : Int32)) % ((own_ml ((p1 &&& (2147483647 : Int32)) % (10000 : Int32)) ((p2 &&& (2147483647 : Int32)) % (13 : Int32))) + (1 : Int32)))), .val (.int ((p4 &&& (2147483647 : Int32)) % (24 : Int32))), .val (.int ((p5 &&& (2147483647 : Int32)) % (60 : Int32))), .val (.int ((p6 &&& (2147483647 : Int32)) % (60 : Int32))), .val (.ref b2), .unset, .unset]) rfl k) ?_
  show Go _ _ _ _ _ _ _ (T5.setTop (mkF m 85 #[.val (.int p1), .val (.int p2), .val (.int p3), .val (.int p4), .val (.int p5), .val (.int p6), .val (.int ((p1 &&& (2147483647 : Int32)) % (10000 : Int32))), .val (.int ((p2 &&& (2147483647 : Int32)) % (13 : Int32))), .val (.int ((p3 &&& (2147483647 : Int32)) % ((own_ml ((p1 &&& (2147483647 : Int32)) % (10000 : Int32)) ((p2 &&& (2147483647 : Int32)) % (13 : Int32))) + (1 : Int32)))), .val (.int ((p4 &&& (2147483647 : Int32)) % (24 : Int32))), .val (.int ((p5 &&& (2147483647 : Int32)) % (60 : Int32))), .val (.int ((p6 &&& (2147483647 : Int32)) % (60 : Int32))), .val (.ref b2), .unset, .unset] []))
  refine Go.of (fun t k => XS.iload X5.here hx rfl (hb hby at_85) rfl k) ?_
  show Go _ _ _ _ _ _ _ (T5.setTop (mkF m 87 #[.val (.int p1), .val (.int p2), .val (.int p3), .val (.int p4), .val (.int p5), .val (.int p6), .val (.int ((p1 &&& (2147483647 : Int32)) % (10000 : Int32))), .val (.int ((p2 &&& (2147483647 : Int32)) % (13 : Int32))), .val (.int ((p3 &&& (2147483647 : Int32)) % ((own_ml ((p1 &&& (2147483647 : Int32)) % (10000 : Int32)) ((p2 &&& (2147483647 : Int32)) % (13 : Int32))) + (1 : Int32)))), .val (.int ((p4 &&& (2147483647 : Int32)) % (24 : Int32))), .val (.int ((p5 &&& (2147483647 : Int32)) % (60 : Int32))), .val (.int ((p6 &&& (2147483647 : Int32)) % (60 : Int32))), .val (.ref b2), .unset, .unset] [(.int ((p1 &&& (2147483647 : Int32)) % (10000 : Int32)))]))
  refine Go.of (fun t k => XS.i2l X5.here hx rfl (hb hby at_87) rfl k) ?_
  show Go _ _ _ _ _ _ _ (T5.setTop (mkF m 88 #[.val (.int p1), .val (.int p2), .val (.int p3), .val (.int p4), .val (.int p5), .val (.int p6), .val (.int ((p1 &&& (2147483647 : Int32)) % (10000 : Int32))), .val (.int ((p2 &&& (2147483647 : Int32)) % (13 : Int32))), .val (.int ((p3 &&& (2147483647 : Int32)) % ((own_ml ((p1 &&& (2147483647 : Int32)) % (10000 : Int32)) ((p2 &&& (2147483647 : Int32)) % (13 : Int32))) + (1 : Int32)))), .val (.int ((p4 &&& (2147483647 : Int32)) % (24 : Int32))), .val (.int ((p5 &&& (2147483647 : Int32)) % (60 : Int32))), .val (.int ((p6 &&& (2147483647 : Int32)) % (60 : Int32))), .val (.ref b2), .unset, .unset] [(.long (((p1 &&& (2147483647 : Int32)) % (10000 : Int32)).toInt64))]))
  refine Go.of (fun t k => X5.ldc2Long hx hown (mvT hZ (hw _ (List.mem_of_getElem? (i := 59) rfl))) (g := (mkF m 88 #[.val (.int p1), .val (.int p2), .val (.int p3), .val (.int p4), .val (.int p5), .val (.int p6), .val (.int ((p1 &&& (2147483647 : Int32)) % (10000 : Int32))), .val (.int ((p2 &&& (2147483647 : Int32)) % (13 : Int32))), .val (.int ((p3 &&& (2147483647 : Int32)) % ((own_ml ((p1 &&& (2147483647 : Int32)) % (10000 : Int32)) ((p2 &&& (2147483647 : Int32)) % (13 : Int32))) + (1 : Int32)))), .val (.int ((p4 &&& (2147483647 : Int32)) % (24 : Int32))), .val (.int ((p5 &&& (2147483647 : Int32)) % (60 : Int32))), .val (.int ((p6 &&& (2147483647 : Int32)) % (60 : Int32))), .val (.ref b2), .unset, .unset] [(.long (((p1 &&& (2147483647 : Int32)) % (10000 : Int32)).toInt64))])) rfl (hb hby at_88) _ k) ?_
  show Go _ _ _ _ _ _ _ (T5.setTop (mkF m 91 #[.val (.int p1), .val (.int p2), .val (.int p3), .val (.int p4), .val (.int p5), .val (.int p6), .val (.int ((p1 &&& (2147483647 : Int32)) % (10000 : Int32))), .val (.int ((p2 &&& (2147483647 : Int32)) % (13 : Int32))), .val (.int ((p3 &&& (2147483647 : Int32)) % ((own_ml ((p1 &&& (2147483647 : Int32)) % (10000 : Int32)) ((p2 &&& (2147483647 : Int32)) % (13 : Int32))) + (1 : Int32)))), .val (.int ((p4 &&& (2147483647 : Int32)) % (24 : Int32))), .val (.int ((p5 &&& (2147483647 : Int32)) % (60 : Int32))), .val (.int ((p6 &&& (2147483647 : Int32)) % (60 : Int32))), .val (.ref b2), .unset, .unset] [(.long (10000000000 : Int64)), (.long (((p1 &&& (2147483647 : Int32)) % (10000 : Int32)).toInt64))]))
  refine Go.of (fun t k => XS.lmul X5.here hx rfl (hb hby at_91) rfl k) ?_
  show Go _ _ _ _ _ _ _ (T5.setTop (mkF m 92 #[.val (.int p1), .val (.int p2), .val (.int p3), .val (.int p4), .val (.int p5), .val (.int p6), .val (.int ((p1 &&& (2147483647 : Int32)) % (10000 : Int32))), .val (.int ((p2 &&& (2147483647 : Int32)) % (13 : Int32))), .val (.int ((p3 &&& (2147483647 : Int32)) % ((own_ml ((p1 &&& (2147483647 : Int32)) % (10000 : Int32)) ((p2 &&& (2147483647 : Int32)) % (13 : Int32))) + (1 : Int32)))), .val (.int ((p4 &&& (2147483647 : Int32)) % (24 : Int32))), .val (.int ((p5 &&& (2147483647 : Int32)) % (60 : Int32))), .val (.int ((p6 &&& (2147483647 : Int32)) % (60 : Int32))), .val (.ref b2), .unset, .unset] [(.long ((((p1 &&& (2147483647 : Int32)) % (10000 : Int32)).toInt64) * (10000000000 : Int64)))]))
  refine Go.of (fun t k => XS.iload X5.here hx rfl (hb hby at_92) rfl k) ?_
  show Go _ _ _ _ _ _ _ (T5.setTop (mkF m 94 #[.val (.int p1), .val (.int p2), .val (.int p3), .val (.int p4), .val (.int p5), .val (.int p6), .val (.int ((p1 &&& (2147483647 : Int32)) % (10000 : Int32))), .val (.int ((p2 &&& (2147483647 : Int32)) % (13 : Int32))), .val (.int ((p3 &&& (2147483647 : Int32)) % ((own_ml ((p1 &&& (2147483647 : Int32)) % (10000 : Int32)) ((p2 &&& (2147483647 : Int32)) % (13 : Int32))) + (1 : Int32)))), .val (.int ((p4 &&& (2147483647 : Int32)) % (24 : Int32))), .val (.int ((p5 &&& (2147483647 : Int32)) % (60 : Int32))), .val (.int ((p6 &&& (2147483647 : Int32)) % (60 : Int32))), .val (.ref b2), .unset, .unset] [(.int ((p2 &&& (2147483647 : Int32)) % (13 : Int32))), (.long ((((p1 &&& (2147483647 : Int32)) % (10000 : Int32)).toInt64) * (10000000000 : Int64)))]))
  refine Go.of (fun t k => XS.i2l X5.here hx rfl (hb hby at_94) rfl k) ?_
  show Go _ _ _ _ _ _ _ (T5.setTop (mkF m 95 #[.val (.int p1), .val (.int p2), .val (.int p3), .val (.int p4), .val (.int p5), .val (.int p6), .val (.int ((p1 &&& (2147483647 : Int32)) % (10000 : Int32))), .val (.int ((p2 &&& (2147483647 : Int32)) % (13 : Int32))), .val (.int ((p3 &&& (2147483647 : Int32)) % ((own_ml ((p1 &&& (2147483647 : Int32)) % (10000 : Int32)) ((p2 &&& (2147483647 : Int32)) % (13 : Int32))) + (1 : Int32)))), .val (.int ((p4 &&& (2147483647 : Int32)) % (24 : Int32))), .val (.int ((p5 &&& (2147483647 : Int32)) % (60 : Int32))), .val (.int ((p6 &&& (2147483647 : Int32)) % (60 : Int32))), .val (.ref b2), .unset, .unset] [(.long (((p2 &&& (2147483647 : Int32)) % (13 : Int32)).toInt64)), (.long ((((p1 &&& (2147483647 : Int32)) % (10000 : Int32)).toInt64) * (10000000000 : Int64)))]))
  refine Go.of (fun t k => X5.ldc2Long hx hown (mvT hZ (hw _ (List.mem_of_getElem? (i := 60) rfl))) (g := (mkF m 95 #[.val (.int p1), .val (.int p2), .val (.int p3), .val (.int p4), .val (.int p5), .val (.int p6), .val (.int ((p1 &&& (2147483647 : Int32)) % (10000 : Int32))), .val (.int ((p2 &&& (2147483647 : Int32)) % (13 : Int32))), .val (.int ((p3 &&& (2147483647 : Int32)) % ((own_ml ((p1 &&& (2147483647 : Int32)) % (10000 : Int32)) ((p2 &&& (2147483647 : Int32)) % (13 : Int32))) + (1 : Int32)))), .val (.int ((p4 &&& (2147483647 : Int32)) % (24 : Int32))), .val (.int ((p5 &&& (2147483647 : Int32)) % (60 : Int32))), .val (.int ((p6 &&& (2147483647 : Int32)) % (60 : Int32))), .val (.ref b2), .unset, .unset] [(.long (((p2 &&& (2147483647 : Int32)) % (13 : Int32)).toInt64)), (.long ((((p1 &&& (2147483647 : Int32)) % (10000 : Int32)).toInt64) * (10000000000 : Int64)))])) rfl (hb hby at_95) _ k) ?_
  show Go _ _ _ _ _ _ _ (T5.setTop (mkF m 98 #[.val (.int p1), .val (.int p2), .val (.int p3), .val (.int p4), .val (.int p5), .val (.int p6), .val (.int ((p1 &&& (2147483647 : Int32)) % (10000 : Int32))), .val (.int ((p2 &&& (2147483647 : Int32)) % (13 : Int32))), .val (.int ((p3 &&& (2147483647 : Int32)) % ((own_ml ((p1 &&& (2147483647 : Int32)) % (10000 : Int32)) ((p2 &&& (2147483647 : Int32)) % (13 : Int32))) + (1 : Int32)))), .val (.int ((p4 &&& (2147483647 : Int32)) % (24 : Int32))), .val (.int ((p5 &&& (2147483647 : Int32)) % (60 : Int32))), .val (.int ((p6 &&& (2147483647 : Int32)) % (60 : Int32))), .val (.ref b2), .unset, .unset] [(.long (100000000 : Int64)), (.long (((p2 &&& (2147483647 : Int32)) % (13 : Int32)).toInt64)), (.long ((((p1 &&& (2147483647 : Int32)) % (10000 : Int32)).toInt64) * (10000000000 : Int64)))]))
  refine Go.of (fun t k => XS.lmul X5.here hx rfl (hb hby at_98) rfl k) ?_
  show Go _ _ _ _ _ _ _ (T5.setTop (mkF m 99 #[.val (.int p1), .val (.int p2), .val (.int p3), .val (.int p4), .val (.int p5), .val (.int p6), .val (.int ((p1 &&& (2147483647 : Int32)) % (10000 : Int32))), .val (.int ((p2 &&& (2147483647 : Int32)) % (13 : Int32))), .val (.int ((p3 &&& (2147483647 : Int32)) % ((own_ml ((p1 &&& (2147483647 : Int32)) % (10000 : Int32)) ((p2 &&& (2147483647 : Int32)) % (13 : Int32))) + (1 : Int32)))), .val (.int ((p4 &&& (2147483647 : Int32)) % (24 : Int32))), .val (.int ((p5 &&& (2147483647 : Int32)) % (60 : Int32))), .val (.int ((p6 &&& (2147483647 : Int32)) % (60 : Int32))), .val (.ref b2), .unset, .unset] [(.long ((((p2 &&& (2147483647 : Int32)) % (13 : Int32)).toInt64) * (100000000 : Int64))), (.long ((((p1 &&& (2147483647 : Int32)) % (10000 : Int32)).toInt64) * (10000000000 : Int64)))]))
  refine Go.of (fun t k => XS.ladd X5.here hx rfl (hb hby at_99) rfl k) ?_
  show Go _ _ _ _ _ _ _ (T5.setTop (mkF m 100 #[.val (.int p1), .val (.int p2), .val (.int p3), .val (.int p4), .val (.int p5), .val (.int p6), .val (.int ((p1 &&& (2147483647 : Int32)) % (10000 : Int32))), .val (.int ((p2 &&& (2147483647 : Int32)) % (13 : Int32))), .val (.int ((p3 &&& (2147483647 : Int32)) % ((own_ml ((p1 &&& (2147483647 : Int32)) % (10000 : Int32)) ((p2 &&& (2147483647 : Int32)) % (13 : Int32))) + (1 : Int32)))), .val (.int ((p4 &&& (2147483647 : Int32)) % (24 : Int32))), .val (.int ((p5 &&& (2147483647 : Int32)) % (60 : Int32))), .val (.int ((p6 &&& (2147483647 : Int32)) % (60 : Int32))), .val (.ref b2), .unset, .unset] [(.long (((((p1 &&& (2147483647 : Int32)) % (10000 : Int32)).toInt64) * (10000000000 : Int64)) + ((((p2 &&& (2147483647 : Int32)) % (13 : Int32)).toInt64) * (100000000 : Int64))))]))
  refine Go.of (fun t k => XS.iload X5.here hx rfl (hb hby at_100) rfl k) ?_
  show Go _ _ _ _ _ _ _ (T5.setTop (mkF m 102 #[.val (.int p1), .val (.int p2), .val (.int p3), .val (.int p4), .val (.int p5), .val (.int p6), .val (.int ((p1 &&& (2147483647 : Int32)) % (10000 : Int32))), .val (.int ((p2 &&& (2147483647 : Int32)) % (13 : Int32))), .val (.int ((p3 &&& (2147483647 : Int32)) % ((own_ml ((p1 &&& (2147483647 : Int32)) % (10000 : Int32)) ((p2 &&& (2147483647 : Int32)) % (13 : Int32))) + (1 : Int32)))), .val (.int ((p4 &&& (2147483647 : Int32)) % (24 : Int32))), .val (.int ((p5 &&& (2147483647 : Int32)) % (60 : Int32))), .val (.int ((p6 &&& (2147483647 : Int32)) % (60 : Int32))), .val (.ref b2), .unset, .unset] [(.int ((p3 &&& (2147483647 : Int32)) % ((own_ml ((p1 &&& (2147483647 : Int32)) % (10000 : Int32)) ((p2 &&& (2147483647 : Int32)) % (13 : Int32))) + (1 : Int32)))), (.long (((((p1 &&& (2147483647 : Int32)) % (10000 : Int32)).toInt64) * (10000000000 : Int64)) + ((((p2 &&& (2147483647 : Int32)) % (13 : Int32)).toInt64) * (100000000 : Int64))))]))
  refine Go.of (fun t k => XS.i2l X5.here hx rfl (hb hby at_102) rfl k) ?_
  show Go _ _ _ _ _ _ _ (T5.setTop (mkF m 103 #[.val (.int p1), .val (.int p2), .val (.int p3), .val (.int p4), .val (.int p5), .val (.int p6), .val (.int ((p1 &&& (2147483647 : Int32)) % (10000 : Int32))), .val (.int ((p2 &&& (2147483647 : Int32)) % (13 : Int32))), .val (.int ((p3 &&& (2147483647 : Int32)) % ((own_ml ((p1 &&& (2147483647 : Int32)) % (10000 : Int32)) ((p2 &&& (2147483647 : Int32)) % (13 : Int32))) + (1 : Int32)))), .val (.int ((p4 &&& (2147483647 : Int32)) % (24 : Int32))), .val (.int ((p5 &&& (2147483647 : Int32)) % (60 : Int32))), .val (.int ((p6 &&& (2147483647 : Int32)) % (60 : Int32))), .val (.ref b2), .unset, .unset] [(.long (((p3 &&& (2147483647 : Int32)) % ((own_ml ((p1 &&& (2147483647 : Int32)) % (10000 : Int32)) ((p2 &&& (2147483647 : Int32)) % (13 : Int32))) + (1 : Int32))).toInt64)), (.long (((((p1 &&& (2147483647 : Int32)) % (10000 : Int32)).toInt64) * (10000000000 : Int64)) + ((((p2 &&& (2147483647 : Int32)) % (13 : Int32)).toInt64) * (100000000 : Int64))))]))
  refine Go.of (fun t k => X5.ldc2Long hx hown (mvT hZ (hw _ (List.mem_of_getElem? (i := 61) rfl))) (g := (mkF m 103 #[.val (.int p1), .val (.int p2), .val (.int p3), .val (.int p4), .val (.int p5), .val (.int p6), .val (.int ((p1 &&& (2147483647 : Int32)) % (10000 : Int32))), .val (.int ((p2 &&& (2147483647 : Int32)) % (13 : Int32))), .val (.int ((p3 &&& (2147483647 : Int32)) % ((own_ml ((p1 &&& (2147483647 : Int32)) % (10000 : Int32)) ((p2 &&& (2147483647 : Int32)) % (13 : Int32))) + (1 : Int32)))), .val (.int ((p4 &&& (2147483647 : Int32)) % (24 : Int32))), .val (.int ((p5 &&& (2147483647 : Int32)) % (60 : Int32))), .val (.int ((p6 &&& (2147483647 : Int32)) % (60 : Int32))), .val (.ref b2), .unset, .unset] [(.long (((p3 &&& (2147483647 : Int32)) % ((own_ml ((p1 &&& (2147483647 : Int32)) % (10000 : Int32)) ((p2 &&& (2147483647 : Int32)) % (13 : Int32))) + (1 : Int32))).toInt64)), (.long (((((p1 &&& (2147483647 : Int32)) % (10000 : Int32)).toInt64) * (10000000000 : Int64)) + ((((p2 &&& (2147483647 : Int32)) % (13 : Int32)).toInt64) * (100000000 : Int64))))])) rfl (hb hby at_103) _ k) ?_
  show Go _ _ _ _ _ _ _ (T5.setTop (mkF m 106 #[.val (.int p1), .val (.int p2), .val (.int p3), .val (.int p4), .val (.int p5), .val (.int p6), .val (.int ((p1 &&& (2147483647 : Int32)) % (10000 : Int32))), .val (.int ((p2 &&& (2147483647 : Int32)) % (13 : Int32))), .val (.int ((p3 &&& (2147483647 : Int32)) % ((own_ml ((p1 &&& (2147483647 : Int32)) % (10000 : Int32)) ((p2 &&& (2147483647 : Int32)) % (13 : Int32))) + (1 : Int32)))), .val (.int ((p4 &&& (2147483647 : Int32)) % (24 : Int32))), .val (.int ((p5 &&& (2147483647 : Int32)) % (60 : Int32))), .val (.int ((p6 &&& (2147483647 : Int32)) % (60 : Int32))), .val (.ref b2), .unset, .unset] [(.long (1000000 : Int64)), (.long (((p3 &&& (2147483647 : Int32)) % ((own_ml ((p1 &&& (2147483647 : Int32)) % (10000 : Int32)) ((p2 &&& (2147483647 : Int32)) % (13 : Int32))) + (1 : Int32))).toInt64)), (.long (((((p1 &&& (2147483647 : Int32)) % (10000 : Int32)).toInt64) * (10000000000 : Int64)) + ((((p2 &&& (2147483647 : Int32)) % (13 : Int32)).toInt64) * (100000000 : Int64))))]))
  refine Go.of (fun t k => XS.lmul X5.here hx rfl (hb hby at_106) rfl k) ?_
  show Go _ _ _ _ _ _ _ (T5.setTop (mkF m 107 #[.val (.int p1), .val (.int p2), .val (.int p3), .val (.int p4), .val (.int p5), .val (.int p6), .val (.int ((p1 &&& (2147483647 : Int32)) % (10000 : Int32))), .val (.int ((p2 &&& (2147483647 : Int32)) % (13 : Int32))), .val (.int ((p3 &&& (2147483647 : Int32)) % ((own_ml ((p1 &&& (2147483647 : Int32)) % (10000 : Int32)) ((p2 &&& (2147483647 : Int32)) % (13 : Int32))) + (1 : Int32)))), .val (.int ((p4 &&& (2147483647 : Int32)) % (24 : Int32))), .val (.int ((p5 &&& (2147483647 : Int32)) % (60 : Int32))), .val (.int ((p6 &&& (2147483647 : Int32)) % (60 : Int32))), .val (.ref b2), .unset, .unset] [(.long ((((p3 &&& (2147483647 : Int32)) % ((own_ml ((p1 &&& (2147483647 : Int32)) % (10000 : Int32)) ((p2 &&& (2147483647 : Int32)) % (13 : Int32))) + (1 : Int32))).toInt64) * (1000000 : Int64))), (.long (((((p1 &&& (2147483647 : Int32)) % (10000 : Int32)).toInt64) * (10000000000 : Int64)) + ((((p2 &&& (2147483647 : Int32)) % (13 : Int32)).toInt64) * (100000000 : Int64))))]))
  refine Go.of (fun t k => XS.ladd X5.here hx rfl (hb hby at_107) rfl k) ?_
  show Go _ _ _ _ _ _ _ (T5.setTop (mkF m 108 #[.val (.int p1), .val (.int p2), .val (.int p3), .val (.int p4), .val (.int p5), .val (.int p6), .val (.int ((p1 &&& (2147483647 : Int32)) % (10000 : Int32))), .val (.int ((p2 &&& (2147483647 : Int32)) % (13 : Int32))), .val (.int ((p3 &&& (2147483647 : Int32)) % ((own_ml ((p1 &&& (2147483647 : Int32)) % (10000 : Int32)) ((p2 &&& (2147483647 : Int32)) % (13 : Int32))) + (1 : Int32)))), .val (.int ((p4 &&& (2147483647 : Int32)) % (24 : Int32))), .val (.int ((p5 &&& (2147483647 : Int32)) % (60 : Int32))), .val (.int ((p6 &&& (2147483647 : Int32)) % (60 : Int32))), .val (.ref b2), .unset, .unset] [(.long ((((((p1 &&& (2147483647 : Int32)) % (10000 : Int32)).toInt64) * (10000000000 : Int64)) + ((((p2 &&& (2147483647 : Int32)) % (13 : Int32)).toInt64) * (100000000 : Int64))) + ((((p3 &&& (2147483647 : Int32)) % ((own_ml ((p1 &&& (2147483647 : Int32)) % (10000 : Int32)) ((p2 &&& (2147483647 : Int32)) % (13 : Int32))) + (1 : Int32))).toInt64) * (1000000 : Int64))))]))
  refine Go.of (fun t k => XS.iload X5.here hx rfl (hb hby at_108) rfl k) ?_
  show Go _ _ _ _ _ _ _ (T5.setTop (mkF m 110 #[.val (.int p1), .val (.int p2), .val (.int p3), .val (.int p4), .val (.int p5), .val (.int p6), .val (.int ((p1 &&& (2147483647 : Int32)) % (10000 : Int32))), .val (.int ((p2 &&& (2147483647 : Int32)) % (13 : Int32))), .val (.int ((p3 &&& (2147483647 : Int32)) % ((own_ml ((p1 &&& (2147483647 : Int32)) % (10000 : Int32)) ((p2 &&& (2147483647 : Int32)) % (13 : Int32))) + (1 : Int32)))), .val (.int ((p4 &&& (2147483647 : Int32)) % (24 : Int32))), .val (.int ((p5 &&& (2147483647 : Int32)) % (60 : Int32))), .val (.int ((p6 &&& (2147483647 : Int32)) % (60 : Int32))), .val (.ref b2), .unset, .unset] [(.int ((p4 &&& (2147483647 : Int32)) % (24 : Int32))), (.long ((((((p1 &&& (2147483647 : Int32)) % (10000 : Int32)).toInt64) * (10000000000 : Int64)) + ((((p2 &&& (2147483647 : Int32)) % (13 : Int32)).toInt64) * (100000000 : Int64))) + ((((p3 &&& (2147483647 : Int32)) % ((own_ml ((p1 &&& (2147483647 : Int32)) % (10000 : Int32)) ((p2 &&& (2147483647 : Int32)) % (13 : Int32))) + (1 : Int32))).toInt64) * (1000000 : Int64))))]))
  refine Go.of (fun t k => XS.i2l X5.here hx rfl (hb hby at_110) rfl k) ?_
  show Go _ _ _ _ _ _ _ (T5.setTop (mkF m 111 #[.val (.int p1), .val (.int p2), .val (.int p3), .val (.int p4), .val (.int p5), .val (.int p6), .val (.int ((p1 &&& (2147483647 : Int32)) % (10000 : Int32))), .val (.int ((p2 &&& (2147483647 : Int32)) % (13 : Int32))), .val (.int ((p3 &&& (2147483647 : Int32)) % ((own_ml ((p1 &&& (2147483647 : Int32)) % (10000 : Int32)) ((p2 &&& (2147483647 : Int32)) % (13 : Int32))) + (1 : Int32)))), .val (.int ((p4 &&& (2147483647 : Int32)) % (24 : Int32))), .val (.int ((p5 &&& (2147483647 : Int32)) % (60 : Int32))), .val (.int ((p6 &&& (2147483647 : Int32)) % (60 : Int32))), .val (.ref b2), .unset, .unset] [(.long (((p4 &&& (2147483647 : Int32)) % (24 : Int32)).toInt64)), (.long ((((((p1 &&& (2147483647 : Int32)) % (10000 : Int32)).toInt64) * (10000000000 : Int64)) + ((((p2 &&& (2147483647 : Int32)) % (13 : Int32)).toInt64) * (100000000 : Int64))) + ((((p3 &&& (2147483647 : Int32)) % ((own_ml ((p1 &&& (2147483647 : Int32)) % (10000 : Int32)) ((p2 &&& (2147483647 : Int32)) % (13 : Int32))) + (1 : Int32))).toInt64) * (1000000 : Int64))))]))
  refine Go.of (fun t k => X5.ldc2Long hx hown (mvT hZ (hw _ (List.mem_of_getElem? (i := 62) rfl))) (g := (mkF m 111 #[.val (.int p1), .val (.int p2), .val (.int p3), .val (.int p4), .val (.int p5), .val (.int p6), .val (.int ((p1 &&& (2147483647 : Int32)) % (10000 : Int32))), .val (.int ((p2 &&& (2147483647 : Int32)) % (13 : Int32))), .val (.int ((p3 &&& (2147483647 : Int32)) % ((own_ml ((p1 &&& (2147483647 : Int32)) % (10000 : Int32)) ((p2 &&& (2147483647 : Int32)) % (13 : Int32))) + (1 : Int32)))), .val (.int ((p4 &&& (2147483647 : Int32)) % (24 : Int32))), .val (.int ((p5 &&& (2147483647 : Int32)) % (60 : Int32))), .val (.int ((p6 &&& (2147483647 : Int32)) % (60 : Int32))), .val (.ref b2), .unset, .unset] [(.long (((p4 &&& (2147483647 : Int32)) % (24 : Int32)).toInt64)), (.long ((((((p1 &&& (2147483647 : Int32)) % (10000 : Int32)).toInt64) * (10000000000 : Int64)) + ((((p2 &&& (2147483647 : Int32)) % (13 : Int32)).toInt64) * (100000000 : Int64))) + ((((p3 &&& (2147483647 : Int32)) % ((own_ml ((p1 &&& (2147483647 : Int32)) % (10000 : Int32)) ((p2 &&& (2147483647 : Int32)) % (13 : Int32))) + (1 : Int32))).toInt64) * (1000000 : Int64))))])) rfl (hb hby at_111) _ k) ?_
  show Go _ _ _ _ _ _ _ (T5.setTop (mkF m 114 #[.val (.int p1), .val (.int p2), .val (.int p3), .val (.int p4), .val (.int p5), .val (.int p6), .val (.int ((p1 &&& (2147483647 : Int32)) % (10000 : Int32))), .val (.int ((p2 &&& (2147483647 : Int32)) % (13 : Int32))), .val (.int ((p3 &&& (2147483647 : Int32)) % ((own_ml ((p1 &&& (2147483647 : Int32)) % (10000 : Int32)) ((p2 &&& (2147483647 : Int32)) % (13 : Int32))) + (1 : Int32)))), .val (.int ((p4 &&& (2147483647 : Int32)) % (24 : Int32))), .val (.int ((p5 &&& (2147483647 : Int32)) % (60 : Int32))), .val (.int ((p6 &&& (2147483647 : Int32)) % (60 : Int32))), .val (.ref b2), .unset, .unset] [(.long (10000 : Int64)), (.long (((p4 &&& (2147483647 : Int32)) % (24 : Int32)).toInt64)), (.long ((((((p1 &&& (2147483647 : Int32)) % (10000 : Int32)).toInt64) * (10000000000 : Int64)) + ((((p2 &&& (2147483647 : Int32)) % (13 : Int32)).toInt64) * (100000000 : Int64))) + ((((p3 &&& (2147483647 : Int32)) % ((own_ml ((p1 &&& (2147483647 : Int32)) % (10000 : Int32)) ((p2 &&& (2147483647 : Int32)) % (13 : Int32))) + (1 : Int32))).toInt64) * (1000000 : Int64))))]))
  refine Go.of (fun t k => XS.lmul X5.here hx rfl (hb hby at_114) rfl k) ?_
  show Go _ _ _ _ _ _ _ (T5.setTop (mkF m 115 #[.val (.int p1), .val (.int p2), .val (.int p3), .val (.int p4), .val (.int p5), .val (.int p6), .val (.int ((p1 &&& (2147483647 : Int32)) % (10000 : Int32))), .val (.int ((p2 &&& (2147483647 : Int32)) % (13 : Int32))), .val (.int ((p3 &&& (2147483647 : Int32)) % ((own_ml ((p1 &&& (2147483647 : Int32)) % (10000 : Int32)) ((p2 &&& (2147483647 : Int32)) % (13 : Int32))) + (1 : Int32)))), .val (.int ((p4 &&& (2147483647 : Int32)) % (24 : Int32))), .val (.int ((p5 &&& (2147483647 : Int32)) % (60 : Int32))), .val (.int ((p6 &&& (2147483647 : Int32)) % (60 : Int32))), .val (.ref b2), .unset, .unset] [(.long ((((p4 &&& (2147483647 : Int32)) % (24 : Int32)).toInt64) * (10000 : Int64))), (.long ((((((p1 &&& (2147483647 : Int32)) % (10000 : Int32)).toInt64) * (10000000000 : Int64)) + ((((p2 &&& (2147483647 : Int32)) % (13 : Int32)).toInt64) * (100000000 : Int64))) + ((((p3 &&& (2147483647 : Int32)) % ((own_ml ((p1 &&& (2147483647 : Int32)) % (10000 : Int32)) ((p2 &&& (2147483647 : Int32)) % (13 : Int32))) + (1 : Int32))).toInt64) * (1000000 : Int64))))]))
  refine Go.of (fun t k => XS.ladd X5.here hx rfl (hb hby at_115) rfl k) ?_
  show Go _ _ _ _ _ _ _ (T5.setTop (mkF m 116 #[.val (.int p1), .val (.int p2), .val (.int p3), .val (.int p4), .val (.int p5), .val (.int p6), .val (.int ((p1 &&& (2147483647 : Int32)) % (10000 : Int32))), .val (.int ((p2 &&& (2147483647 : Int32)) % (13 : Int32))), .val (.int ((p3 &&& (2147483647 : Int32)) % ((own_ml ((p1 &&& (2147483647 : Int32)) % (10000 : Int32)) ((p2 &&& (2147483647 : Int32)) % (13 : Int32))) + (1 : Int32)))), .val (.int ((p4 &&& (2147483647 : Int32)) % (24 : Int32))), .val (.int ((p5 &&& (2147483647 : Int32)) % (60 : Int32))), .val (.int ((p6 &&& (2147483647 : Int32)) % (60 : Int32))), .val (.ref b2), .unset, .unset] [(.long (((((((p1 &&& (2147483647 : Int32)) % (10000 : Int32)).toInt64) * (10000000000 : Int64)) + ((((p2 &&& (2147483647 : Int32)) % (13 : Int32)).toInt64) * (100000000 : Int64))) + ((((p3 &&& (2147483647 : Int32)) % ((own_ml ((p1 &&& (2147483647 : Int32)) % (10000 : Int32)) ((p2 &&& (2147483647 : Int32)) % (13 : Int32))) + (1 : Int32))).toInt64) * (1000000 : Int64))) + ((((p4 &&& (2147483647 : Int32)) % (24 : Int32)).toInt64) * (10000 : Int64))))]))
  refine Go.of (fun t k => XS.iload X5.here hx rfl (hb hby at_116) rfl k) ?_
  show Go _ _ _ _ _ _ _ (T5.setTop (mkF m 118 #[.val (.int p1), .val (.int p2), .val (.int p3), .val (.int p4), .val (.int p5), .val (.int p6), .val (.int ((p1 &&& (2147483647 : Int32)) % (10000 : Int32))), .val (.int ((p2 &&& (2147483647 : Int32)) % (13 : Int32))), .val (.int ((p3 &&& (2147483647 : Int32)) % ((own_ml ((p1 &&& (2147483647 : Int32)) % (10000 : Int32)) ((p2 &&& (2147483647 : Int32)) % (13 : Int32))) + (1 : Int32)))), .val (.int ((p4 &&& (2147483647 : Int32)) % (24 : Int32))), .val (.int ((p5 &&& (2147483647 : Int32)) % (60 : Int32))), .val (.int ((p6 &&& (2147483647 : Int32)) % (60 : Int32))), .val (.ref b2), .unset, .unset] [(.int ((p5 &&& (2147483647 : Int32)) % (60 : Int32))), (.long (((((((p1 &&& (2147483647 : Int32)) % (10000 : Int32)).toInt64) * (10000000000 : Int64)) + ((((p2 &&& (2147483647 : Int32)) % (13 : Int32)).toInt64) * (100000000 : Int64))) + ((((p3 &&& (2147483647 : Int32)) % ((own_ml ((p1 &&& (2147483647 : Int32)) % (10000 : Int32)) ((p2 &&& (2147483647 : Int32)) % (13 : Int32))) + (1 : Int32))).toInt64) * (1000000 : Int64))) + ((((p4 &&& (2147483647 : Int32)) % (24 : Int32)).toInt64) * (10000 : Int64))))]))
  refine Go.of (fun t k => XS.i2l X5.here hx rfl (hb hby at_118) rfl k) ?_
  show Go _ _ _ _ _ _ _ (T5.setTop (mkF m 119 #[.val (.int p1), .val (.int p2), .val (.int p3), .val (.int p4), .val (.int p5), .val (.int p6), .val (.int ((p1 &&& (2147483647 : Int32)) % (10000 : Int32))), .val (.int ((p2 &&& (2147483647 : Int32)) % (13 : Int32))), .val (.int ((p3 &&& (2147483647 : Int32)) % ((own_ml ((p1 &&& (2147483647 : Int32)) % (10000 : Int32)) ((p2 &&& (2147483647 : Int32)) % (13 : Int32))) + (1 : Int32)))), .val (.int ((p4 &&& (2147483647 : Int32)) % (24 : Int32))), .val (.int ((p5 &&& (2147483647 : Int32)) % (60 : Int32))), .val (.int ((p6 &&& (2147483647 : Int32)) % (60 : Int32))), .val (.ref b2), .unset, .unset] [(.long (((p5 &&& (2147483647 : Int32)) % (60 : Int32)).toInt64)), (.long (((((((p1 &&& (2147483647 : Int32)) % (10000 : Int32)).toInt64) * (10000000000 : Int64)) + ((((p2 &&& (2147483647 : Int32)) % (13 : Int32)).toInt64) * (100000000 : Int64))) + ((((p3 &&& (2147483647 : Int32)) % ((own_ml ((p1 &&& (2147483647 : Int32)) % (10000 : Int32)) ((p2 &&& (2147483647 : Int32)) % (13 : Int32))) + (1 : Int32))).toInt64) * (1000000 : Int64))) + ((((p4 &&& (2147483647 : Int32)) % (24 : Int32)).toInt64) * (10000 : Int64))))]))
  refine Go.of (fun t k => X5.ldc2Long hx hown (mvT hZ (hw _ (List.mem_of_getElem? (i := 63) rfl))) (g := (mkF m 119 #[.val (.int p1), .val (.int p2), .val (.int p3), .val (.int p4), .val (.int p5), .val (.int p6), .val (.int ((p1 &&& (2147483647 : Int32)) % (10000 : Int32))), .val (.int ((p2 &&& (2147483647 : Int32)) % (13 : Int32))), .val (.int ((p3 &&& (2147483647 : Int32)) % ((own_ml ((p1 &&& (2147483647 : Int32)) % (10000 : Int32)) ((p2 &&& (2147483647 : Int32)) % (13 : Int32))) + (1 : Int32)))), .val (.int ((p4 &&& (2147483647 : Int32)) % (24 : Int32))), .val (.int ((p5 &&& (2147483647 : Int32)) % (60 : Int32))), .val (.int ((p6 &&& (2147483647 : Int32)) % (60 : Int32))), .val (.ref b2), .unset, .unset] [(.long (((p5 &&& (2147483647 : Int32)) % (60 : Int32)).toInt64)), (.long (((((((p1 &&& (2147483647 : Int32)) % (10000 : Int32)).toInt64) * (10000000000 : Int64)) + ((((p2 &&& (2147483647 : Int32)) % (13 : Int32)).toInt64) * (100000000 : Int64))) + ((((p3 &&& (2147483647 : Int32)) % ((own_ml ((p1 &&& (2147483647 : Int32)) % (10000 : Int32)) ((p2 &&& (2147483647 : Int32)) % (13 : Int32))) + (1 : Int32))).toInt64) * (1000000 : Int64))) + ((((p4 &&& (2147483647 : Int32)) % (24 : Int32)).toInt64) * (10000 : Int64))))])) rfl (hb hby at_119) _ k) ?_
  show Go _ _ _ _ _ _ _ (T5.setTop (mkF m 122 #[.val (.int p1), .val (.int p2), .val (.int p3), .val (.int p4), .val (.int p5), .val (.int p6), .val (.int ((p1 &&& (2147483647 : Int32)) % (10000 : Int32))), .val (.int ((p2 &&& (2147483647 : Int32)) % (13 : Int32))), .val (.int ((p3 &&& (2147483647 : Int32)) % ((own_ml ((p1 &&& (2147483647 : Int32)) % (10000 : Int32)) ((p2 &&& (2147483647 : Int32)) % (13 : Int32))) + (1 : Int32)))), .val (.int ((p4 &&& (2147483647 : Int32)) % (24 : Int32))), .val (.int ((p5 &&& (2147483647 : Int32)) % (60 : Int32))), .val (.int ((p6 &&& (2147483647 : Int32)) % (60 : Int32))), .val (.ref b2), .unset, .unset] [(.long (100 : Int64)), (.long (((p5 &&& (2147483647 : Int32)) % (60 : Int32)).toInt64)), (.long (((((((p1 &&& (2147483647 : Int32)) % (10000 : Int32)).toInt64) * (10000000000 : Int64)) + ((((p2 &&& (2147483647 : Int32)) % (13 : Int32)).toInt64) * (100000000 : Int64))) + ((((p3 &&& (2147483647 : Int32)) % ((own_ml ((p1 &&& (2147483647 : Int32)) % (10000 : Int32)) ((p2 &&& (2147483647 : Int32)) % (13 : Int32))) + (1 : Int32))).toInt64) * (1000000 : Int64))) + ((((p4 &&& (2147483647 : Int32)) % (24 : Int32)).toInt64) * (10000 : Int64))))]))
  refine Go.of (fun t k => XS.lmul X5.here hx rfl (hb hby at_122) rfl k) ?_
  show Go _ _ _ _ _ _ _ (T5.setTop (mkF m 123 #[.val (.int p1), .val (.int p2), .val (.int p3), .val (.int p4), .val (.int p5), .val (.int p6), .val (.int ((p1 &&& (2147483647 : Int32)) % (10000 : Int32))), .val (.int ((p2 &&& (2147483647 : Int32)) % (13 : Int32))), .val (.int ((p3 &&& (2147483647 : Int32)) % ((own_ml ((p1 &&& (2147483647 : Int32)) % (10000 : Int32)) ((p2 &&& (2147483647 : Int32)) % (13 : Int32))) + (1 : Int32)))), .val (.int ((p4 &&& (2147483647 : Int32)) % (24 : Int32))), .val (.int ((p5 &&& (2147483647 : Int32)) % (60 : Int32))), .val (.int ((p6 &&& (2147483647 : Int32)) % (60 : Int32))), .val (.ref b2), .unset, .unset] [(.long ((((p5 &&& (2147483647 : Int32)) % (60 : Int32)).toInt64) * (100 : Int64))), (.long (((((((p1 &&& (2147483647 : Int32)) % (10000 : Int32)).toInt64) * (10000000000 : Int64)) + ((((p2 &&& (2147483647 : Int32)) % (13 : Int32)).toInt64) * (100000000 : Int64))) + ((((p3 &&& (2147483647 : Int32)) % ((own_ml ((p1 &&& (2147483647 : Int32)) % (10000 : Int32)) ((p2 &&& (2147483647 : Int32)) % (13 : Int32))) + (1 : Int32))).toInt64) * (1000000 : Int64))) + ((((p4 &&& (2147483647 : Int32)) % (24 : Int32)).toInt64) * (10000 : Int64))))]))
  refine Go.of (fun t k => XS.ladd X5.here hx rfl (hb hby at_123) rfl k) ?_
  show Go _ _ _ _ _ _ _ (T5.setTop (mkF m 124 #[.val (.int p1), .val (.int p2), .val (.int p3), .val (.int p4), .val (.int p5), .val (.int p6), .val (.int ((p1 &&& (2147483647 : Int32)) % (10000 : Int32))), .val (.int ((p2 &&& (2147483647 : Int32)) % (13 : Int32))), .val (.int ((p3 &&& (2147483647 : Int32)) % ((own_ml ((p1 &&& (2147483647 : Int32)) % (10000 : Int32)) ((p2 &&& (2147483647 : Int32)) % (13 : Int32))) + (1 : Int32)))), .val (.int ((p4 &&& (2147483647 : Int32)) % (24 : Int32))), .val (.int ((p5 &&& (2147483647 : Int32)) % (60 : Int32))), .val (.int ((p6 &&& (2147483647 : Int32)) % (60 : Int32))), .val (.ref b2), .unset, .unset] [(.long ((((((((p1 &&& (2147483647 : Int32)) % (10000 : Int32)).toInt64) * (10000000000 : Int64)) + ((((p2 &&& (2147483647 : Int32)) % (13 : Int32)).toInt64) * (100000000 : Int64))) + ((((p3 &&& (2147483647 : Int32)) % ((own_ml ((p1 &&& (2147483647 : Int32)) % (10000 : Int32)) ((p2 &&& (2147483647 : Int32)) % (13 : Int32))) + (1 : Int32))).toInt64) * (1000000 : Int64))) + ((((p4 &&& (2147483647 : Int32)) % (24 : Int32)).toInt64) * (10000 : Int64))) + ((((p5 &&& (2147483647 : Int32)) % (60 : Int32)).toInt64) * (100 : Int64))))]))
  refine Go.of (fun t k => XS.iload X5.here hx rfl (hb hby at_124) rfl k) ?_
  show Go _ _ _ _ _ _ _ (T5.setTop (mkF m 126 #[.val (.int p1), .val (.int p2), .val (.int p3), .val (.int p4), .val (.int p5), .val (.int p6), .val (.int ((p1 &&& (2147483647 : Int32)) % (10000 : Int32))), .val (.int ((p2 &&& (2147483647 : Int32)) % (13 : Int32))), .val (.int ((p3 &&& (2147483647 : Int32)) % ((own_ml ((p1 &&& (2147483647 : Int32)) % (10000 : Int32)) ((p2 &&& (2147483647 : Int32)) % (13 : Int32))) + (1 : Int32)))), .val (.int ((p4 &&& (2147483647 : Int32)) % (24 : Int32))), .val (.int ((p5 &&& (2147483647 : Int32)) % (60 : Int32))), .val (.int ((p6 &&& (2147483647 : Int32)) % (60 : Int32))), .val (.ref b2), .unset, .unset] [(.int ((p6 &&& (2147483647 : Int32)) % (60 : Int32))), (.long ((((((((p1 &&& (2147483647 : Int32)) % (10000 : Int32)).toInt64) * (10000000000 : Int64)) + ((((p2 &&& (2147483647 : Int32)) % (13 : Int32)).toInt64) * (100000000 : Int64))) + ((((p3 &&& (2147483647 : Int32)) % ((own_ml ((p1 &&& (2147483647 : Int32)) % (10000 : Int32)) ((p2 &&& (2147483647 : Int32)) % (13 : Int32))) + (1 : Int32))).toInt64) * (1000000 : Int64))) + ((((p4 &&& (2147483647 : Int32)) % (24 : Int32)).toInt64) * (10000 : Int64))) + ((((p5 &&& (2147483647 : Int32)) % (60 : Int32)).toInt64) * (100 : Int64))))]))
  refine Go.of (fun t k => XS.i2l X5.here hx rfl (hb hby at_126) rfl k) ?_
  show Go _ _ _ _ _ _ _ (T5.setTop (mkF m 127 #[.val (.int p1), .val (.int p2), .val (.int p3), .val (.int p4), .val (.int p5), .val (.int p6), .val (.int ((p1 &&& (2147483647 : Int32)) % (10000 : Int32))), .val (.int ((p2 &&& (2147483647 : Int32)) % (13 : Int32))), .val (.int ((p3 &&& (2147483647 : Int32)) % ((own_ml ((p1 &&& (2147483647 : Int32)) % (10000 : Int32)) ((p2 &&& (2147483647 : Int32)) % (13 : Int32))) + (1 : Int32)))), .val (.int ((p4 &&& (2147483647 : Int32)) % (24 : Int32))), .val (.int ((p5 &&& (2147483647 : Int32)) % (60 : Int32))), .val (.int ((p6 &&& (2147483647 : Int32)) % (60 : Int32))), .val (.ref b2), .unset, .unset] [(.long (((p6 &&& (2147483647 : Int32)) % (60 : Int32)).toInt64)), (.long ((((((((p1 &&& (2147483647 : Int32)) % (10000 : Int32)).toInt64) * (10000000000 : Int64)) + ((((p2 &&& (2147483647 : Int32)) % (13 : Int32)).toInt64) * (100000000 : Int64))) + ((((p3 &&& (2147483647 : Int32)) % ((own_ml ((p1 &&& (2147483647 : Int32)) % (10000 : Int32)) ((p2 &&& (2147483647 : Int32)) % (13 : Int32))) + (1 : Int32))).toInt64) * (1000000 : Int64))) + ((((p4 &&& (2147483647 : Int32)) % (24 : Int32)).toInt64) * (10000 : Int64))) + ((((p5 &&& (2147483647 : Int32)) % (60 : Int32)).toInt64) * (100 : Int64))))]))
  refine Go.of (fun t k => XS.ladd X5.here hx rfl (hb hby at_127) rfl k) ?_
  show Go _ _ _ _ _ _ _ (T5.setTop (mkF m 128 #[.val (.int p1), .val (.int p2), .val (.int p3), .val (.int p4), .val (.int p5), .val (.int p6), .val (.int ((p1 &&& (2147483647 : Int32)) % (10000 : Int32))), .val (.int ((p2 &&& (2147483647 : Int32)) % (13 : Int32))), .val (.int ((p3 &&& (2147483647 : Int32)) % ((own_ml ((p1 &&& (2147483647 : Int32)) % (10000 : Int32)) ((p2 &&& (2147483647 : Int32)) % (13 : Int32))) + (1 : Int32)))), .val (.int ((p4 &&& (2147483647 : Int32)) % (24 : Int32))), .val (.int ((p5 &&& (2147483647 : Int32)) % (60 : Int32))), .val (.int ((p6 &&& (2147483647 : Int32)) % (60 : Int32))), .val (.ref b2), .unset, .unset] [(.long (((((((((p1 &&& (2147483647 : Int32)) % (10000 : Int32)).toInt64) * (10000000000 : Int64)) + ((((p2 &&& (2147483647 : Int32)) % (13 : Int32)).toInt64) * (100000000 : Int64))) + ((((p3 &&& (2147483647 : Int32)) % ((own_ml ((p1 &&& (2147483647 : Int32)) % (10000 : Int32)) ((p2 &&& (2147483647 : Int32)) % (13 : Int32))) + (1 : Int32))).toInt64) * (1000000 : Int64))) + ((((p4 &&& (2147483647 : Int32)) % (24 : Int32)).toInt64) * (10000 : Int64))) + ((((p5 &&& (2147483647 : Int32)) % (60 : Int32)).toInt64) * (100 : Int64))) + (((p6 &&& (2147483647 : Int32)) % (60 : Int32)).toInt64)))]))
  refine Go.of (fun t k => XS.lstore X5.here hx rfl (hb hby at_128) rfl (l' := #[.val (.int p1), .val (.int p2), .val (.int p3), .val (.int p4), .val (.int p5), .val (.int p6), .val (.int ((p1 &&& (2147483647 : Int32)) % (10000 : Int32))), .val (.int ((p2 &&& (2147483647 : Int32)) % (13 : Int32))), .val (.int ((p3 &&& (2147483647 : Int32)) % ((own_ml ((p1 &&& (2147483647 : Int32)) % (10000 : Int32)) ((p2 &&& (2147483647 : Int32)) % (13 : Int32))) + (1 : Int32)))), .val (.int ((p4 &&& (2147483647 : Int32)) % (24 : Int32))), .val (.int ((p5 &&& (2147483647 : Int32)) % (60 : Int32))), .val (.int ((p6 &&& (2147483647 : Int32)) % (60 : Int32))), .val (.ref b2), .val (.long (((((((((p1 &&& (2147483647 : Int32)) % (10000 : Int32)).toInt64) * (10000000000 : Int64)) + ((((p2 &&& (2147483647 : Int32)) % (13 : Int32)).toInt64) * (100000000 : Int64))) + ((((p3 &&& (2147483647 : Int32)) % ((own_ml ((p1 &&& (2147483647 : Int32)) % (10000 : Int32)) ((p2 &&& (2147483647 : Int32)) % (13 : Int32))) + (1 : Int32))).toInt64) * (1000000 : Int64))) + ((((p4 &&& (2147483647 : Int32)) % (24 : Int32)).toInt64) * (10000 : Int64))) + ((((p5 &&& (2147483647 : Int32)) % (60 : Int32)).toInt64) * (100 : Int64))) + (((p6 &&& (2147483647 : Int32)) % (60 : Int32)).toInt64))), .second]) rfl k) ?_
  show Go _ _ _ _ _ _ _ (T5.setTop (mkF m 130 #[.val (.int p1), .val (.int p2), .val (.int p3), .val (.int p4), .val (.int p5), .val (.int p6), .val (.int ((p1 &&& (2147483647 : Int32)) % (10000 : Int32))), .val (.int ((p2 &&& (2147483647 : Int32)) % (13 : Int32))), .val (.int ((p3 &&& (2147483647 : Int32)) % ((own_ml ((p1 &&& (2147483647 : Int32)) % (10000 : Int32)) ((p2 &&& (2147483647 : Int32)) % (13 : Int32))) + (1 : Int32)))), .val (.int ((p4 &&& (2147483647 : Int32)) % (24 : Int32))), .val (.int ((p5 &&& (2147483647 : Int32)) % (60 : Int32))), .val (.int ((p6 &&& (2147483647 : Int32)) % (60 : Int32))), .val (.ref b2), .val (.long (((((((((p1 &&& (2147483647 : Int32)) % (10000 : Int32)).toInt64) * (10000000000 : Int64)) + ((((p2 &&& (2147483647 : Int32)) % (13 : Int32)).toInt64) * (100000000 : Int64))) + ((((p3 &&& (2147483647 : Int32)) % ((own_ml ((p1 &&& (2147483647 : Int32)) % (10000 : Int32)) ((p2 &&& (2147483647 : Int32)) % (13 : Int32))) + (1 : Int32))).toInt64) * (1000000 : Int64))) + ((((p4 &&& (2147483647 : Int32)) % (24 : Int32)).toInt64) * (10000 : Int64))) + ((((p5 &&& (2147483647 : Int32)) % (60 : Int32)).toInt64) * (100 : Int64))) + (((p6 &&& (2147483647 : Int32)) % (60 : Int32)).toInt64))), .second] []))
  refine Go.of (fun t k => XS.aload X5.here hx rfl (hb hby at_130) rfl rfl k) ?_
  show Go _ _ _ _ _ _ _ (T5.setTop (mkF m 132 #[.val (.int p1), .val (.int p2), .val (.int p3), .val (.int p4), .val (.int p5), .val (.int p6), .val (.int ((p1 &&& (2147483647 : Int32)) % (10000 : Int32))), .val (.int ((p2 &&& (2147483647 : Int32)) % (13 : Int32))), .val (.int ((p3 &&& (2147483647 : Int32)) % ((own_ml ((p1 &&& (2147483647 : Int32)) % (10000 : Int32)) ((p2 &&& (2147483647 : Int32)) % (13 : Int32))) + (1 : Int32)))), .val (.int ((p4 &&& (2147483647 : Int32)) % (24 : Int32))), .val (.int ((p5 &&& (2147483647 : Int32)) % (60 : Int32))), .val (.int ((p6 &&& (2147483647 : Int32)) % (60 : Int32))), .val (.ref b2), .val (.long (((((((((p1 &&& (2147483647 : Int32)) % (10000 : Int32)).toInt64) * (10000000000 : Int64)) + ((((p2 &&& (2147483647 : Int32)) % (13 : Int32)).toInt64) * (100000000 : Int64))) + ((((p3 &&& (2147483647 : Int32)) % ((own_ml ((p1 &&& (2147483647 : Int32)) % (10000 : Int32)) ((p2 &&& (2147483647 : Int32)) % (13 : Int32))) + (1 : Int32))).toInt64) * (1000000 : Int64))) + ((((p4 &&& (2147483647 : Int32)) % (24 : Int32)).toInt64) * (10000 : Int64))) + ((((p5 &&& (2147483647 : Int32)) % (60 : Int32)).toInt64) * (100 : Int64))) + (((p6 &&& (2147483647 : Int32)) % (60 : Int32)).toInt64))), .second] [(.ref b2)]))
  obtain ⟨cq7, kq7, q7a, q7b, q7c⟩ := isOf hZ rfl Ex5
  obtain ⟨_, _, ⟨T7, L7, k7, n7⟩, -, X7, ⟨Lc7, hQ7, l7, y7, z7⟩, st7⟩ := X5.virtualBack hx (y := (⟨"com/example/live_alter/livealter/schema/Datetime", "digits", "()J"⟩ : MethodName)) (z := (⟨"com/example/live_alter/livealter/schema/Datetime", "digits", "()J"⟩ : MethodName)) hown (mvT hZ (hw _ (List.mem_of_getElem? (i := 64) rfl))) (mvT hZ (hw _ (List.mem_of_getElem? (i := 65) rfl))) (notFace_of_selects (args := #[]) (mvT hZ (hw _ (List.mem_of_getElem? (i := 67) rfl)))) (mvT hZ (hw _ (List.mem_of_getElem? (i := 67) rfl))) (mvT hZ (hw _ (List.mem_of_getElem? (i := 66) rfl))) (by decide) (backOf (W := 0) (rm11 l Z a0 hw [] b2 ((p1 &&& (2147483647 : Int32)) % (10000 : Int32)) ((p2 &&& (2147483647 : Int32)) % (13 : Int32)) ((p3 &&& (2147483647 : Int32)) % ((own_ml ((p1 &&& (2147483647 : Int32)) % (10000 : Int32)) ((p2 &&& (2147483647 : Int32)) % (13 : Int32))) + (1 : Int32))) ((p4 &&& (2147483647 : Int32)) % (24 : Int32)) ((p5 &&& (2147483647 : Int32)) % (60 : Int32)) ((p6 &&& (2147483647 : Int32)) % (60 : Int32)) T5.heap n0 (by omega) Fa5 Fb5 Fc5 Fd5 Fe5 Ff5) hZ (hw _ (List.mem_of_getElem? (i := 68) rfl)) (hw _ (List.mem_of_getElem? (i := 7) rfl)) (by decide) (by decide)) q7a q7c (g := (mkF m 132 #[.val (.int p1), .val (.int p2), .val (.int p3), .val (.int p4), .val (.int p5), .val (.int p6), .val (.int ((p1 &&& (2147483647 : Int32)) % (10000 : Int32))), .val (.int ((p2 &&& (2147483647 : Int32)) % (13 : Int32))), .val (.int ((p3 &&& (2147483647 : Int32)) % ((own_ml ((p1 &&& (2147483647 : Int32)) % (10000 : Int32)) ((p2 &&& (2147483647 : Int32)) % (13 : Int32))) + (1 : Int32)))), .val (.int ((p4 &&& (2147483647 : Int32)) % (24 : Int32))), .val (.int ((p5 &&& (2147483647 : Int32)) % (60 : Int32))), .val (.int ((p6 &&& (2147483647 : Int32)) % (60 : Int32))), .val (.ref b2), .val (.long (((((((((p1 &&& (2147483647 : Int32)) % (10000 : Int32)).toInt64) * (10000000000 : Int64)) + ((((p2 &&& (2147483647 : Int32)) % (13 : Int32)).toInt64) * (100000000 : Int64))) + ((((p3 &&& (2147483647 : Int32)) % ((own_ml ((p1 &&& (2147483647 : Int32)) % (10000 : Int32)) ((p2 &&& (2147483647 : Int32)) % (13 : Int32))) + (1 : Int32))).toInt64) * (1000000 : Int64))) + ((((p4 &&& (2147483647 : Int32)) % (24 : Int32)).toInt64) * (10000 : Int64))) + ((((p5 &&& (2147483647 : Int32)) % (60 : Int32)).toInt64) * (100 : Int64))) + (((p6 &&& (2147483647 : Int32)) % (60 : Int32)).toInt64))), .second] [(.ref b2)])) rfl (by rw [hml]; rfl) (Steps.refl _) (argsL := []) (rest := []) (lenOf pd_9 rfl) rfl (by show 2 * 0 + _ ≤ _; exact Nat.le_of_eq rfl) (hb hby at_132) (fun _ _ => ⟨rfl, rfl, (by decide : 1 + 0 ≤ _), (by decide : 6 + 0 ≤ _)⟩)
  dsimp only [Pt.U, Pt.locs, Pt.cells, Pt.slots] at X7 l7 y7 z7 st7 hQ7
  subst l7 y7 z7
  obtain ⟨rfl, N7q, e7⟩ := hQ7
  have N7 := Fr.app N5 N7q
  refine Go.tr st7 ?_
  show Go _ _ _ _ _ _ _ (T7.setTop (mkF m 135 #[.val (.int p1), .val (.int p2), .val (.int p3), .val (.int p4), .val (.int p5), .val (.int p6), .val (.int ((p1 &&& (2147483647 : Int32)) % (10000 : Int32))), .val (.int ((p2 &&& (2147483647 : Int32)) % (13 : Int32))), .val (.int ((p3 &&& (2147483647 : Int32)) % ((own_ml ((p1 &&& (2147483647 : Int32)) % (10000 : Int32)) ((p2 &&& (2147483647 : Int32)) % (13 : Int32))) + (1 : Int32)))), .val (.int ((p4 &&& (2147483647 : Int32)) % (24 : Int32))), .val (.int ((p5 &&& (2147483647 : Int32)) % (60 : Int32))), .val (.int ((p6 &&& (2147483647 : Int32)) % (60 : Int32))), .val (.ref b2), .val (.long (((((((((p1 &&& (2147483647 : Int32)) % (10000 : Int32)).toInt64) * (10000000000 : Int64)) + ((((p2 &&& (2147483647 : Int32)) % (13 : Int32)).toInt64) * (100000000 : Int64))) + ((((p3 &&& (2147483647 : Int32)) % ((own_ml ((p1 &&& (2147483647 : Int32)) % (10000 : Int32)) ((p2 &&& (2147483647 : Int32)) % (13 : Int32))) + (1 : Int32))).toInt64) * (1000000 : Int64))) + ((((p4 &&& (2147483647 : Int32)) % (24 : Int32)).toInt64) * (10000 : Int64))) + ((((p5 &&& (2147483647 : Int32)) % (60 : Int32)).toInt64) * (100 : Int64))) + (((p6 &&& (2147483647 : Int32)) % (60 : Int32)).toInt64))), .second] [(.long (own_dig ((p1 &&& (2147483647 : Int32)) % (10000 : Int32)) ((p2 &&& (2147483647 : Int32)) % (13 : Int32)) ((p3 &&& (2147483647 : Int32)) % ((own_ml ((p1 &&& (2147483647 : Int32)) % (10000 : Int32)) ((p2 &&& (2147483647 : Int32)) % (13 : Int32))) + (1 : Int32))) ((p4 &&& (2147483647 : Int32)) % (24 : Int32)) ((p5 &&& (2147483647 : Int32)) % (60 : Int32)) ((p6 &&& (2147483647 : Int32)) % (60 : Int32))))]))
  refine Go.of (fun t k => XS.lload X7.here hx rfl (hb hby at_135) rfl k) ?_
  show Go _ _ _ _ _ _ _ (T7.setTop (mkF m 137 #[.val (.int p1), .val (.int p2), .val (.int p3), .val (.int p4), .val (.int p5), .val (.int p6), .val (.int ((p1 &&& (2147483647 : Int32)) % (10000 : Int32))), .val (.int ((p2 &&& (2147483647 : Int32)) % (13 : Int32))), .val (.int ((p3 &&& (2147483647 : Int32)) % ((own_ml ((p1 &&& (2147483647 : Int32)) % (10000 : Int32)) ((p2 &&& (2147483647 : Int32)) % (13 : Int32))) + (1 : Int32)))), .val (.int ((p4 &&& (2147483647 : Int32)) % (24 : Int32))), .val (.int ((p5 &&& (2147483647 : Int32)) % (60 : Int32))), .val (.int ((p6 &&& (2147483647 : Int32)) % (60 : Int32))), .val (.ref b2), .val (.long (((((((((p1 &&& (2147483647 : Int32)) % (10000 : Int32)).toInt64) * (10000000000 : Int64)) + ((((p2 &&& (2147483647 : Int32)) % (13 : Int32)).toInt64) * (100000000 : Int64))) + ((((p3 &&& (2147483647 : Int32)) % ((own_ml ((p1 &&& (2147483647 : Int32)) % (10000 : Int32)) ((p2 &&& (2147483647 : Int32)) % (13 : Int32))) + (1 : Int32))).toInt64) * (1000000 : Int64))) + ((((p4 &&& (2147483647 : Int32)) % (24 : Int32)).toInt64) * (10000 : Int64))) + ((((p5 &&& (2147483647 : Int32)) % (60 : Int32)).toInt64) * (100 : Int64))) + (((p6 &&& (2147483647 : Int32)) % (60 : Int32)).toInt64))), .second] [(.long (((((((((p1 &&& (2147483647 : Int32)) % (10000 : Int32)).toInt64) * (10000000000 : Int64)) + ((((p2 &&& (2147483647 : Int32)) % (13 : Int32)).toInt64) * (100000000 : Int64))) + ((((p3 &&& (2147483647 : Int32)) % ((own_ml ((p1 &&& (2147483647 : Int32)) % (10000 : Int32)) ((p2 &&& (2147483647 : Int32)) % (13 : Int32))) + (1 : Int32))).toInt64) * (1000000 : Int64))) + ((((p4 &&& (2147483647 : Int32)) % (24 : Int32)).toInt64) * (10000 : Int64))) + ((((p5 &&& (2147483647 : Int32)) % (60 : Int32)).toInt64) * (100 : Int64))) + (((p6 &&& (2147483647 : Int32)) % (60 : Int32)).toInt64))), (.long (own_dig ((p1 &&& (2147483647 : Int32)) % (10000 : Int32)) ((p2 &&& (2147483647 : Int32)) % (13 : Int32)) ((p3 &&& (2147483647 : Int32)) % ((own_ml ((p1 &&& (2147483647 : Int32)) % (10000 : Int32)) ((p2 &&& (2147483647 : Int32)) % (13 : Int32))) + (1 : Int32))) ((p4 &&& (2147483647 : Int32)) % (24 : Int32)) ((p5 &&& (2147483647 : Int32)) % (60 : Int32)) ((p6 &&& (2147483647 : Int32)) % (60 : Int32))))]))
  refine Go.of (fun t k => XS.lcmp X7.here hx rfl (hb hby at_137) rfl k) ?_
  show Go _ _ _ _ _ _ _ (T7.setTop (mkF m 138 #[.val (.int p1), .val (.int p2), .val (.int p3), .val (.int p4), .val (.int p5), .val (.int p6), .val (.int ((p1 &&& (2147483647 : Int32)) % (10000 : Int32))), .val (.int ((p2 &&& (2147483647 : Int32)) % (13 : Int32))), .val (.int ((p3 &&& (2147483647 : Int32)) % ((own_ml ((p1 &&& (2147483647 : Int32)) % (10000 : Int32)) ((p2 &&& (2147483647 : Int32)) % (13 : Int32))) + (1 : Int32)))), .val (.int ((p4 &&& (2147483647 : Int32)) % (24 : Int32))), .val (.int ((p5 &&& (2147483647 : Int32)) % (60 : Int32))), .val (.int ((p6 &&& (2147483647 : Int32)) % (60 : Int32))), .val (.ref b2), .val (.long (((((((((p1 &&& (2147483647 : Int32)) % (10000 : Int32)).toInt64) * (10000000000 : Int64)) + ((((p2 &&& (2147483647 : Int32)) % (13 : Int32)).toInt64) * (100000000 : Int64))) + ((((p3 &&& (2147483647 : Int32)) % ((own_ml ((p1 &&& (2147483647 : Int32)) % (10000 : Int32)) ((p2 &&& (2147483647 : Int32)) % (13 : Int32))) + (1 : Int32))).toInt64) * (1000000 : Int64))) + ((((p4 &&& (2147483647 : Int32)) % (24 : Int32)).toInt64) * (10000 : Int64))) + ((((p5 &&& (2147483647 : Int32)) % (60 : Int32)).toInt64) * (100 : Int64))) + (((p6 &&& (2147483647 : Int32)) % (60 : Int32)).toInt64))), .second] [(.int (lcmpW (own_dig ((p1 &&& (2147483647 : Int32)) % (10000 : Int32)) ((p2 &&& (2147483647 : Int32)) % (13 : Int32)) ((p3 &&& (2147483647 : Int32)) % ((own_ml ((p1 &&& (2147483647 : Int32)) % (10000 : Int32)) ((p2 &&& (2147483647 : Int32)) % (13 : Int32))) + (1 : Int32))) ((p4 &&& (2147483647 : Int32)) % (24 : Int32)) ((p5 &&& (2147483647 : Int32)) % (60 : Int32)) ((p6 &&& (2147483647 : Int32)) % (60 : Int32))) (((((((((p1 &&& (2147483647 : Int32)) % (10000 : Int32)).toInt64) * (10000000000 : Int64)) + ((((p2 &&& (2147483647 : Int32)) % (13 : Int32)).toInt64) * (100000000 : Int64))) + ((((p3 &&& (2147483647 : Int32)) % ((own_ml ((p1 &&& (2147483647 : Int32)) % (10000 : Int32)) ((p2 &&& (2147483647 : Int32)) % (13 : Int32))) + (1 : Int32))).toInt64) * (1000000 : Int64))) + ((((p4 &&& (2147483647 : Int32)) % (24 : Int32)).toInt64) * (10000 : Int64))) + ((((p5 &&& (2147483647 : Int32)) % (60 : Int32)).toInt64) * (100 : Int64))) + (((p6 &&& (2147483647 : Int32)) % (60 : Int32)).toInt64))))]))
  have hc138 : (lcmpW (own_dig ((p1 &&& (2147483647 : Int32)) % (10000 : Int32)) ((p2 &&& (2147483647 : Int32)) % (13 : Int32)) ((p3 &&& (2147483647 : Int32)) % ((own_ml ((p1 &&& (2147483647 : Int32)) % (10000 : Int32)) ((p2 &&& (2147483647 : Int32)) % (13 : Int32))) + (1 : Int32))) ((p4 &&& (2147483647 : Int32)) % (24 : Int32)) ((p5 &&& (2147483647 : Int32)) % (60 : Int32)) ((p6 &&& (2147483647 : Int32)) % (60 : Int32))) (((((((((p1 &&& (2147483647 : Int32)) % (10000 : Int32)).toInt64) * (10000000000 : Int64)) + ((((p2 &&& (2147483647 : Int32)) % (13 : Int32)).toInt64) * (100000000 : Int64))) + ((((p3 &&& (2147483647 : Int32)) % ((own_ml ((p1 &&& (2147483647 : Int32)) % (10000 : Int32)) ((p2 &&& (2147483647 : Int32)) % (13 : Int32))) + (1 : Int32))).toInt64) * (1000000 : Int64))) + ((((p4 &&& (2147483647 : Int32)) % (24 : Int32)).toInt64) * (10000 : Int64))) + ((((p5 &&& (2147483647 : Int32)) % (60 : Int32)).toInt64) * (100 : Int64))) + (((p6 &&& (2147483647 : Int32)) % (60 : Int32)).toInt64))) = (0 : Int32) := (lw_eq _ _).mpr (own_dig_eq _ _ _ _ _ _)
  refine Go.of (fun t k => XS.ifNo X7.here hx rfl (hb hby at_138) rfl ((if0 _ _).trans (teq hc138).2) k) ?_
  show Go _ _ _ _ _ _ _ (T7.setTop (mkF m 141 #[.val (.int p1), .val (.int p2), .val (.int p3), .val (.int p4), .val (.int p5), .val (.int p6), .val (.int ((p1 &&& (2147483647 : Int32)) % (10000 : Int32))), .val (.int ((p2 &&& (2147483647 : Int32)) % (13 : Int32))), .val (.int ((p3 &&& (2147483647 : Int32)) % ((own_ml ((p1 &&& (2147483647 : Int32)) % (10000 : Int32)) ((p2 &&& (2147483647 : Int32)) % (13 : Int32))) + (1 : Int32)))), .val (.int ((p4 &&& (2147483647 : Int32)) % (24 : Int32))), .val (.int ((p5 &&& (2147483647 : Int32)) % (60 : Int32))), .val (.int ((p6 &&& (2147483647 : Int32)) % (60 : Int32))), .val (.ref b2), .val (.long (((((((((p1 &&& (2147483647 : Int32)) % (10000 : Int32)).toInt64) * (10000000000 : Int64)) + ((((p2 &&& (2147483647 : Int32)) % (13 : Int32)).toInt64) * (100000000 : Int64))) + ((((p3 &&& (2147483647 : Int32)) % ((own_ml ((p1 &&& (2147483647 : Int32)) % (10000 : Int32)) ((p2 &&& (2147483647 : Int32)) % (13 : Int32))) + (1 : Int32))).toInt64) * (1000000 : Int64))) + ((((p4 &&& (2147483647 : Int32)) % (24 : Int32)).toInt64) * (10000 : Int64))) + ((((p5 &&& (2147483647 : Int32)) % (60 : Int32)).toInt64) * (100 : Int64))) + (((p6 &&& (2147483647 : Int32)) % (60 : Int32)).toInt64))), .second] []))
  refine Go.of (fun t k => XS.iconst X7.here hx rfl (hb hby at_141) k) ?_
  show Go _ _ _ _ _ _ _ (T7.setTop (mkF m 142 #[.val (.int p1), .val (.int p2), .val (.int p3), .val (.int p4), .val (.int p5), .val (.int p6), .val (.int ((p1 &&& (2147483647 : Int32)) % (10000 : Int32))), .val (.int ((p2 &&& (2147483647 : Int32)) % (13 : Int32))), .val (.int ((p3 &&& (2147483647 : Int32)) % ((own_ml ((p1 &&& (2147483647 : Int32)) % (10000 : Int32)) ((p2 &&& (2147483647 : Int32)) % (13 : Int32))) + (1 : Int32)))), .val (.int ((p4 &&& (2147483647 : Int32)) % (24 : Int32))), .val (.int ((p5 &&& (2147483647 : Int32)) % (60 : Int32))), .val (.int ((p6 &&& (2147483647 : Int32)) % (60 : Int32))), .val (.ref b2), .val (.long (((((((((p1 &&& (2147483647 : Int32)) % (10000 : Int32)).toInt64) * (10000000000 : Int64)) + ((((p2 &&& (2147483647 : Int32)) % (13 : Int32)).toInt64) * (100000000 : Int64))) + ((((p3 &&& (2147483647 : Int32)) % ((own_ml ((p1 &&& (2147483647 : Int32)) % (10000 : Int32)) ((p2 &&& (2147483647 : Int32)) % (13 : Int32))) + (1 : Int32))).toInt64) * (1000000 : Int64))) + ((((p4 &&& (2147483647 : Int32)) % (24 : Int32)).toInt64) * (10000 : Int64))) + ((((p5 &&& (2147483647 : Int32)) % (60 : Int32)).toInt64) * (100 : Int64))) + (((p6 &&& (2147483647 : Int32)) % (60 : Int32)).toInt64))), .second] [(.int (1 : Int32))]))
  refine Go.of (fun t k => XS.goto X7.here hx rfl (pc0 := 142) (pc' := 146) rfl (hb hby at_142) (by decide) (by decide) k) ?_
  show Go _ _ _ _ _ _ _ (T7.setTop (mkF m 146 #[.val (.int p1), .val (.int p2), .val (.int p3), .val (.int p4), .val (.int p5), .val (.int p6), .val (.int ((p1 &&& (2147483647 : Int32)) % (10000 : Int32))), .val (.int ((p2 &&& (2147483647 : Int32)) % (13 : Int32))), .val (.int ((p3 &&& (2147483647 : Int32)) % ((own_ml ((p1 &&& (2147483647 : Int32)) % (10000 : Int32)) ((p2 &&& (2147483647 : Int32)) % (13 : Int32))) + (1 : Int32)))), .val (.int ((p4 &&& (2147483647 : Int32)) % (24 : Int32))), .val (.int ((p5 &&& (2147483647 : Int32)) % (60 : Int32))), .val (.int ((p6 &&& (2147483647 : Int32)) % (60 : Int32))), .val (.ref b2), .val (.long (((((((((p1 &&& (2147483647 : Int32)) % (10000 : Int32)).toInt64) * (10000000000 : Int64)) + ((((p2 &&& (2147483647 : Int32)) % (13 : Int32)).toInt64) * (100000000 : Int64))) + ((((p3 &&& (2147483647 : Int32)) % ((own_ml ((p1 &&& (2147483647 : Int32)) % (10000 : Int32)) ((p2 &&& (2147483647 : Int32)) % (13 : Int32))) + (1 : Int32))).toInt64) * (1000000 : Int64))) + ((((p4 &&& (2147483647 : Int32)) % (24 : Int32)).toInt64) * (10000 : Int64))) + ((((p5 &&& (2147483647 : Int32)) % (60 : Int32)).toInt64) * (100 : Int64))) + (((p6 &&& (2147483647 : Int32)) % (60 : Int32)).toInt64))), .second] [(.int (1 : Int32))]))
  refine Go.out X7 (v := some (.int (1 : Int32))) (fun h => by rw [Bd.returns] at h; cases h) hlk (fun fs hr => retN X7 hx (t := .boolean) Bd.returns (by simp) (hb hby at_146) hr) ?_ (by decide) (by decide)
  show Q0 Z p1 p2 p3 p4 p5 p6 w cl mo h0 n0 _ T7.heap _
  rw [e7]
  exact ⟨rfl, N7⟩
set_option maxRecDepth 65536 in
set_option maxHeartbeats 40000000 in
theorem comes_1 {Post : Tables → Env → Array Value → State → Outcome → State → Prop} (hpost : ∀ tb e args s v u, (limb_1_1.after args s (.returned v) u = true ∧ limb_1_2.after args s (.returned v) u = true ∧ True) → FrameEnd s (.returned v) u (Jvm.fieldLocs frame_1_writes args s ++ Jvm.arrayLocs frame_1_arrays args s ++ Jvm.staticLocs frame_1_statics s) 16 128 → Post tb e args s (.returned v) u) :
    ArmFor flags0 classFile x code maxLocals ret World_1 tables_1 room_1 Calls_1 rest_1 Pre_1 Post := by
  intro l hfl _ _ p e ha hc hk s m args below hf hA hF happ hP
  obtain ⟨hcalls, hrest, hpre⟩ := hP
  obtain ⟨-, -, -, hnamed, -, -, -, hat⟩ := (Spec.applies_iff hf).mp happ
  obtain ⟨hg, hn⟩ := and_e (Cond.before_iff.mp (show (Jvm.Cond.and given_1 narrow_1).before args s = true from hpre))
  obtain ⟨g1a, g1b⟩ := and_e hg
  obtain ⟨g2a, g2b⟩ := and_e g1b
  obtain ⟨g3a, g3b⟩ := and_e g2b
  obtain ⟨g4a, g4b⟩ := and_e g3b
  obtain ⟨g5a, g5b⟩ := and_e g4b
  obtain ⟨g6a, g6b⟩ := and_e g5b
  obtain ⟨w0, w1, w2, w3, w4, w5, rfl⟩ : ∃ w0 w1 w2 w3 w4 w5 : Value, args = #[w0, w1, w2, w3, w4, w5] := by
    have hs : args.size = 6 := by simpa [Cond.value, given_1] using g1a
    obtain ⟨L⟩ := args
    match L, hs with
    | [w0, w1, w2, w3, w4, w5], _ => exact ⟨w0, w1, w2, w3, w4, w5, rfl⟩
  have hw := fun d (hd : d ∈ tables_1) => atoms_spec (ws := Jvm.Cond.code x code maxLocals ret :: tables_1) hat d (List.mem_cons_of_mem _ hd)
  have hfit : Fit s := fun {y c} hc i hi => by
    obtain ⟨ha, rfl⟩ := Array.getElem?_eq_some_iff.mp hc
    have q := List.all_eq_true.mp ((Array.all_eq_true_iff_forall_mem.mp hF) _ (Array.getElem_mem ha)) i (List.mem_range.mpr hi)
    simpa [Array.getElem?_eq_getElem hi] using q
  obtain ⟨hsets, hown0⟩ := atoms_of _ (rest_1_c_eq ▸ (show rest_1_c.before _ s = true from hrest))
  have hr0 := Cond.before_iff.mp hown0
  obtain ⟨i0, ei0⟩ := is_v g2a
  obtain rfl : w0 = (.int i0) := Option.some.inj ei0
  obtain ⟨i1, ei1⟩ := is_v g3a
  obtain rfl : w1 = (.int i1) := Option.some.inj ei1
  obtain ⟨i2, ei2⟩ := is_v g4a
  obtain rfl : w2 = (.int i2) := Option.some.inj ei2
  obtain ⟨i3, ei3⟩ := is_v g5a
  obtain rfl : w3 = (.int i3) := Option.some.inj ei3
  obtain ⟨i4, ei4⟩ := is_v g6a
  obtain rfl : w4 = (.int i4) := Option.some.inj ei4
  obtain ⟨i5, ei5⟩ := is_v g6b
  obtain rfl : w5 = (.int i5) := Option.some.inj ei5
  obtain ⟨w, ew⟩ := arr_v (Cond.before_iff.mp (hsets _ (List.mem_of_getElem? (i := 26) rfl)))
  have S0 := Sta.start ew (Or.inl (hsets _ (List.mem_of_getElem? (i := 1) rfl)))
  obtain ⟨cl, A0⟩ := Arr.start ew (Cond.before_iff.mp (hsets _ (List.mem_of_getElem? (i := 26) rfl)))
  have hat0 : s.arrayAt? w = some cl := IntBox.arrayAt_of A0.1 A0.2.1 A0.2.2
  obtain ⟨hsm, hsz⟩ := own_len_of ew hat0 (own_eqI (Cond.before_iff.mp (hsets _ (List.mem_of_getElem? (i := 28) rfl))))
  have hsize : cl.slots.size = (12 : Int32).toNatClampNeg := by rw [← hsz]; simp only [Int32.toNatClampNeg, len_toInt hsm]; rfl
  obtain ⟨a0, ea0⟩ := exa_v (Cond.before_iff.mp (hsets _ (List.mem_of_getElem? (i := 30) rfl)))
  have E0 := Exa.start ea0 (Cond.before_iff.mp (hsets _ (List.mem_of_getElem? (i := 30) rfl)))
  have F0 := Fld.start ((fld_at ea0).symm.trans (own_eqI (Cond.before_iff.mp (hsets _ (List.mem_of_getElem? (i := 32) rfl)))))
  have l0 := (elem_f ew (Term.int_eval (0 : Int32)) hat0 (by decide)).symm.trans ea0
  obtain ⟨a1, ea1⟩ := exa_v (Cond.before_iff.mp (hsets _ (List.mem_of_getElem? (i := 34) rfl)))
  have E1 := Exa.start ea1 (Cond.before_iff.mp (hsets _ (List.mem_of_getElem? (i := 34) rfl)))
  have F1 := Fld.start ((fld_at ea1).symm.trans (own_eqI (Cond.before_iff.mp (hsets _ (List.mem_of_getElem? (i := 36) rfl)))))
  have l1 := (elem_f ew (Term.int_eval (1 : Int32)) hat0 (by decide)).symm.trans ea1
  obtain ⟨a2, ea2⟩ := exa_v (Cond.before_iff.mp (hsets _ (List.mem_of_getElem? (i := 38) rfl)))
  have E2 := Exa.start ea2 (Cond.before_iff.mp (hsets _ (List.mem_of_getElem? (i := 38) rfl)))
  have F2 := Fld.start ((fld_at ea2).symm.trans (own_eqI (Cond.before_iff.mp (hsets _ (List.mem_of_getElem? (i := 40) rfl)))))
  have l2 := (elem_f ew (Term.int_eval (2 : Int32)) hat0 (by decide)).symm.trans ea2
  obtain ⟨a3, ea3⟩ := exa_v (Cond.before_iff.mp (hsets _ (List.mem_of_getElem? (i := 42) rfl)))
  have E3 := Exa.start ea3 (Cond.before_iff.mp (hsets _ (List.mem_of_getElem? (i := 42) rfl)))
  have F3 := Fld.start ((fld_at ea3).symm.trans (own_eqI (Cond.before_iff.mp (hsets _ (List.mem_of_getElem? (i := 44) rfl)))))
  have l3 := (elem_f ew (Term.int_eval (3 : Int32)) hat0 (by decide)).symm.trans ea3
  obtain ⟨a4, ea4⟩ := exa_v (Cond.before_iff.mp (hsets _ (List.mem_of_getElem? (i := 46) rfl)))
  have E4 := Exa.start ea4 (Cond.before_iff.mp (hsets _ (List.mem_of_getElem? (i := 46) rfl)))
  have F4 := Fld.start ((fld_at ea4).symm.trans (own_eqI (Cond.before_iff.mp (hsets _ (List.mem_of_getElem? (i := 48) rfl)))))
  have l4 := (elem_f ew (Term.int_eval (4 : Int32)) hat0 (by decide)).symm.trans ea4
  obtain ⟨a5, ea5⟩ := exa_v (Cond.before_iff.mp (hsets _ (List.mem_of_getElem? (i := 50) rfl)))
  have E5 := Exa.start ea5 (Cond.before_iff.mp (hsets _ (List.mem_of_getElem? (i := 50) rfl)))
  have F5 := Fld.start ((fld_at ea5).symm.trans (own_eqI (Cond.before_iff.mp (hsets _ (List.mem_of_getElem? (i := 52) rfl)))))
  have l5 := (elem_f ew (Term.int_eval (5 : Int32)) hat0 (by decide)).symm.trans ea5
  obtain ⟨a6, ea6⟩ := exa_v (Cond.before_iff.mp (hsets _ (List.mem_of_getElem? (i := 54) rfl)))
  have E6 := Exa.start ea6 (Cond.before_iff.mp (hsets _ (List.mem_of_getElem? (i := 54) rfl)))
  have F6 := Fld.start ((fld_at ea6).symm.trans (own_eqI (Cond.before_iff.mp (hsets _ (List.mem_of_getElem? (i := 56) rfl)))))
  have l6 := (elem_f ew (Term.int_eval (6 : Int32)) hat0 (by decide)).symm.trans ea6
  obtain ⟨a7, ea7⟩ := exa_v (Cond.before_iff.mp (hsets _ (List.mem_of_getElem? (i := 58) rfl)))
  have E7 := Exa.start ea7 (Cond.before_iff.mp (hsets _ (List.mem_of_getElem? (i := 58) rfl)))
  have F7 := Fld.start ((fld_at ea7).symm.trans (own_eqI (Cond.before_iff.mp (hsets _ (List.mem_of_getElem? (i := 60) rfl)))))
  have l7 := (elem_f ew (Term.int_eval (7 : Int32)) hat0 (by decide)).symm.trans ea7
  obtain ⟨a8, ea8⟩ := exa_v (Cond.before_iff.mp (hsets _ (List.mem_of_getElem? (i := 62) rfl)))
  have E8 := Exa.start ea8 (Cond.before_iff.mp (hsets _ (List.mem_of_getElem? (i := 62) rfl)))
  have F8 := Fld.start ((fld_at ea8).symm.trans (own_eqI (Cond.before_iff.mp (hsets _ (List.mem_of_getElem? (i := 64) rfl)))))
  have l8 := (elem_f ew (Term.int_eval (8 : Int32)) hat0 (by decide)).symm.trans ea8
  obtain ⟨a9, ea9⟩ := exa_v (Cond.before_iff.mp (hsets _ (List.mem_of_getElem? (i := 66) rfl)))
  have E9 := Exa.start ea9 (Cond.before_iff.mp (hsets _ (List.mem_of_getElem? (i := 66) rfl)))
  have F9 := Fld.start ((fld_at ea9).symm.trans (own_eqI (Cond.before_iff.mp (hsets _ (List.mem_of_getElem? (i := 68) rfl)))))
  have l9 := (elem_f ew (Term.int_eval (9 : Int32)) hat0 (by decide)).symm.trans ea9
  obtain ⟨a10, ea10⟩ := exa_v (Cond.before_iff.mp (hsets _ (List.mem_of_getElem? (i := 70) rfl)))
  have E10 := Exa.start ea10 (Cond.before_iff.mp (hsets _ (List.mem_of_getElem? (i := 70) rfl)))
  have F10 := Fld.start ((fld_at ea10).symm.trans (own_eqI (Cond.before_iff.mp (hsets _ (List.mem_of_getElem? (i := 72) rfl)))))
  have l10 := (elem_f ew (Term.int_eval (10 : Int32)) hat0 (by decide)).symm.trans ea10
  obtain ⟨a11, ea11⟩ := exa_v (Cond.before_iff.mp (hsets _ (List.mem_of_getElem? (i := 74) rfl)))
  have E11 := Exa.start ea11 (Cond.before_iff.mp (hsets _ (List.mem_of_getElem? (i := 74) rfl)))
  have F11 := Fld.start ((fld_at ea11).symm.trans (own_eqI (Cond.before_iff.mp (hsets _ (List.mem_of_getElem? (i := 76) rfl)))))
  have l11 := (elem_f ew (Term.int_eval (11 : Int32)) hat0 (by decide)).symm.trans ea11
  have M : own_months s s.heap w cl (fun j => ([a0, a1, a2, a3, a4, a5, a6, a7, a8, a9, a10, a11] : List Addr).getD j.toNatClampNeg 0) := by
    refine ⟨S0, A0, hsize, fun j j0 j1 => ?_⟩
    rcases own_12 j0 j1 with rfl | rfl | rfl | rfl | rfl | rfl | rfl | rfl | rfl | rfl | rfl | rfl
    · exact ⟨l0, E0, F0⟩
    · exact ⟨l1, E1, F1⟩
    · exact ⟨l2, E2, F2⟩
    · exact ⟨l3, E3, F3⟩
    · exact ⟨l4, E4, F4⟩
    · exact ⟨l5, E5, F5⟩
    · exact ⟨l6, E6, F6⟩
    · exact ⟨l7, E7, F7⟩
    · exact ⟨l8, E8, F8⟩
    · exact ⟨l9, E9, F9⟩
    · exact ⟨l10, E10, F10⟩
    · exact ⟨l11, E11, F11⟩
  obtain ⟨n, o, h1, h2, h3, _, L, rfl, ⟨rfl, N⟩, hq⟩ := rm0 l s _ hw tables_1 i0 i1 i2 i3 i4 i5 w cl _ s.heap s.heap.size (Nat.le_refl _) M p e ha hc hk s m _ below hf ((Spec.applies_iff_loose hf).mp happ).1 ⟨rfl, State.Warmed39.refl s, rfl⟩ trivial
  refine ⟨n, _, h1, h2, h3, hpost _ _ _ _ _ _ ⟨Cond.after_iff.mpr rfl, Cond.after_iff.mpr (eq_i res_at (Term.int_eval (1)) rfl), trivial⟩ ⟨hq.1, hq.2.1, (hq.2.2.sift fun y hy => Or.inr (N y hy)).mono (by decide) (by decide)⟩⟩
theorem main_1_1 : Claimed_1_1 := comes_1 fun _ _ _ _ _ _ h hF => ⟨h.1, hF⟩
theorem main_1_2 : Claimed_1_2 := comes_1 fun _ _ _ _ _ _ h hF => ⟨h.2.1, hF⟩
end Jvm.Pilot.@@N@@
namespace Jvm.Pilot.@@N@@
open Jvm Jvm.ClassFile Sem Op Lib Jvm.Free Jvm.Stand Jvm.Pilot.@@N@@.Jvm.D
/-! MADE BY PROGRAM (witnessworld.py) out of the Statement's table words and the real class files: 20 classes; the members and pool entries that the words name. The judged class is class 1, her method 2. -/
namespace start1
open Jvm.ClassFile
def u (s : String) : CpInfo := .utf8 (stringToUtf16 s)
/-- a pool by its gaps: so many unusable entries, then the entry; so many at the end -/
def gap : Nat → List CpInfo → List CpInfo
  | 0, r => r
  | n + 1, r => .unusable :: gap n r
def poolList (es : List (Nat × CpInfo)) (last : Nat) : List CpInfo := es.foldr (fun e r => gap e.1 (e.2 :: r)) (gap last [])
def pool (es : List (Nat × CpInfo)) (last : Nat) : Array CpInfo := ⟨poolList es last⟩
def fileOf (pool : Array CpInfo) (this : Nat) (attrs : Array Attribute := #[]) (ms : Array MethodInfo := #[]) (fl : Nat := 33) (sup : Nat := 0) (ifs : Array Nat := #[]) (fds : Array FieldInfo := #[]) : ClassFile where
  minorVersion := 0
  majorVersion := 65
  constantPool := pool
  accessFlags := fl
  thisClass := this
  superClass := sup
  interfaces := ifs
  fields := fds
  methods := ms
  attributes := attrs
def plain (name : String) (sup : Option ClassId) : Class where
  name := name
  kind := .ordinary
  loader := none
  accessFlags := 33
  super := sup
  interfaces := #[]
  cf := none
  fields := #[]
  methods := #[]
  instanceTypes := #[]
  staticTypes := #[]
  resolved := #[]
  callSites := []
  init := .initialized
  statics := none
  mirror := none

def pool0 : Array CpInfo := pool [(5, u "<init>"), (0, u "()V"), (1, .class_ 10), (1, u "java/lang/Object")] 113

def k0c0 : Code := { maxStack := 0, maxLocals := 1, code := object_method_1_code, exceptionTable := #[], attributes := #[] }
def k0m0 : Method := { name := "<init>", desc := "()V", sig := { parameters := [], returnType := none }, accessFlags := 1, code := some k0c0 }
/-- java/lang/Object -/
def k0 : Class := { plain "java/lang/Object" none with
  accessFlags := 33
  interfaces := #[]
  cf := some (fileOf pool0 8 #[] #[{ accessFlags := 1, nameIndex := 5, descriptorIndex := 6, attributes := #[] }] 33 0 #[] #[])
  fields := #[]
  methods := #[k0m0]
  instanceTypes := #[]
  staticTypes := #[]
  resolved := Array.replicate 124 none
  statics := none }

def pool1 : Array CpInfo := pool [(2, .class_ 4), (1, u "java/lang/Object"), (0, u "<init>"), (0, u "()V"), (0, .integer 2147483647), (0, .methodref 9 10), (0, .class_ 11), (0, .nameAndType 12 13), (0, u "com/example/live_alter/livealter/schema/DatetimeDigitsPinLaw"), (0, u "monthLength"), (0, u "(II)I"), (0, .class_ 15), (0, u "com/example/live_alter/livealter/schema/Datetime"), (0, .methodref 14 17), (0, .nameAndType 5 18), (0, u "(IIIIII)V"), (0, .long 10000000000), (1, .long 100000000), (1, .long 1000000), (1, .long 10000), (1, .long 100), (1, .methodref 14 30), (0, .nameAndType 31 32), (0, u "digits"), (0, u "()J"), (3, u "law"), (0, u "(IIIIII)Z")] 2

def k1m0 : Method := { name := "<init>", desc := "()V", sig := { parameters := [], returnType := none }, accessFlags := 2, code := none }
def k1c1 : Code := { maxStack := 2, maxLocals := 3, code := method_2_code, exceptionTable := #[], attributes := #[] }
def k1m1 : Method := { name := "monthLength", desc := "(II)I", sig := { parameters := [.int, .int], returnType := some .int }, accessFlags := 10, code := some k1c1 }
def k1c2 : Code := { maxStack := 8, maxLocals := 15, code := code, exceptionTable := #[], attributes := #[] }
def k1m2 : Method := { name := "law", desc := "(IIIIII)Z", sig := { parameters := [.int, .int, .int, .int, .int, .int], returnType := some .boolean }, accessFlags := 9, code := some k1c2 }
/-- com/example/live_alter/livealter/schema/DatetimeDigitsPinLaw -/
def k1 : Class := { plain "com/example/live_alter/livealter/schema/DatetimeDigitsPinLaw" (some 0) with
  accessFlags := 49
  interfaces := #[]
  cf := some (fileOf pool1 9 #[] #[{ accessFlags := 2, nameIndex := 5, descriptorIndex := 6, attributes := #[] }, { accessFlags := 10, nameIndex := 12, descriptorIndex := 13, attributes := #[] }, { accessFlags := 9, nameIndex := 36, descriptorIndex := 37, attributes := #[] }] 49 2 #[] #[])
  fields := #[]
  methods := #[k1m0, k1m1, k1m2]
  instanceTypes := #[]
  staticTypes := #[]
  resolved := Array.replicate 40 none
  statics := none }

def pool2 : Array CpInfo := pool [(1, .methodref 2 3), (0, .class_ 4), (0, .nameAndType 5 6), (0, u "java/lang/Object"), (0, u "<init>"), (0, u "()V"), (0, .class_ 8), (0, u "java/lang/Record")] 13

def k2c0 : Code := { maxStack := 1, maxLocals := 1, code := jdk_30_method_1_code, exceptionTable := #[], attributes := #[] }
def k2m0 : Method := { name := "<init>", desc := "()V", sig := { parameters := [], returnType := none }, accessFlags := 4, code := some k2c0 }
/-- java/lang/Record -/
def k2 : Class := { plain "java/lang/Record" (some 0) with
  accessFlags := 1057
  interfaces := #[]
  cf := some (fileOf pool2 7 #[] #[{ accessFlags := 4, nameIndex := 5, descriptorIndex := 6, attributes := #[] }] 1057 2 #[] #[])
  fields := #[]
  methods := #[k2m0]
  instanceTypes := #[]
  staticTypes := #[]
  resolved := Array.replicate 22 none
  statics := none }

def pool3 : Array CpInfo := pool [(1, .class_ 2), (0, u "java/lang/Comparable"), (0, .class_ 4), (0, u "java/lang/Object")] 7

/-- java/lang/Comparable -/
def k3 : Class := { plain "java/lang/Comparable" (some 0) with
  accessFlags := 1537
  interfaces := #[]
  cf := some (fileOf pool3 1 #[] #[] 1537 3 #[] #[])
  fields := #[]
  methods := #[]
  instanceTypes := #[]
  staticTypes := #[]
  resolved := Array.replicate 12 none
  statics := none }

def pool4 : Array CpInfo := pool [(1, .methodref 2 3), (0, .class_ 4), (0, .nameAndType 5 6), (0, u "java/lang/Record"), (0, u "<init>"), (0, u "()V"), (0, .methodref 8 9), (0, .class_ 10), (0, .nameAndType 11 12), (0, u "com/example/live_alter/livealter/schema/Datetime"), (0, u "isValid"), (0, u "(IIIIII)Z"), (9, .fieldref 8 23), (0, .nameAndType 24 25), (0, u "year"), (0, u "I"), (0, .fieldref 8 27), (0, .nameAndType 28 25), (0, u "month"), (0, .fieldref 8 30), (0, .nameAndType 31 25), (0, u "day"), (0, .fieldref 8 33), (0, .nameAndType 34 25), (0, u "hour"), (0, .fieldref 8 36), (0, .nameAndType 37 25), (0, u "minute"), (0, .fieldref 8 39), (0, .nameAndType 40 25), (0, u "second"), (8, u "DIGITS"), (0, u "Ljava/util/regex/Pattern;"), (14, u "DELIMITED"), (12, u "length"), (7, u "(IIIIII)V"), (7, .long 100), (40, u "of"), (13, u "digits"), (0, u "()J"), (23, .methodref 8 175), (0, .nameAndType 176 177), (0, u "isValidDate"), (0, u "(III)Z"), (0, .methodref 179 180), (0, .class_ 181), (0, .nameAndType 135 182), (0, u "java/time/Month"), (0, u "(I)Ljava/time/Month;"), (0, .methodref 8 184), (0, .nameAndType 185 186), (0, u "isLeapYear"), (0, u "(I)Z"), (0, .methodref 179 188), (0, .nameAndType 78 189), (0, u "(Z)I"), (13, u "ZERO"), (0, u "Lcom/example/live_alter/livealter/schema/Datetime;"), (8, .class_ 214), (0, u "java/lang/Comparable"), (0, u "SHORT_YEAR_DIGITS"), (2, u "FIRST_SHORT_YEAR_OF_1900S")] 59

def k4c0 : Code := { maxStack := 8, maxLocals := 7, code := prog_122_method_1_code, exceptionTable := #[], attributes := #[] }
def k4m0 : Method := { name := "<init>", desc := "(IIIIII)V", sig := { parameters := [.int, .int, .int, .int, .int, .int], returnType := none }, accessFlags := 1, code := some k4c0 }
def k4c1 : Code := { maxStack := 4, maxLocals := 1, code := prog_122_method_5_code, exceptionTable := #[], attributes := #[] }
def k4m1 : Method := { name := "digits", desc := "()J", sig := { parameters := [], returnType := some .long }, accessFlags := 1, code := some k4c1 }
def k4c2 : Code := { maxStack := 3, maxLocals := 6, code := prog_122_method_13_code, exceptionTable := #[], attributes := #[] }
def k4m2 : Method := { name := "isValid", desc := "(IIIIII)Z", sig := { parameters := [.int, .int, .int, .int, .int, .int], returnType := some .boolean }, accessFlags := 10, code := some k4c2 }
def k4c3 : Code := { maxStack := 2, maxLocals := 4, code := prog_122_method_14_code, exceptionTable := #[], attributes := #[] }
def k4m3 : Method := { name := "isValidDate", desc := "(III)Z", sig := { parameters := [.int, .int, .int], returnType := some .boolean }, accessFlags := 8, code := some k4c3 }
def k4c4 : Code := { maxStack := 2, maxLocals := 1, code := prog_122_method_15_code, exceptionTable := #[], attributes := #[] }
def k4m4 : Method := { name := "isLeapYear", desc := "(I)Z", sig := { parameters := [.int], returnType := some .boolean }, accessFlags := 10, code := some k4c4 }
/-- com/example/live_alter/livealter/schema/Datetime -/
def k4 : Class := { plain "com/example/live_alter/livealter/schema/Datetime" (some 2) with
  accessFlags := 49
  interfaces := #[3]
  cf := some (fileOf pool4 8 #[] #[{ accessFlags := 1, nameIndex := 5, descriptorIndex := 86, attributes := #[] }, { accessFlags := 1, nameIndex := 149, descriptorIndex := 150, attributes := #[] }, { accessFlags := 10, nameIndex := 11, descriptorIndex := 12, attributes := #[] }, { accessFlags := 8, nameIndex := 176, descriptorIndex := 177, attributes := #[] }, { accessFlags := 10, nameIndex := 185, descriptorIndex := 186, attributes := #[] }] 49 2 #[213] #[{ accessFlags := 18, nameIndex := 24, descriptorIndex := 25, attributes := #[] }, { accessFlags := 18, nameIndex := 28, descriptorIndex := 25, attributes := #[] }, { accessFlags := 18, nameIndex := 31, descriptorIndex := 25, attributes := #[] }, { accessFlags := 18, nameIndex := 34, descriptorIndex := 25, attributes := #[] }, { accessFlags := 18, nameIndex := 37, descriptorIndex := 25, attributes := #[] }, { accessFlags := 18, nameIndex := 40, descriptorIndex := 25, attributes := #[] }, { accessFlags := 25, nameIndex := 203, descriptorIndex := 204, attributes := #[] }, { accessFlags := 26, nameIndex := 65, descriptorIndex := 50, attributes := #[] }, { accessFlags := 26, nameIndex := 49, descriptorIndex := 50, attributes := #[] }, { accessFlags := 26, nameIndex := 215, descriptorIndex := 25, attributes := #[] }, { accessFlags := 26, nameIndex := 218, descriptorIndex := 25, attributes := #[] }])
  fields := #[{ name := "year", type := .int, accessFlags := 18, slot := 0, constantValue := 0 }, { name := "month", type := .int, accessFlags := 18, slot := 1, constantValue := 0 }, { name := "day", type := .int, accessFlags := 18, slot := 2, constantValue := 0 }, { name := "hour", type := .int, accessFlags := 18, slot := 3, constantValue := 0 }, { name := "minute", type := .int, accessFlags := 18, slot := 4, constantValue := 0 }, { name := "second", type := .int, accessFlags := 18, slot := 5, constantValue := 0 }, { name := "ZERO", type := (.object "com/example/live_alter/livealter/schema/Datetime"), accessFlags := 25, slot := 0, constantValue := 0 }, { name := "DELIMITED", type := (.object "java/util/regex/Pattern"), accessFlags := 26, slot := 1, constantValue := 0 }, { name := "DIGITS", type := (.object "java/util/regex/Pattern"), accessFlags := 26, slot := 2, constantValue := 0 }, { name := "SHORT_YEAR_DIGITS", type := .int, accessFlags := 26, slot := 3, constantValue := 0 }, { name := "FIRST_SHORT_YEAR_OF_1900S", type := .int, accessFlags := 26, slot := 4, constantValue := 0 }]
  methods := #[k4m0, k4m1, k4m2, k4m3, k4m4]
  instanceTypes := #[.int, .int, .int, .int, .int, .int]
  staticTypes := #[(.object "com/example/live_alter/livealter/schema/Datetime"), (.object "java/util/regex/Pattern"), (.object "java/util/regex/Pattern"), .int, .int]
  resolved := Array.replicate 278 none
  statics := none }

def pool5 : Array CpInfo := pool [(1, .class_ 2), (0, u "java/lang/constant/Constable"), (0, .class_ 4), (0, u "java/lang/Object")] 6

/-- java/lang/constant/Constable -/
def k5 : Class := { plain "java/lang/constant/Constable" (some 0) with
  accessFlags := 1537
  interfaces := #[]
  cf := some (fileOf pool5 1 #[] #[] 1537 3 #[] #[])
  fields := #[]
  methods := #[]
  instanceTypes := #[]
  staticTypes := #[]
  resolved := Array.replicate 11 none
  statics := none }

def pool6 : Array CpInfo := pool [(1, .class_ 2), (0, u "java/io/Serializable"), (0, .class_ 4), (0, u "java/lang/Object")] 2

/-- java/io/Serializable -/
def k6 : Class := { plain "java/io/Serializable" (some 0) with
  accessFlags := 1537
  interfaces := #[]
  cf := some (fileOf pool6 1 #[] #[] 1537 3 #[] #[])
  fields := #[]
  methods := #[]
  instanceTypes := #[]
  staticTypes := #[]
  resolved := Array.replicate 7 none
  statics := none }

def pool7 : Array CpInfo := pool [(2, .class_ 4), (1, u "java/lang/Enum"), (0, u "name"), (0, u "Ljava/lang/String;"), (0, .fieldref 2 8), (0, .nameAndType 9 10), (0, u "ordinal"), (0, u "I"), (1, .class_ 14), (1, u "java/lang/Object"), (4, u "hash"), (86, .class_ 108), (1, u "java/lang/Enum$EnumDesc"), (2, .class_ 112), (0, u "java/lang/constant/Constable"), (0, .class_ 114), (0, u "java/lang/Comparable"), (0, .class_ 116), (0, u "java/io/Serializable"), (9, u "()I")] 77

def k7c0 : Code := { maxStack := 1, maxLocals := 1, code := jdk_37_method_2_code, exceptionTable := #[], attributes := #[] }
def k7m0 : Method := { name := "ordinal", desc := "()I", sig := { parameters := [], returnType := some .int }, accessFlags := 17, code := some k7c0 }
/-- java/lang/Enum -/
def k7 : Class := { plain "java/lang/Enum" (some 0) with
  accessFlags := 1057
  interfaces := #[5, 3, 6]
  cf := some (fileOf pool7 2 #[.nestMembers #[106]] #[{ accessFlags := 17, nameIndex := 9, descriptorIndex := 126, attributes := #[] }] 1057 12 #[111, 113, 115] #[{ accessFlags := 18, nameIndex := 5, descriptorIndex := 6, attributes := #[] }, { accessFlags := 18, nameIndex := 9, descriptorIndex := 10, attributes := #[] }, { accessFlags := 2, nameIndex := 19, descriptorIndex := 10, attributes := #[] }])
  fields := #[{ name := "name", type := (.object "java/lang/String"), accessFlags := 18, slot := 0, constantValue := 0 }, { name := "ordinal", type := .int, accessFlags := 18, slot := 1, constantValue := 0 }, { name := "hash", type := .int, accessFlags := 2, slot := 2, constantValue := 0 }]
  methods := #[k7m0]
  instanceTypes := #[(.object "java/lang/String"), .int, .int]
  staticTypes := #[]
  resolved := Array.replicate 204 none
  statics := none }

def pool8 : Array CpInfo := pool [(4, .class_ 6), (1, u "java/time/temporal/TemporalAccessor"), (95, .class_ 103), (0, u "java/lang/Object")] 21

/-- java/time/temporal/TemporalAccessor -/
def k8 : Class := { plain "java/time/temporal/TemporalAccessor" (some 0) with
  accessFlags := 1537
  interfaces := #[]
  cf := some (fileOf pool8 4 #[] #[] 1537 102 #[] #[])
  fields := #[]
  methods := #[]
  instanceTypes := #[]
  staticTypes := #[]
  resolved := Array.replicate 125 none
  statics := none }

def pool9 : Array CpInfo := pool [(1, .class_ 2), (0, u "java/time/temporal/TemporalAdjuster"), (0, .class_ 4), (0, u "java/lang/Object")] 6

/-- java/time/temporal/TemporalAdjuster -/
def k9 : Class := { plain "java/time/temporal/TemporalAdjuster" (some 0) with
  accessFlags := 1537
  interfaces := #[]
  cf := some (fileOf pool9 1 #[] #[] 1537 3 #[] #[])
  fields := #[]
  methods := #[]
  instanceTypes := #[]
  staticTypes := #[]
  resolved := Array.replicate 11 none
  statics := none }

def pool10 : Array CpInfo := pool [(1, .class_ 2), (0, u "java/time/Month"), (2, u "JANUARY"), (0, u "Ljava/time/Month;"), (2, u "FEBRUARY"), (2, u "MARCH"), (2, u "APRIL"), (2, u "MAY"), (2, u "JUNE"), (2, u "JULY"), (2, u "AUGUST"), (2, u "SEPTEMBER"), (2, u "OCTOBER"), (2, u "NOVEMBER"), (2, u "DECEMBER"), (2, u "$VALUES"), (0, u "[Ljava/time/Month;"), (6, .class_ 52), (1, u "java/lang/Enum"), (29, .fieldref 1 83), (0, .nameAndType 84 43), (0, u "ENUMS"), (28, .class_ 115), (1, u "java/time/temporal/TemporalAccessor"), (4, u "of"), (0, u "(I)Ljava/time/Month;"), (19, .methodref 1 142), (0, .nameAndType 143 144), (0, u "ordinal"), (0, u "()I"), (96, .class_ 242), (0, u "java/time/temporal/TemporalAdjuster"), (33, u "length"), (0, u "(Z)I")] 19

def k10c0 : Code := { maxStack := 4, maxLocals := 1, code := jdk_2329_method_4_code, exceptionTable := #[], attributes := #[] }
def k10m0 : Method := { name := "of", desc := "(I)Ljava/time/Month;", sig := { parameters := [.int], returnType := some (.object "java/time/Month") }, accessFlags := 9, code := some k10c0 }
def k10c1 : Code := { maxStack := 1, maxLocals := 2, code := jdk_2329_method_14_code, exceptionTable := #[], attributes := #[] }
def k10m1 : Method := { name := "length", desc := "(Z)I", sig := { parameters := [.boolean], returnType := some .int }, accessFlags := 1, code := some k10c1 }
/-- java/time/Month -/
def k10 : Class := { plain "java/time/Month" (some 7) with
  accessFlags := 16433
  interfaces := #[8, 9]
  cf := some (fileOf pool10 1 #[] #[{ accessFlags := 9, nameIndex := 120, descriptorIndex := 121, attributes := #[] }, { accessFlags := 1, nameIndex := 276, descriptorIndex := 277, attributes := #[] }] 16433 50 #[113, 241] #[{ accessFlags := 16409, nameIndex := 5, descriptorIndex := 6, attributes := #[] }, { accessFlags := 16409, nameIndex := 9, descriptorIndex := 6, attributes := #[] }, { accessFlags := 16409, nameIndex := 12, descriptorIndex := 6, attributes := #[] }, { accessFlags := 16409, nameIndex := 15, descriptorIndex := 6, attributes := #[] }, { accessFlags := 16409, nameIndex := 18, descriptorIndex := 6, attributes := #[] }, { accessFlags := 16409, nameIndex := 21, descriptorIndex := 6, attributes := #[] }, { accessFlags := 16409, nameIndex := 24, descriptorIndex := 6, attributes := #[] }, { accessFlags := 16409, nameIndex := 27, descriptorIndex := 6, attributes := #[] }, { accessFlags := 16409, nameIndex := 30, descriptorIndex := 6, attributes := #[] }, { accessFlags := 16409, nameIndex := 33, descriptorIndex := 6, attributes := #[] }, { accessFlags := 16409, nameIndex := 36, descriptorIndex := 6, attributes := #[] }, { accessFlags := 16409, nameIndex := 39, descriptorIndex := 6, attributes := #[] }, { accessFlags := 26, nameIndex := 84, descriptorIndex := 43, attributes := #[] }, { accessFlags := 4122, nameIndex := 42, descriptorIndex := 43, attributes := #[] }])
  fields := #[{ name := "JANUARY", type := (.object "java/time/Month"), accessFlags := 16409, slot := 0, constantValue := 0 }, { name := "FEBRUARY", type := (.object "java/time/Month"), accessFlags := 16409, slot := 1, constantValue := 0 }, { name := "MARCH", type := (.object "java/time/Month"), accessFlags := 16409, slot := 2, constantValue := 0 }, { name := "APRIL", type := (.object "java/time/Month"), accessFlags := 16409, slot := 3, constantValue := 0 }, { name := "MAY", type := (.object "java/time/Month"), accessFlags := 16409, slot := 4, constantValue := 0 }, { name := "JUNE", type := (.object "java/time/Month"), accessFlags := 16409, slot := 5, constantValue := 0 }, { name := "JULY", type := (.object "java/time/Month"), accessFlags := 16409, slot := 6, constantValue := 0 }, { name := "AUGUST", type := (.object "java/time/Month"), accessFlags := 16409, slot := 7, constantValue := 0 }, { name := "SEPTEMBER", type := (.object "java/time/Month"), accessFlags := 16409, slot := 8, constantValue := 0 }, { name := "OCTOBER", type := (.object "java/time/Month"), accessFlags := 16409, slot := 9, constantValue := 0 }, { name := "NOVEMBER", type := (.object "java/time/Month"), accessFlags := 16409, slot := 10, constantValue := 0 }, { name := "DECEMBER", type := (.object "java/time/Month"), accessFlags := 16409, slot := 11, constantValue := 0 }, { name := "ENUMS", type := (.array (.object "java/time/Month")), accessFlags := 26, slot := 12, constantValue := 0 }, { name := "$VALUES", type := (.array (.object "java/time/Month")), accessFlags := 4122, slot := 13, constantValue := 0 }]
  methods := #[k10m0, k10m1]
  instanceTypes := #[(.object "java/lang/String"), .int, .int]
  staticTypes := #[(.object "java/time/Month"), (.object "java/time/Month"), (.object "java/time/Month"), (.object "java/time/Month"), (.object "java/time/Month"), (.object "java/time/Month"), (.object "java/time/Month"), (.object "java/time/Month"), (.object "java/time/Month"), (.object "java/time/Month"), (.object "java/time/Month"), (.object "java/time/Month"), (.array (.object "java/time/Month")), (.array (.object "java/time/Month"))]
  resolved := Array.replicate 297 none
  statics := some 0 }

def pool11 : Array CpInfo := pool [(2, .class_ 4), (1, u "java/lang/CharSequence"), (42, .class_ 48), (0, u "java/lang/CharSequence$1CodePointIterator"), (10, .class_ 60), (0, u "java/lang/CharSequence$1CharIterator"), (5, .class_ 67), (0, u "java/lang/Object")] 63

/-- java/lang/CharSequence -/
def k11 : Class := { plain "java/lang/CharSequence" (some 0) with
  accessFlags := 1537
  interfaces := #[]
  cf := some (fileOf pool11 2 #[.nestMembers #[47, 59]] #[] 1537 66 #[] #[])
  fields := #[]
  methods := #[]
  instanceTypes := #[]
  staticTypes := #[]
  resolved := Array.replicate 131 none
  statics := none }

def pool12 : Array CpInfo := pool [(1, .class_ 2), (0, u "java/lang/constant/ConstantDesc"), (0, .class_ 4), (0, u "java/lang/Object")] 32

/-- java/lang/constant/ConstantDesc -/
def k12 : Class := { plain "java/lang/constant/ConstantDesc" (some 0) with
  accessFlags := 1537
  interfaces := #[]
  cf := some (fileOf pool12 1 #[] #[] 1537 3 #[] #[])
  fields := #[]
  methods := #[]
  instanceTypes := #[]
  staticTypes := #[]
  resolved := Array.replicate 37 none
  statics := none }

def pool13 : Array CpInfo := pool [(2, .class_ 4), (1, u "java/lang/Object"), (0, u "<init>"), (0, u "()V"), (3, .class_ 12), (1, u "java/lang/String"), (0, u "value"), (0, u "[B"), (2, u "coder"), (0, u "B"), (2, u "hash"), (0, u "I"), (2, u "hashIsZero"), (0, u "Z"), (13, u "COMPACT_STRINGS"), (534, .class_ 576), (0, u "java/lang/CharSequence"), (22, u "CASE_INSENSITIVE_ORDER"), (0, u "Ljava/util/Comparator;"), (500, u "serialPersistentFields"), (0, u "[Ljava/io/ObjectStreamField;"), (0, .class_ 1104), (0, u "java/lang/String$CaseInsensitiveComparator"), (1, .class_ 1107), (0, u "java/io/Serializable"), (0, .class_ 1109), (0, u "java/lang/Comparable"), (0, .class_ 1111), (0, u "java/lang/constant/Constable"), (0, .class_ 1113), (0, u "java/lang/constant/ConstantDesc"), (2, u "serialVersionUID"), (0, u "J"), (3, u "REPL"), (0, u "C"), (2, u "LATIN1"), (1, u "UTF16")] 323

def k13m0 : Method := { name := "<init>", desc := "()V", sig := { parameters := [], returnType := none }, accessFlags := 1, code := none }
/-- java/lang/String -/
def k13 : Class := { plain "java/lang/String" (some 0) with
  accessFlags := 49
  interfaces := #[6, 3, 11, 5, 12]
  cf := some (fileOf pool13 10 #[.nestMembers #[1103]] #[{ accessFlags := 1, nameIndex := 5, descriptorIndex := 6, attributes := #[] }] 49 2 #[1106, 1108, 575, 1110, 1112] #[{ accessFlags := 18, nameIndex := 13, descriptorIndex := 14, attributes := #[] }, { accessFlags := 18, nameIndex := 17, descriptorIndex := 18, attributes := #[] }, { accessFlags := 2, nameIndex := 21, descriptorIndex := 22, attributes := #[] }, { accessFlags := 2, nameIndex := 25, descriptorIndex := 26, attributes := #[] }, { accessFlags := 26, nameIndex := 1116, descriptorIndex := 1117, attributes := #[] }, { accessFlags := 24, nameIndex := 40, descriptorIndex := 26, attributes := #[] }, { accessFlags := 26, nameIndex := 1101, descriptorIndex := 1102, attributes := #[] }, { accessFlags := 26, nameIndex := 1121, descriptorIndex := 1122, attributes := #[] }, { accessFlags := 25, nameIndex := 599, descriptorIndex := 600, attributes := #[] }, { accessFlags := 24, nameIndex := 1125, descriptorIndex := 18, attributes := #[] }, { accessFlags := 24, nameIndex := 1127, descriptorIndex := 18, attributes := #[] }])
  fields := #[{ name := "value", type := (.array .byte), accessFlags := 18, slot := 0, constantValue := 0 }, { name := "coder", type := .byte, accessFlags := 18, slot := 1, constantValue := 0 }, { name := "hash", type := .int, accessFlags := 2, slot := 2, constantValue := 0 }, { name := "hashIsZero", type := .boolean, accessFlags := 2, slot := 3, constantValue := 0 }, { name := "serialVersionUID", type := .long, accessFlags := 26, slot := 0, constantValue := 0 }, { name := "COMPACT_STRINGS", type := .boolean, accessFlags := 24, slot := 1, constantValue := 0 }, { name := "serialPersistentFields", type := (.array (.object "java/io/ObjectStreamField")), accessFlags := 26, slot := 2, constantValue := 0 }, { name := "REPL", type := .char, accessFlags := 26, slot := 3, constantValue := 0 }, { name := "CASE_INSENSITIVE_ORDER", type := (.object "java/util/Comparator"), accessFlags := 25, slot := 4, constantValue := 0 }, { name := "LATIN1", type := .byte, accessFlags := 24, slot := 5, constantValue := 0 }, { name := "UTF16", type := .byte, accessFlags := 24, slot := 6, constantValue := 0 }]
  methods := #[k13m0]
  instanceTypes := #[(.array .byte), .byte, .int, .boolean]
  staticTypes := #[.long, .boolean, (.array (.object "java/io/ObjectStreamField")), .char, (.object "java/util/Comparator"), .byte, .byte]
  resolved := Array.replicate 1451 none
  statics := none }

def pool14 : Array CpInfo := pool [(1, u "java/lang/Cloneable"), (0, .class_ 1), (0, u "java/lang/Object"), (0, .class_ 3)] 3

/-- java/lang/Cloneable -/
def k14 : Class := { plain "java/lang/Cloneable" (some 0) with
  accessFlags := 1537
  interfaces := #[]
  cf := some (fileOf pool14 2 #[] #[] 1537 4 #[] #[])
  fields := #[]
  methods := #[]
  instanceTypes := #[]
  staticTypes := #[]
  resolved := Array.replicate 8 none
  statics := none }

/-- the primitive byte -/
def k15 : Class := { plain "byte" none with kind := .primitive 'B', accessFlags := 0x411 }
/-- [B -/
def k16 : Class := { plain "[B" (some 0) with kind := .array 15 .byte, interfaces := #[14, 6], accessFlags := 1041 }

/-- the primitive int -/
def k17 : Class := { plain "int" none with kind := .primitive 'I', accessFlags := 0x411 }
/-- [I -/
def k18 : Class := { plain "[I" (some 0) with kind := .array 17 .int, interfaces := #[14, 6], accessFlags := 1041 }

/-- [Ljava/time/Month; -/
def k19 : Class := { plain "[Ljava/time/Month;" (some 0) with kind := .array 10 (.object "java/time/Month"), interfaces := #[14, 6], accessFlags := 1041 }

def heap : Heap := #[{ cls := 10, slots := #[.ref 2, .ref 3, .ref 4, .ref 5, .ref 6, .ref 7, .ref 8, .ref 9, .ref 10, .ref 11, .ref 12, .ref 13, .ref 1, .null], vm := .statics 10 },
  { cls := 19, slots := #[.ref 2, .ref 3, .ref 4, .ref 5, .ref 6, .ref 7, .ref 8, .ref 9, .ref 10, .ref 11, .ref 12, .ref 13], vm := .none },
  { cls := 10, slots := #[.ref 14, .int 0, .int 0], vm := .none },
  { cls := 10, slots := #[.ref 14, .int 1, .int 0], vm := .none },
  { cls := 10, slots := #[.ref 14, .int 2, .int 0], vm := .none },
  { cls := 10, slots := #[.ref 14, .int 3, .int 0], vm := .none },
  { cls := 10, slots := #[.ref 14, .int 4, .int 0], vm := .none },
  { cls := 10, slots := #[.ref 14, .int 5, .int 0], vm := .none },
  { cls := 10, slots := #[.ref 14, .int 6, .int 0], vm := .none },
  { cls := 10, slots := #[.ref 14, .int 7, .int 0], vm := .none },
  { cls := 10, slots := #[.ref 14, .int 8, .int 0], vm := .none },
  { cls := 10, slots := #[.ref 14, .int 9, .int 0], vm := .none },
  { cls := 10, slots := #[.ref 14, .int 10, .int 0], vm := .none },
  { cls := 10, slots := #[.ref 14, .int 11, .int 0], vm := .none },
  { cls := 13, slots := #[.null, .int 0, .int 0, .int 0], vm := .none }]
def classes : Array Class := #[k0, k1, k2, k3, k4, k5, k6, k7, k8, k9, k10, k11, k12, k13, k14, k15, k16, k17, k18, k19]
def interned : List (Array UInt16 × Addr) := []
def slotsUsed : Nat := 66
def theMethod : MethodId := ⟨1, 2⟩
def args0 : Array Value := #[.int 5, .int 5, .int 5, .int 5, .int 5, .int 5]
def aboutOver (below : List Frame) : State where
  vm := { classes := classes, interned := interned.toArray }
  heap := heap
  slotsUsed := slotsUsed
  threads := #[{ frames := .invoking theMethod args0 :: below }]
def below0 : List Frame := [.native { method := ⟨0, 0⟩, args := #[] }]
def about1 : State := aboutOver below0
def p0 : Program := .bare "" "" ""
def e0 : Env := launch0.env 0 0 0
theorem w_frames : about1.frames = Frame.invoking theMethod args0 :: below0 := rfl
set_option maxRecDepth 65536 in
theorem w_args : argsFit about1.vm theMethod args0 = true := by decide +kernel
set_option maxRecDepth 65536 in
theorem w_heap : heapFits about1 = true := by decide +kernel
set_option maxRecDepth 65536 in
theorem w_runnable : about1.curStatus? = some .runnable := by decide +kernel
set_option maxRecDepth 65536 in
theorem w_alone : about1.alone = true := by decide +kernel
set_option maxRecDepth 65536 in
theorem w_named : about1.methodNamed? x = some theMethod := by decide +kernel
set_option maxRecDepth 65536 in
theorem w_hears : about1.hears theMethod below0 = true := by decide +kernel
set_option maxRecDepth 65536 in
theorem w_ripe : about1.ripe theMethod args0 below0 = true := by decide +kernel
theorem w_running : about1.status = .running := rfl
set_option maxRecDepth 65536 in
theorem w_room : about1.hasRoom e0.platform room_1 = true :=
  launch0.hasRoom_least _ room_1 (by decide +kernel) (by decide +kernel) (by decide +kernel) (by decide +kernel) (by decide +kernel) (by decide +kernel)
theorem allAtoms_all (ts : List Jvm.Cond) (a : Array Jvm.Value) (st : Jvm.State) : (allAtoms ts).before a st = ts.all (fun c => c.before a st) := by
  induction ts with
  | nil => rfl
  | cons c t ih =>
    show (Jvm.Cond.and c (allAtoms t)).before a st = _
    rw [Jvm.Cond.before_and, ih, List.all_cons]
def words1 : List Jvm.Cond := Jvm.Cond.code x code maxLocals ret :: tables_1
/-- a 'code' word, met by the world's own term for the bytes: nothing is compared byte by byte -/
theorem code_word {y : MethodName} {bytes : ByteArray} {mx : Nat} {rt : Option FieldType} {a : Array Value} {s : State} {m : MethodId} {meth : Method} {c : Code} (h1 : s.methodNamed? y = some m) (h2 : s.vm.method? m = some meth) (h3 : meth.code = some c) (h4 : c.code = bytes)
    (h5 : (c.maxLocals == mx && c.exceptionTable.isEmpty && decide (c.maxStack ≤ mostOperands) && decide (meth.sig.returnType = rt) && !meth.locks && decide (parseMethodDescriptor y.desc = some meth.sig)) = true) : (Jvm.Cond.code y bytes mx rt).before a s = true := by
  simp only [Bool.and_eq_true, beq_iff_eq, Bool.not_eq_true', decide_eq_true_eq] at h5
  obtain ⟨⟨⟨⟨⟨g1, g2⟩, g3⟩, g4⟩, g5⟩, g6⟩ := h5
  simp [Cond.before, Cond.holds, Cond.value, h1, h2, h3, h4, g1, g2, g3, g4, g5, g6]
def isCode : Jvm.Cond → Bool
  | .code _ _ _ _ => true
  | _ => false
theorem all_split {L : List Jvm.Cond} {P : Jvm.Cond → Bool} (h1 : L.all (fun c => isCode c || P c) = true) (h2 : ∀ c ∈ L.filter isCode, P c = true) : L.all P = true := by
  refine List.all_eq_true.mpr fun c hc => ?_
  have h := List.all_eq_true.mp h1 c hc
  rcases Bool.eq_false_or_eq_true (isCode c) with hi | hi
  · exact h2 c (List.mem_filter.mpr ⟨hc, hi⟩)
  · simpa [hi] using h
set_option maxRecDepth 65536 in
theorem w_c0 : (Jvm.Cond.code x code maxLocals ret).before args0 about1 = true := code_word (m := ⟨1, 2⟩) (meth := k1m2) (c := k1c2) (by decide +kernel) rfl rfl rfl (by decide +kernel)
set_option maxRecDepth 65536 in
theorem w_c1 : (Jvm.Cond.code ({ cls := "com/example/live_alter/livealter/schema/DatetimeDigitsPinLaw", name := "monthLength", desc := "(II)I" } : Jvm.MethodName) method_2_code (3 : Nat) (Option.some Jvm.ClassFile.FieldType.int)).before args0 about1 = true := code_word (m := ⟨1, 1⟩) (meth := k1m1) (c := k1c1) (by decide +kernel) rfl rfl rfl (by decide +kernel)
set_option maxRecDepth 65536 in
theorem w_c2 : (Jvm.Cond.code ({ cls := "com/example/live_alter/livealter/schema/Datetime", name := "<init>", desc := "(IIIIII)V" } : Jvm.MethodName) prog_122_method_1_code (7 : Nat) (Option.none : Option Jvm.ClassFile.FieldType)).before args0 about1 = true := code_word (m := ⟨4, 0⟩) (meth := k4m0) (c := k4c0) (by decide +kernel) rfl rfl rfl (by decide +kernel)
set_option maxRecDepth 65536 in
theorem w_c3 : (Jvm.Cond.code ({ cls := "java/lang/Record", name := "<init>", desc := "()V" } : Jvm.MethodName) jdk_30_method_1_code (1 : Nat) (Option.none : Option Jvm.ClassFile.FieldType)).before args0 about1 = true := code_word (m := ⟨2, 0⟩) (meth := k2m0) (c := k2c0) (by decide +kernel) rfl rfl rfl (by decide +kernel)
set_option maxRecDepth 65536 in
theorem w_c4 : (Jvm.Cond.code ({ cls := "java/lang/Object", name := "<init>", desc := "()V" } : Jvm.MethodName) object_method_1_code (1 : Nat) (Option.none : Option Jvm.ClassFile.FieldType)).before args0 about1 = true := code_word (m := ⟨0, 0⟩) (meth := k0m0) (c := k0c0) (by decide +kernel) rfl rfl rfl (by decide +kernel)
set_option maxRecDepth 65536 in
theorem w_c5 : (Jvm.Cond.code ({ cls := "com/example/live_alter/livealter/schema/Datetime", name := "isValid", desc := "(IIIIII)Z" } : Jvm.MethodName) prog_122_method_13_code (6 : Nat) (Option.some Jvm.ClassFile.FieldType.boolean)).before args0 about1 = true := code_word (m := ⟨4, 2⟩) (meth := k4m2) (c := k4c2) (by decide +kernel) rfl rfl rfl (by decide +kernel)
set_option maxRecDepth 65536 in
theorem w_c6 : (Jvm.Cond.code ({ cls := "com/example/live_alter/livealter/schema/Datetime", name := "isValidDate", desc := "(III)Z" } : Jvm.MethodName) prog_122_method_14_code (4 : Nat) (Option.some Jvm.ClassFile.FieldType.boolean)).before args0 about1 = true := code_word (m := ⟨4, 3⟩) (meth := k4m3) (c := k4c3) (by decide +kernel) rfl rfl rfl (by decide +kernel)
set_option maxRecDepth 65536 in
theorem w_c7 : (Jvm.Cond.code ({ cls := "java/time/Month", name := "of", desc := "(I)Ljava/time/Month;" } : Jvm.MethodName) jdk_2329_method_4_code (1 : Nat) (Option.some (Jvm.ClassFile.FieldType.object "java/time/Month"))).before args0 about1 = true := code_word (m := ⟨10, 0⟩) (meth := k10m0) (c := k10c0) (by decide +kernel) rfl rfl rfl (by decide +kernel)
set_option maxRecDepth 65536 in
theorem w_c8 : (Jvm.Cond.code ({ cls := "com/example/live_alter/livealter/schema/Datetime", name := "isLeapYear", desc := "(I)Z" } : Jvm.MethodName) prog_122_method_15_code (1 : Nat) (Option.some Jvm.ClassFile.FieldType.boolean)).before args0 about1 = true := code_word (m := ⟨4, 4⟩) (meth := k4m4) (c := k4c4) (by decide +kernel) rfl rfl rfl (by decide +kernel)
set_option maxRecDepth 65536 in
theorem w_c9 : (Jvm.Cond.code ({ cls := "java/time/Month", name := "length", desc := "(Z)I" } : Jvm.MethodName) jdk_2329_method_14_code (2 : Nat) (Option.some Jvm.ClassFile.FieldType.int)).before args0 about1 = true := code_word (m := ⟨10, 1⟩) (meth := k10m1) (c := k10c1) (by decide +kernel) rfl rfl rfl (by decide +kernel)
set_option maxRecDepth 65536 in
theorem w_c10 : (Jvm.Cond.code ({ cls := "java/lang/Enum", name := "ordinal", desc := "()I" } : Jvm.MethodName) jdk_37_method_2_code (1 : Nat) (Option.some Jvm.ClassFile.FieldType.int)).before args0 about1 = true := code_word (m := ⟨7, 0⟩) (meth := k7m0) (c := k7c0) (by decide +kernel) rfl rfl rfl (by decide +kernel)
set_option maxRecDepth 65536 in
theorem w_c11 : (Jvm.Cond.code ({ cls := "com/example/live_alter/livealter/schema/Datetime", name := "digits", desc := "()J" } : Jvm.MethodName) prog_122_method_5_code (1 : Nat) (Option.some Jvm.ClassFile.FieldType.long)).before args0 about1 = true := code_word (m := ⟨4, 1⟩) (meth := k4m1) (c := k4c1) (by decide +kernel) rfl rfl rfl (by decide +kernel)
def codes1 : List Jvm.Cond := [Jvm.Cond.code x code maxLocals ret, Jvm.Cond.code ({ cls := "com/example/live_alter/livealter/schema/DatetimeDigitsPinLaw", name := "monthLength", desc := "(II)I" } : Jvm.MethodName) method_2_code (3 : Nat) (Option.some Jvm.ClassFile.FieldType.int), Jvm.Cond.code ({ cls := "com/example/live_alter/livealter/schema/Datetime", name := "<init>", desc := "(IIIIII)V" } : Jvm.MethodName) prog_122_method_1_code (7 : Nat) (Option.none : Option Jvm.ClassFile.FieldType), Jvm.Cond.code ({ cls := "java/lang/Record", name := "<init>", desc := "()V" } : Jvm.MethodName) jdk_30_method_1_code (1 : Nat) (Option.none : Option Jvm.ClassFile.FieldType), Jvm.Cond.code ({ cls := "java/lang/Object", name := "<init>", desc := "()V" } : Jvm.MethodName) object_method_1_code (1 : Nat) (Option.none : Option Jvm.ClassFile.FieldType), Jvm.Cond.code ({ cls := "com/example/live_alter/livealter/schema/Datetime", name := "isValid", desc := "(IIIIII)Z" } : Jvm.MethodName) prog_122_method_13_code (6 : Nat) (Option.some Jvm.ClassFile.FieldType.boolean), Jvm.Cond.code ({ cls := "com/example/live_alter/livealter/schema/Datetime", name := "isValidDate", desc := "(III)Z" } : Jvm.MethodName) prog_122_method_14_code (4 : Nat) (Option.some Jvm.ClassFile.FieldType.boolean), Jvm.Cond.code ({ cls := "java/time/Month", name := "of", desc := "(I)Ljava/time/Month;" } : Jvm.MethodName) jdk_2329_method_4_code (1 : Nat) (Option.some (Jvm.ClassFile.FieldType.object "java/time/Month")), Jvm.Cond.code ({ cls := "com/example/live_alter/livealter/schema/Datetime", name := "isLeapYear", desc := "(I)Z" } : Jvm.MethodName) prog_122_method_15_code (1 : Nat) (Option.some Jvm.ClassFile.FieldType.boolean), Jvm.Cond.code ({ cls := "java/time/Month", name := "length", desc := "(Z)I" } : Jvm.MethodName) jdk_2329_method_14_code (2 : Nat) (Option.some Jvm.ClassFile.FieldType.int), Jvm.Cond.code ({ cls := "java/lang/Enum", name := "ordinal", desc := "()I" } : Jvm.MethodName) jdk_37_method_2_code (1 : Nat) (Option.some Jvm.ClassFile.FieldType.int), Jvm.Cond.code ({ cls := "com/example/live_alter/livealter/schema/Datetime", name := "digits", desc := "()J" } : Jvm.MethodName) prog_122_method_5_code (1 : Nat) (Option.some Jvm.ClassFile.FieldType.long)]
set_option maxRecDepth 65536 in
theorem codes_eq : words1.filter isCode = codes1 := rfl
theorem w_codes : ∀ c ∈ words1.filter isCode, c.before args0 about1 = true := by
  rw [codes_eq]
  intro c hc
  simp only [codes1, List.mem_cons, List.not_mem_nil, or_false] at hc
  rcases hc with rfl | rfl | rfl | rfl | rfl | rfl | rfl | rfl | rfl | rfl | rfl | rfl
  · exact w_c0
  · exact w_c1
  · exact w_c2
  · exact w_c3
  · exact w_c4
  · exact w_c5
  · exact w_c6
  · exact w_c7
  · exact w_c8
  · exact w_c9
  · exact w_c10
  · exact w_c11
set_option maxRecDepth 65536 in
theorem w_t1 : (words1.take 24).all (fun c => isCode c || c.before args0 about1) = true := by decide +kernel
set_option maxRecDepth 65536 in
theorem w_t2 : ((words1.drop 24).take 24).all (fun c => isCode c || c.before args0 about1) = true := by decide +kernel
set_option maxRecDepth 65536 in
theorem w_t3 : ((words1.drop 24).drop 24).all (fun c => isCode c || c.before args0 about1) = true := by decide +kernel
theorem w_tables : (allAtoms (Jvm.Cond.code x code maxLocals ret :: tables_1)).before args0 about1 = true := by
  rw [allAtoms_all]
  show words1.all (fun c => c.before args0 about1) = true
  refine all_split ?_ w_codes
  rw [← List.take_append_drop 24 words1, List.all_append, w_t1, ← List.take_append_drop 24 (words1.drop 24), List.all_append, w_t2, w_t3]
  rfl
set_option maxRecDepth 65536 in
theorem w_rest : rest_1_c.before args0 about1 = true := by decide +kernel
set_option maxRecDepth 65536 in
theorem w_case : (Jvm.Cond.and given_1 narrow_1).before args0 about1 = true := by decide +kernel
theorem w_applies : (headSpec (Jvm.Cond.code x code maxLocals ret :: tables_1) room_1).applies x e0.platform about1 = true :=
  (Spec.applies_iff w_frames).mpr ⟨w_running, w_runnable, w_alone, w_named, w_hears, w_ripe, w_room, w_tables⟩
theorem atStart : AtStart classFile x code maxLocals ret World_1 tables_1 room_1 Calls_1 rest_1 Pre_1 launch0 p0 e0 about1 theMethod args0 below0 :=
  ⟨lists_1, trivial, launch0.admits_env _ _ _, launch0.least_env, fairChoices_fair.cas, fairChoices_fair.clock, w_frames, w_args, w_heap, w_applies, trivial, w_rest, w_case⟩
end start1
theorem witness_1 : WitnessClaimed_1 := ⟨start1.p0, start1.e0, start1.about1, start1.theMethod, start1.args0, start1.below0, start1.atStart⟩
end Jvm.Pilot.@@N@@
