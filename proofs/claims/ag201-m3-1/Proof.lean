import JvmDerived
import JvmDerived.Pilot.@@N@@Statement
import JvmDerived.Pilot.@@N@@Code
set_option linter.unusedVariables false
set_option linter.unusedSimpArgs false
namespace Jvm.Pilot.@@N@@
open Jvm Jvm.ClassFile Sem Op Lib Jvm.Free Jvm.Stand Jvm.LawKit Jvm.RoadKit Bundle Jvm.Pilot.@@N@@.Jvm.D
/-- from U the run comes to a return that Q allows -/
def Go (p : Program) (e : Env) (below : List Frame) (s : State) (C S : Nat) (Q : Option Value → Heap → List Loc → Prop) (U : State) : Prop :=
  ∃ t o, Steps p.tables e below U t ∧ t.status = .running ∧ Ended t below o ∧ ∃ v L, o = .returned v ∧ Q v t.heap L ∧ FrameEnd s o t L C S
section own_go
variable {p : Program} {l : Launch} {e : Env} {R : Room} {s : State} {m : MethodId} {args : Array Value} {below : List Frame} {meth : Method} {c : Code} {T U U' : State} {locs : List Loc} {cells slots C S : Nat} {Q : Option Value → Heap → List Loc → Prop}
theorem Go.of (h : ∀ t, Steps p.tables e below U' t → Steps p.tables e below U t) (g : Go p e below s C S Q U') : Go p e below s C S Q U := by
  obtain ⟨t, o, k, r⟩ := g
  exact ⟨t, o, h t k, r⟩
theorem Go.tr (h : Steps p.tables e below U U') (g : Go p e below s C S Q U') : Go p e below s C S Q U := by
  obtain ⟨t, o, k, r⟩ := g
  exact ⟨t, o, h.trans k, r⟩
theorem Go.out (X : Stand p l e R s m args below meth c T locs cells slots) {v : Option Value} (hv : meth.sig.returnType = none → v = none) (hlk : meth.locks = false)
    (hs : ∀ fs, (∀ (f : JFrame) (acts : List Action), f.method = m → f.locked = none → f.entered = [] → (doReturn e (T.setTop f) acts v).1 = T.setFrames fs) → Steps p.tables e below U (T.setFrames fs))
    (hQ : Q v T.heap locs) (hC : cells ≤ C) (hS : slots ≤ S) : Go p e below s C S Q U := by
  obtain ⟨fs, hr, hrun, hended, hW, hsame⟩ := X.leave (v := v) hv hlk
  exact ⟨_, _, hs fs hr, hrun, hended, _, _, rfl, hQ, ⟨_, rfl⟩, hW, hsame.mono hC hS⟩
end own_go
theorem own_lt1 {x y : Int32} {k : Int} (hy : y.toInt = k) (h : x < y) : x.toInt < k := hy ▸ Int32.lt_iff_toInt_lt.mp h
theorem own_ge1 {x y : Int32} {k : Int} (hy : y.toInt = k) (h : ¬ x < y) : k ≤ x.toInt := by rw [Int32.lt_iff_toInt_lt, hy] at h; omega
theorem own_lt2 {x y : Int32} {k : Int} (hy : y.toInt = k) (h : y < x) : k < x.toInt := hy ▸ Int32.lt_iff_toInt_lt.mp h
theorem own_ge2 {x y : Int32} {k : Int} (hy : y.toInt = k) (h : ¬ y < x) : x.toInt ≤ k := by rw [Int32.lt_iff_toInt_lt, hy] at h; omega
theorem own_eq1 {x y : Int32} {k : Int} (hy : y.toInt = k) (h : x = y) : x.toInt = k := by rw [h, hy]
theorem own_ne1 {x y : Int32} {k : Int} (hy : y.toInt = k) (h : ¬ x = y) : x.toInt ≠ k := fun q => h (Int32.toInt_inj.mp (q.trans hy.symm))
theorem own_eq2 {x y : Int32} {k : Int} (hy : y.toInt = k) (h : y = x) : x.toInt = k := by rw [← h, hy]
theorem own_ne2 {x y : Int32} {k : Int} (hy : y.toInt = k) (h : ¬ y = x) : x.toInt ≠ k := fun q => h (Int32.toInt_inj.mp (q.trans hy.symm)).symm
theorem own_eqI {args : Array Value} {first s : State} {o : Option Outcome} {idx : List Nat} {t : Term} {n : Int32} (h : (Cond.eq t (.int n)).value args first o s idx = some true) : t.eval args first o idx s = some (.int n) := by
  obtain ⟨x, y, e1, e2, k1, k2⟩ := cmp_v (Or.inl h)
  obtain rfl : y = .int n := (Option.some.inj e2).symm
  obtain ⟨z, rfl⟩ := k2
  have q := gotT (Cond.eq_ints e1 e2) h
  rw [e1, q]
theorem own_len {args : Array Value} {s : State} {t : Term} {w : Addr} {cl : Cell} {n : Int32} (ev : t.eval args s none [] s = some (.ref w)) (ha : s.arrayAt? w = some cl) (h : (Term.length t).eval args s none [] s = some (.int n)) : cl.slots.size < 2 ^ 31 ∧ cl.slots.size.toInt32 = n := by
  by_cases q : cl.slots.size < 2 ^ 31
  · rw [len_f ev ha q] at h; exact ⟨q, Value.int.inj (Option.some.inj h)⟩
  · simp [Term.eval, ev, ha, q] at h
def own_tok (i : Int) : Int32 := if (97 ≤ i ∧ i ≤ 122) ∨ (65 ≤ i ∧ i ≤ 90) ∨ (48 ≤ i ∧ i ≤ 57) ∨ i = 33 ∨ i = 35 ∨ i = 36 ∨ i = 37 ∨ i = 38 ∨ i = 39 ∨ i = 42 ∨ i = 43 ∨ i = 45 ∨ i = 46 ∨ i = 94 ∨ i = 95 ∨ i = 96 ∨ i = 124 ∨ i = 126 then 1 else 0
theorem own_yes {i : Int} (h : (97 ≤ i ∧ i ≤ 122) ∨ (65 ≤ i ∧ i ≤ 90) ∨ (48 ≤ i ∧ i ≤ 57) ∨ i = 33 ∨ i = 35 ∨ i = 36 ∨ i = 37 ∨ i = 38 ∨ i = 39 ∨ i = 42 ∨ i = 43 ∨ i = 45 ∨ i = 46 ∨ i = 94 ∨ i = 95 ∨ i = 96 ∨ i = 124 ∨ i = 126) : own_tok i = 1 := if_pos h
theorem own_no {i : Int} (h : ¬ ((97 ≤ i ∧ i ≤ 122) ∨ (65 ≤ i ∧ i ≤ 90) ∨ (48 ≤ i ∧ i ≤ 57) ∨ i = 33 ∨ i = 35 ∨ i = 36 ∨ i = 37 ∨ i = 38 ∨ i = 39 ∨ i = 42 ∨ i = 43 ∨ i = 45 ∨ i = 46 ∨ i = 94 ∨ i = 95 ∨ i = 96 ∨ i = 124 ∨ i = 126)) : own_tok i = 0 := if_neg h
theorem own_law {f : Int32 → Int32} (hT : ∀ k : Int32, 0 ≤ k.toInt → k.toInt < 128 → f k = own_tok k.toInt) {z : Int32} (h0 : 0 ≤ z.toInt) : (if z < 128 ∧ ¬ f z = 0 then (1 : Int32) else 0) = own_tok z.toInt := by
  by_cases q : z < 128
  · have q' := own_lt1 (k := 128) (by decide) q
    rw [hT z h0 q']
    by_cases r : (97 ≤ z.toInt ∧ z.toInt ≤ 122) ∨ (65 ≤ z.toInt ∧ z.toInt ≤ 90) ∨ (48 ≤ z.toInt ∧ z.toInt ≤ 57) ∨ z.toInt = 33 ∨ z.toInt = 35 ∨ z.toInt = 36 ∨ z.toInt = 37 ∨ z.toInt = 38 ∨ z.toInt = 39 ∨ z.toInt = 42 ∨ z.toInt = 43 ∨ z.toInt = 45 ∨ z.toInt = 46 ∨ z.toInt = 94 ∨ z.toInt = 95 ∨ z.toInt = 96 ∨ z.toInt = 124 ∨ z.toInt = 126
    · rw [own_yes r]; simp [q]
    · rw [own_no r]; simp
  · have q' := own_ge1 (k := 128) (by decide) q
    rw [own_no (by omega)]; simp [q]
theorem own_el {args : Array Value} {s : State} {t u : Term} {w : Addr} {cl : Cell} {ty : FieldType} {n j : Int32} {idx : List Nat} (ev : t.eval args s none idx s = some (.ref w)) (TB : Tab s s.heap w cl ty n) (hu : u.eval args s none idx s = some (.int j)) (hj : ¬ j < 0) (hj2 : j < n) : (Term.elem t u).eval args s none idx s = some (.int (atv cl j)) := by
  rw [elem_f ev hu (IntBox.arrayAt_of TB.1.1 TB.1.2.1 TB.1.2.2) hj]
  exact TB.2.2.2 j (inb_of TB.2.1 ⟨hj, hj2⟩)
theorem pn_0 : plainName "com/example/conneg/conneg/header/FieldSyntax" = true := by first | (simp [plainName, overriddenIn]; done) | decide +kernel
theorem d1_0 : decode prog_13_method_3_code 0 = .ok (.iload_n 0, 1) := by decide +kernel
theorem d1_1 : decode prog_13_method_3_code 1 = .ok (.getstatic 7, 3) := by decide +kernel
theorem d1_4 : decode prog_13_method_3_code 4 = .ok (.arraylength, 1) := by decide +kernel
theorem d1_5 : decode prog_13_method_3_code 5 = .ok (.if_icmp .ge 15, 3) := by decide +kernel
theorem d1_8 : decode prog_13_method_3_code 8 = .ok (.getstatic 7, 3) := by decide +kernel
theorem d1_11 : decode prog_13_method_3_code 11 = .ok (.iload_n 0, 1) := by decide +kernel
theorem d1_12 : decode prog_13_method_3_code 12 = .ok (.baload, 1) := by decide +kernel
theorem d1_13 : decode prog_13_method_3_code 13 = .ok (.ifCond .eq 7, 3) := by decide +kernel
theorem d1_16 : decode prog_13_method_3_code 16 = .ok (.iconst 1, 1) := by decide +kernel
theorem d1_17 : decode prog_13_method_3_code 17 = .ok (.goto 4, 3) := by decide +kernel
theorem d1_20 : decode prog_13_method_3_code 20 = .ok (.iconst 0, 1) := by decide +kernel
theorem d1_21 : decode prog_13_method_3_code 21 = .ok (.ireturn, 1) := by decide +kernel
def Q1 (Z : State) (p1 : Int32) (w : Nat) (cl : Cell) (h0 : Heap) (n0 : Nat) (v : Option Value) (h : Heap) (L : List Loc) : Prop := v = some (.int (if p1 < 128 ∧ ¬ atv cl p1 = 0 then 1 else 0)) ∧ Fr n0 L ∧ h = h0
set_option maxRecDepth 65536 in
set_option maxHeartbeats 40000000 in
theorem rm1 (l : Launch) (Z : State) (a0 : Array Value) (hw : ∀ d ∈ tables_1, d.before a0 Z = true) (ws : List Jvm.Cond) (p1 : Int32) (w : Nat) (cl : Cell) (h0 : Heap) (n0 : Nat) (Z0 : n0 ≤ h0.size) (S_T : Sta Z h0 "com/example/conneg/conneg/header/FieldSyntax" "TOKEN_CHARS" "[Z" (.ref w)) (TB : Tab Z h0 w cl .boolean 128) (hp : 0 ≤ p1.toInt) :
    MetFree l (⟨"com/example/conneg/conneg/header/FieldSyntax", "isTokenChar", "(C)Z"⟩ : MethodName) (head1 (Jvm.Cond.code (⟨"com/example/conneg/conneg/header/FieldSyntax", "isTokenChar", "(C)Z"⟩ : MethodName) prog_13_method_3_code 1 (some .boolean) :: ws) ({ frames := 0, cells := 0, slots := 0, locals := 0 } : Room)) (fun a U => a = #[(.int p1)] ∧ Z.Warmed39 U.vm ∧ U.heap = h0) (fun _ _ _ _ _ => True) (fun _ U o U' => ∃ v L, o = .returned v ∧ Q1 Z p1 w cl h0 n0 v U'.heap L ∧ FrameEnd U o U' L ({ frames := 0, cells := 0, slots := 0, locals := 0 } : Room).cells ({ frames := 0, cells := 0, slots := 0, locals := 0 } : Room).slots) := by
  refine MetFree.of_bodySF (plainFor_of_name pn_0) hisR ?_
  intro p e s m args below meth c s₁ Bd hml0 hP hK
  obtain ⟨rfl, hZ, hh⟩ := hP
  have hx := Bd.exec
  have hby := Bd.bytes
  have hml : c.maxLocals = 1 := hml0
  have hown : s.vm.findClass "com/example/conneg/conneg/header/FieldSyntax" = some m.cls := findClass_of_methodNamed Bd.named
  have hnm := (name_of_methodNamed Bd.named Bd.method).1
  have hlk : meth.locks = false := BodyLoose.notSynchronized Bd
  have X0 : Stand p l e ({ frames := 0, cells := 0, slots := 0, locals := 0 } : Room) s m #[(.int p1)] below meth c s₁ [] 0 0 := Stand.of_body Bd
  have e0 : s₁.heap = h0 := by rw [← hh, Bd.state]; rfl
  have N0 := Fr.nil n0
  have hef : entryFrame m #[(.int p1)] 1 = mkF m 0 #[.val (.int p1)] [] := by first | (simp [entryFrame, mkF, argsToLocals, Value.category]; done) | rfl
  show Go p e below s ({ frames := 0, cells := 0, slots := 0, locals := 0 } : Room).cells ({ frames := 0, cells := 0, slots := 0, locals := 0 } : Room).slots (Q1 Z p1 w cl h0 n0) (s₁.setTop (entryFrame m #[(.int p1)] 1))
  rw [hef]
  refine Go.of (fun t k => XS.iloadN X0.here hx rfl (hb hby d1_0) rfl k) ?_
  show Go _ _ _ _ _ _ _ (s₁.setTop (mkF m 1 #[.val (.int p1)] [(.int p1)]))
  obtain ⟨T1, X1, e1, st1⟩ := getS2 X0 hx hZ hown (host := "") (Or.inl (hw _ (List.mem_of_getElem? (i := 4) rfl))) Via.refl e0 S_T (g := (mkF m 1 #[.val (.int p1)] [(.int p1)])) rfl (hb hby d1_1)
  refine Go.of st1 ?_
  show Go _ _ _ _ _ _ _ (T1.setTop (mkF m 4 #[.val (.int p1)] [(.ref w), (.int p1)]))
  refine Go.of (X1.arraylength hx (by rw [e1]; exact TB.1.1) (State.isArrayOf_alike hZ.alike TB.1.2.1) (g := (mkF m 4 #[.val (.int p1)] [(.ref w), (.int p1)])) rfl rfl (hb hby d1_4)) ?_
  rw [len_of TB.2.1 TB.2.2.1]
  show Go _ _ _ _ _ _ _ (T1.setTop (mkF m 5 #[.val (.int p1)] [(.int (128 : Int32)), (.int p1)]))
  by_cases hc5_2 : p1 < (128 : Int32)
  · skip
    refine Go.of (fun t k => XS.icmpNo X1.here hx rfl (hb hby d1_5) rfl (tlt hc5_2).2.1 k) ?_
    show Go _ _ _ _ _ _ _ (T1.setTop (mkF m 8 #[.val (.int p1)] []))
    obtain ⟨T3, X3, e3, st3⟩ := getS2 X1 hx hZ hown (host := "") (Or.inl (hw _ (List.mem_of_getElem? (i := 4) rfl))) Via.refl e1 S_T (g := (mkF m 8 #[.val (.int p1)] [])) rfl (hb hby d1_8)
    refine Go.of st3 ?_
    show Go _ _ _ _ _ _ _ (T3.setTop (mkF m 11 #[.val (.int p1)] [(.ref w)]))
    refine Go.of (fun t k => XS.iloadN X3.here hx rfl (hb hby d1_11) rfl k) ?_
    show Go _ _ _ _ _ _ _ (T3.setTop (mkF m 12 #[.val (.int p1)] [(.int p1), (.ref w)]))
    have hin4 := inb_of TB.2.1 (j := p1) ⟨fun q => absurd (own_lt1 (k := 0) (by decide) q) (by omega), hc5_2⟩
    refine Go.of (X3.baloadBooleans hx (j := p1) (v := (.int (atv cl p1))) (by rw [e3]; exact TB.1.1) (State.isArrayOf_alike hZ.alike TB.1.2.1) TB.1.2.2 hin4 (TB.2.2.2 p1 hin4) (g := (mkF m 12 #[.val (.int p1)] [(.int p1), (.ref w)])) rfl rfl (hb hby d1_12)) ?_
    show Go _ _ _ _ _ _ _ (T3.setTop (mkF m 13 #[.val (.int p1)] [(.int (atv cl p1))]))
    by_cases hc13_5 : (atv cl p1) = (0 : Int32)
    · skip
      refine Go.of (fun t k => XS.ifYes X3.here hx rfl (pc0 := 13) (pc' := 20) rfl (hb hby d1_13) rfl ((if0 _ _).trans (teq hc13_5).1) (by decide) (by decide) k) ?_
      show Go _ _ _ _ _ _ _ (T3.setTop (mkF m 20 #[.val (.int p1)] []))
      refine Go.of (fun t k => XS.iconst X3.here hx rfl (hb hby d1_20) k) ?_
      show Go _ _ _ _ _ _ _ (T3.setTop (mkF m 21 #[.val (.int p1)] [(.int (0 : Int32))]))
      refine Go.out X3 (v := some (.int (0 : Int32))) (fun h => by rw [Bd.returns] at h; cases h) hlk (fun fs hr => retN X3 hx (t := .boolean) Bd.returns (by simp) (hb hby d1_21) hr) ?_ (by decide) (by decide)
      show Q1 Z p1 w cl h0 n0 _ T3.heap _
      rw [e3]
      exact ⟨by simp [hc5_2, hc13_5], N0, rfl⟩
    · skip
      refine Go.of (fun t k => XS.ifNo X3.here hx rfl (hb hby d1_13) rfl ((if0 _ _).trans (feq hc13_5).1) k) ?_
      show Go _ _ _ _ _ _ _ (T3.setTop (mkF m 16 #[.val (.int p1)] []))
      refine Go.of (fun t k => XS.iconst X3.here hx rfl (hb hby d1_16) k) ?_
      show Go _ _ _ _ _ _ _ (T3.setTop (mkF m 17 #[.val (.int p1)] [(.int (1 : Int32))]))
      refine Go.of (fun t k => XS.goto X3.here hx rfl (pc0 := 17) (pc' := 21) rfl (hb hby d1_17) (by decide) (by decide) k) ?_
      show Go _ _ _ _ _ _ _ (T3.setTop (mkF m 21 #[.val (.int p1)] [(.int (1 : Int32))]))
      refine Go.out X3 (v := some (.int (1 : Int32))) (fun h => by rw [Bd.returns] at h; cases h) hlk (fun fs hr => retN X3 hx (t := .boolean) Bd.returns (by simp) (hb hby d1_21) hr) ?_ (by decide) (by decide)
      show Q1 Z p1 w cl h0 n0 _ T3.heap _
      rw [e3]
      exact ⟨by simp [hc5_2, hc13_5], N0, rfl⟩
  · skip
    refine Go.of (fun t k => XS.icmpYes X1.here hx rfl (pc0 := 5) (pc' := 20) rfl (hb hby d1_5) rfl (flt hc5_2).2.1 (by decide) (by decide) k) ?_
    show Go _ _ _ _ _ _ _ (T1.setTop (mkF m 20 #[.val (.int p1)] []))
    refine Go.of (fun t k => XS.iconst X1.here hx rfl (hb hby d1_20) k) ?_
    show Go _ _ _ _ _ _ _ (T1.setTop (mkF m 21 #[.val (.int p1)] [(.int (0 : Int32))]))
    refine Go.out X1 (v := some (.int (0 : Int32))) (fun h => by rw [Bd.returns] at h; cases h) hlk (fun fs hr => retN X1 hx (t := .boolean) Bd.returns (by simp) (hb hby d1_21) hr) ?_ (by decide) (by decide)
    show Q1 Z p1 w cl h0 n0 _ T1.heap _
    rw [e1]
    exact ⟨by simp [hc5_2], N0, rfl⟩
theorem pn_1 : plainName "com/example/conneg/conneg/header/FieldSyntaxIsTokenCharPinLaw" = true := by first | (simp [plainName, overriddenIn]; done) | decide +kernel
theorem d2_0 : decode method_2_code 0 = .ok (.iload_n 0, 1) := by decide +kernel
theorem d2_1 : decode method_2_code 1 = .ok (.bipush 97, 2) := by decide +kernel
theorem d2_3 : decode method_2_code 3 = .ok (.if_icmp .lt 11, 3) := by decide +kernel
theorem d2_6 : decode method_2_code 6 = .ok (.iload_n 0, 1) := by decide +kernel
theorem d2_7 : decode method_2_code 7 = .ok (.bipush 122, 2) := by decide +kernel
theorem d2_9 : decode method_2_code 9 = .ok (.if_icmp .gt 5, 3) := by decide +kernel
theorem d2_12 : decode method_2_code 12 = .ok (.iconst 1, 1) := by decide +kernel
theorem d2_13 : decode method_2_code 13 = .ok (.ireturn, 1) := by decide +kernel
theorem d2_14 : decode method_2_code 14 = .ok (.iload_n 0, 1) := by decide +kernel
theorem d2_15 : decode method_2_code 15 = .ok (.bipush 65, 2) := by decide +kernel
theorem d2_17 : decode method_2_code 17 = .ok (.if_icmp .lt 11, 3) := by decide +kernel
theorem d2_20 : decode method_2_code 20 = .ok (.iload_n 0, 1) := by decide +kernel
theorem d2_21 : decode method_2_code 21 = .ok (.bipush 90, 2) := by decide +kernel
theorem d2_23 : decode method_2_code 23 = .ok (.if_icmp .gt 5, 3) := by decide +kernel
theorem d2_26 : decode method_2_code 26 = .ok (.iconst 1, 1) := by decide +kernel
theorem d2_27 : decode method_2_code 27 = .ok (.ireturn, 1) := by decide +kernel
theorem d2_28 : decode method_2_code 28 = .ok (.iload_n 0, 1) := by decide +kernel
theorem d2_29 : decode method_2_code 29 = .ok (.bipush 48, 2) := by decide +kernel
theorem d2_31 : decode method_2_code 31 = .ok (.if_icmp .lt 11, 3) := by decide +kernel
theorem d2_34 : decode method_2_code 34 = .ok (.iload_n 0, 1) := by decide +kernel
theorem d2_35 : decode method_2_code 35 = .ok (.bipush 57, 2) := by decide +kernel
theorem d2_37 : decode method_2_code 37 = .ok (.if_icmp .gt 5, 3) := by decide +kernel
theorem d2_40 : decode method_2_code 40 = .ok (.iconst 1, 1) := by decide +kernel
theorem d2_41 : decode method_2_code 41 = .ok (.ireturn, 1) := by decide +kernel
theorem d2_42 : decode method_2_code 42 = .ok (.iload_n 0, 1) := by decide +kernel
theorem d2_43 : decode method_2_code 43 = .ok (.bipush 33, 2) := by decide +kernel
theorem d2_45 : decode method_2_code 45 = .ok (.if_icmp .eq 87, 3) := by decide +kernel
theorem d2_48 : decode method_2_code 48 = .ok (.iload_n 0, 1) := by decide +kernel
theorem d2_49 : decode method_2_code 49 = .ok (.bipush 35, 2) := by decide +kernel
theorem d2_51 : decode method_2_code 51 = .ok (.if_icmp .eq 81, 3) := by decide +kernel
theorem d2_54 : decode method_2_code 54 = .ok (.iload_n 0, 1) := by decide +kernel
theorem d2_55 : decode method_2_code 55 = .ok (.bipush 36, 2) := by decide +kernel
theorem d2_57 : decode method_2_code 57 = .ok (.if_icmp .eq 75, 3) := by decide +kernel
theorem d2_60 : decode method_2_code 60 = .ok (.iload_n 0, 1) := by decide +kernel
theorem d2_61 : decode method_2_code 61 = .ok (.bipush 37, 2) := by decide +kernel
theorem d2_63 : decode method_2_code 63 = .ok (.if_icmp .eq 69, 3) := by decide +kernel
theorem d2_66 : decode method_2_code 66 = .ok (.iload_n 0, 1) := by decide +kernel
theorem d2_67 : decode method_2_code 67 = .ok (.bipush 38, 2) := by decide +kernel
theorem d2_69 : decode method_2_code 69 = .ok (.if_icmp .eq 63, 3) := by decide +kernel
theorem d2_72 : decode method_2_code 72 = .ok (.iload_n 0, 1) := by decide +kernel
theorem d2_73 : decode method_2_code 73 = .ok (.bipush 39, 2) := by decide +kernel
theorem d2_75 : decode method_2_code 75 = .ok (.if_icmp .eq 57, 3) := by decide +kernel
theorem d2_78 : decode method_2_code 78 = .ok (.iload_n 0, 1) := by decide +kernel
theorem d2_79 : decode method_2_code 79 = .ok (.bipush 42, 2) := by decide +kernel
theorem d2_81 : decode method_2_code 81 = .ok (.if_icmp .eq 51, 3) := by decide +kernel
theorem d2_84 : decode method_2_code 84 = .ok (.iload_n 0, 1) := by decide +kernel
theorem d2_85 : decode method_2_code 85 = .ok (.bipush 43, 2) := by decide +kernel
theorem d2_87 : decode method_2_code 87 = .ok (.if_icmp .eq 45, 3) := by decide +kernel
theorem d2_90 : decode method_2_code 90 = .ok (.iload_n 0, 1) := by decide +kernel
theorem d2_91 : decode method_2_code 91 = .ok (.bipush 45, 2) := by decide +kernel
theorem d2_93 : decode method_2_code 93 = .ok (.if_icmp .eq 39, 3) := by decide +kernel
theorem d2_96 : decode method_2_code 96 = .ok (.iload_n 0, 1) := by decide +kernel
theorem d2_97 : decode method_2_code 97 = .ok (.bipush 46, 2) := by decide +kernel
theorem d2_99 : decode method_2_code 99 = .ok (.if_icmp .eq 33, 3) := by decide +kernel
theorem d2_102 : decode method_2_code 102 = .ok (.iload_n 0, 1) := by decide +kernel
theorem d2_103 : decode method_2_code 103 = .ok (.bipush 94, 2) := by decide +kernel
theorem d2_105 : decode method_2_code 105 = .ok (.if_icmp .eq 27, 3) := by decide +kernel
theorem d2_108 : decode method_2_code 108 = .ok (.iload_n 0, 1) := by decide +kernel
theorem d2_109 : decode method_2_code 109 = .ok (.bipush 95, 2) := by decide +kernel
theorem d2_111 : decode method_2_code 111 = .ok (.if_icmp .eq 21, 3) := by decide +kernel
theorem d2_114 : decode method_2_code 114 = .ok (.iload_n 0, 1) := by decide +kernel
theorem d2_115 : decode method_2_code 115 = .ok (.bipush 96, 2) := by decide +kernel
theorem d2_117 : decode method_2_code 117 = .ok (.if_icmp .eq 15, 3) := by decide +kernel
theorem d2_120 : decode method_2_code 120 = .ok (.iload_n 0, 1) := by decide +kernel
theorem d2_121 : decode method_2_code 121 = .ok (.bipush 124, 2) := by decide +kernel
theorem d2_123 : decode method_2_code 123 = .ok (.if_icmp .eq 9, 3) := by decide +kernel
theorem d2_126 : decode method_2_code 126 = .ok (.iload_n 0, 1) := by decide +kernel
theorem d2_127 : decode method_2_code 127 = .ok (.bipush 126, 2) := by decide +kernel
theorem d2_129 : decode method_2_code 129 = .ok (.if_icmp .ne 7, 3) := by decide +kernel
theorem d2_132 : decode method_2_code 132 = .ok (.iconst 1, 1) := by decide +kernel
theorem d2_133 : decode method_2_code 133 = .ok (.goto 4, 3) := by decide +kernel
theorem d2_136 : decode method_2_code 136 = .ok (.iconst 0, 1) := by decide +kernel
theorem d2_137 : decode method_2_code 137 = .ok (.ireturn, 1) := by decide +kernel
def Q2 (Z : State) (p1 : Int32) (h0 : Heap) (n0 : Nat) (v : Option Value) (h : Heap) (L : List Loc) : Prop := v = some (.int (own_tok p1.toInt)) ∧ Fr n0 L ∧ h = h0
set_option maxRecDepth 65536 in
set_option maxHeartbeats 40000000 in
theorem rm2 (l : Launch) (Z : State) (a0 : Array Value) (hw : ∀ d ∈ tables_1, d.before a0 Z = true) (ws : List Jvm.Cond) (p1 : Int32) (h0 : Heap) (n0 : Nat) (Z0 : n0 ≤ h0.size) :
    MetFree l (⟨"com/example/conneg/conneg/header/FieldSyntaxIsTokenCharPinLaw", "expectedTchar", "(C)Z"⟩ : MethodName) (head1 (Jvm.Cond.code (⟨"com/example/conneg/conneg/header/FieldSyntaxIsTokenCharPinLaw", "expectedTchar", "(C)Z"⟩ : MethodName) method_2_code 1 (some .boolean) :: ws) ({ frames := 0, cells := 0, slots := 0, locals := 0 } : Room)) (fun a U => a = #[(.int p1)] ∧ Z.Warmed39 U.vm ∧ U.heap = h0) (fun _ _ _ _ _ => True) (fun _ U o U' => ∃ v L, o = .returned v ∧ Q2 Z p1 h0 n0 v U'.heap L ∧ FrameEnd U o U' L ({ frames := 0, cells := 0, slots := 0, locals := 0 } : Room).cells ({ frames := 0, cells := 0, slots := 0, locals := 0 } : Room).slots) := by
  refine MetFree.of_bodySF (plainFor_of_name pn_1) hisR ?_
  intro p e s m args below meth c s₁ Bd hml0 hP hK
  obtain ⟨rfl, hZ, hh⟩ := hP
  have hx := Bd.exec
  have hby := Bd.bytes
  have hml : c.maxLocals = 1 := hml0
  have hown : s.vm.findClass "com/example/conneg/conneg/header/FieldSyntaxIsTokenCharPinLaw" = some m.cls := findClass_of_methodNamed Bd.named
  have hnm := (name_of_methodNamed Bd.named Bd.method).1
  have hlk : meth.locks = false := BodyLoose.notSynchronized Bd
  have X0 : Stand p l e ({ frames := 0, cells := 0, slots := 0, locals := 0 } : Room) s m #[(.int p1)] below meth c s₁ [] 0 0 := Stand.of_body Bd
  have e0 : s₁.heap = h0 := by rw [← hh, Bd.state]; rfl
  have N0 := Fr.nil n0
  have hef : entryFrame m #[(.int p1)] 1 = mkF m 0 #[.val (.int p1)] [] := by first | (simp [entryFrame, mkF, argsToLocals, Value.category]; done) | rfl
  show Go p e below s ({ frames := 0, cells := 0, slots := 0, locals := 0 } : Room).cells ({ frames := 0, cells := 0, slots := 0, locals := 0 } : Room).slots (Q2 Z p1 h0 n0) (s₁.setTop (entryFrame m #[(.int p1)] 1))
  rw [hef]
  refine Go.of (fun t k => XS.iloadN X0.here hx rfl (hb hby d2_0) rfl k) ?_
  show Go _ _ _ _ _ _ _ (s₁.setTop (mkF m 1 #[.val (.int p1)] [(.int p1)]))
  refine Go.of (fun t k => XS.bipush X0.here hx rfl (hb hby d2_1) k) ?_
  show Go _ _ _ _ _ _ _ (s₁.setTop (mkF m 3 #[.val (.int p1)] [(.int (97 : Int32)), (.int p1)]))
  have k14_2 : ∀ (h14 : ¬ (97 ≤ p1.toInt ∧ p1.toInt ≤ 122)), Go p e below s ({ frames := 0, cells := 0, slots := 0, locals := 0 } : Room).cells ({ frames := 0, cells := 0, slots := 0, locals := 0 } : Room).slots (Q2 Z p1 h0 n0) (s₁.setTop (mkF m 14 #[.val (.int p1)] [])) := by
    intro h14
    refine Go.of (fun t k => XS.iloadN X0.here hx rfl (hb hby d2_14) rfl k) ?_
    show Go _ _ _ _ _ _ _ (s₁.setTop (mkF m 15 #[.val (.int p1)] [(.int p1)]))
    refine Go.of (fun t k => XS.bipush X0.here hx rfl (hb hby d2_15) k) ?_
    show Go _ _ _ _ _ _ _ (s₁.setTop (mkF m 17 #[.val (.int p1)] [(.int (65 : Int32)), (.int p1)]))
    have k28_4 : ∀ (h28 : ¬ (65 ≤ p1.toInt ∧ p1.toInt ≤ 90)), Go p e below s ({ frames := 0, cells := 0, slots := 0, locals := 0 } : Room).cells ({ frames := 0, cells := 0, slots := 0, locals := 0 } : Room).slots (Q2 Z p1 h0 n0) (s₁.setTop (mkF m 28 #[.val (.int p1)] [])) := by
      intro h28
      refine Go.of (fun t k => XS.iloadN X0.here hx rfl (hb hby d2_28) rfl k) ?_
      show Go _ _ _ _ _ _ _ (s₁.setTop (mkF m 29 #[.val (.int p1)] [(.int p1)]))
      refine Go.of (fun t k => XS.bipush X0.here hx rfl (hb hby d2_29) k) ?_
      show Go _ _ _ _ _ _ _ (s₁.setTop (mkF m 31 #[.val (.int p1)] [(.int (48 : Int32)), (.int p1)]))
      have k42_6 : ∀ (h42 : ¬ (48 ≤ p1.toInt ∧ p1.toInt ≤ 57)), Go p e below s ({ frames := 0, cells := 0, slots := 0, locals := 0 } : Room).cells ({ frames := 0, cells := 0, slots := 0, locals := 0 } : Room).slots (Q2 Z p1 h0 n0) (s₁.setTop (mkF m 42 #[.val (.int p1)] [])) := by
        intro h42
        refine Go.of (fun t k => XS.iloadN X0.here hx rfl (hb hby d2_42) rfl k) ?_
        show Go _ _ _ _ _ _ _ (s₁.setTop (mkF m 43 #[.val (.int p1)] [(.int p1)]))
        refine Go.of (fun t k => XS.bipush X0.here hx rfl (hb hby d2_43) k) ?_
        show Go _ _ _ _ _ _ _ (s₁.setTop (mkF m 45 #[.val (.int p1)] [(.int (33 : Int32)), (.int p1)]))
        by_cases hc45_7 : p1 = (33 : Int32)
        · skip
          refine Go.of (fun t k => XS.icmpYes X0.here hx rfl (pc0 := 45) (pc' := 132) rfl (hb hby d2_45) rfl (teq hc45_7).1 (by decide) (by decide) k) ?_
          show Go _ _ _ _ _ _ _ (s₁.setTop (mkF m 132 #[.val (.int p1)] []))
          refine Go.of (fun t k => XS.iconst X0.here hx rfl (hb hby d2_132) k) ?_
          show Go _ _ _ _ _ _ _ (s₁.setTop (mkF m 133 #[.val (.int p1)] [(.int (1 : Int32))]))
          refine Go.of (fun t k => XS.goto X0.here hx rfl (pc0 := 133) (pc' := 137) rfl (hb hby d2_133) (by decide) (by decide) k) ?_
          show Go _ _ _ _ _ _ _ (s₁.setTop (mkF m 137 #[.val (.int p1)] [(.int (1 : Int32))]))
          refine Go.out X0 (v := some (.int (1 : Int32))) (fun h => by rw [Bd.returns] at h; cases h) hlk (fun fs hr => retN X0 hx (t := .boolean) Bd.returns (by simp) (hb hby d2_137) hr) ?_ (by decide) (by decide)
          show Q2 Z p1 h0 n0 _ s₁.heap _
          have := own_eq1 (k := 33) (by decide) hc45_7
          rw [e0]
          exact ⟨by rw [own_yes (by omega)], N0, rfl⟩
        · skip
          refine Go.of (fun t k => XS.icmpNo X0.here hx rfl (hb hby d2_45) rfl (feq hc45_7).1 k) ?_
          show Go _ _ _ _ _ _ _ (s₁.setTop (mkF m 48 #[.val (.int p1)] []))
          refine Go.of (fun t k => XS.iloadN X0.here hx rfl (hb hby d2_48) rfl k) ?_
          show Go _ _ _ _ _ _ _ (s₁.setTop (mkF m 49 #[.val (.int p1)] [(.int p1)]))
          refine Go.of (fun t k => XS.bipush X0.here hx rfl (hb hby d2_49) k) ?_
          show Go _ _ _ _ _ _ _ (s₁.setTop (mkF m 51 #[.val (.int p1)] [(.int (35 : Int32)), (.int p1)]))
          by_cases hc51_8 : p1 = (35 : Int32)
          · skip
            refine Go.of (fun t k => XS.icmpYes X0.here hx rfl (pc0 := 51) (pc' := 132) rfl (hb hby d2_51) rfl (teq hc51_8).1 (by decide) (by decide) k) ?_
            show Go _ _ _ _ _ _ _ (s₁.setTop (mkF m 132 #[.val (.int p1)] []))
            refine Go.of (fun t k => XS.iconst X0.here hx rfl (hb hby d2_132) k) ?_
            show Go _ _ _ _ _ _ _ (s₁.setTop (mkF m 133 #[.val (.int p1)] [(.int (1 : Int32))]))
            refine Go.of (fun t k => XS.goto X0.here hx rfl (pc0 := 133) (pc' := 137) rfl (hb hby d2_133) (by decide) (by decide) k) ?_
            show Go _ _ _ _ _ _ _ (s₁.setTop (mkF m 137 #[.val (.int p1)] [(.int (1 : Int32))]))
            refine Go.out X0 (v := some (.int (1 : Int32))) (fun h => by rw [Bd.returns] at h; cases h) hlk (fun fs hr => retN X0 hx (t := .boolean) Bd.returns (by simp) (hb hby d2_137) hr) ?_ (by decide) (by decide)
            show Q2 Z p1 h0 n0 _ s₁.heap _
            have := own_ne1 (k := 33) (by decide) hc45_7
            have := own_eq1 (k := 35) (by decide) hc51_8
            rw [e0]
            exact ⟨by rw [own_yes (by omega)], N0, rfl⟩
          · skip
            refine Go.of (fun t k => XS.icmpNo X0.here hx rfl (hb hby d2_51) rfl (feq hc51_8).1 k) ?_
            show Go _ _ _ _ _ _ _ (s₁.setTop (mkF m 54 #[.val (.int p1)] []))
            refine Go.of (fun t k => XS.iloadN X0.here hx rfl (hb hby d2_54) rfl k) ?_
            show Go _ _ _ _ _ _ _ (s₁.setTop (mkF m 55 #[.val (.int p1)] [(.int p1)]))
            refine Go.of (fun t k => XS.bipush X0.here hx rfl (hb hby d2_55) k) ?_
            show Go _ _ _ _ _ _ _ (s₁.setTop (mkF m 57 #[.val (.int p1)] [(.int (36 : Int32)), (.int p1)]))
            by_cases hc57_9 : p1 = (36 : Int32)
            · skip
              refine Go.of (fun t k => XS.icmpYes X0.here hx rfl (pc0 := 57) (pc' := 132) rfl (hb hby d2_57) rfl (teq hc57_9).1 (by decide) (by decide) k) ?_
              show Go _ _ _ _ _ _ _ (s₁.setTop (mkF m 132 #[.val (.int p1)] []))
              refine Go.of (fun t k => XS.iconst X0.here hx rfl (hb hby d2_132) k) ?_
              show Go _ _ _ _ _ _ _ (s₁.setTop (mkF m 133 #[.val (.int p1)] [(.int (1 : Int32))]))
              refine Go.of (fun t k => XS.goto X0.here hx rfl (pc0 := 133) (pc' := 137) rfl (hb hby d2_133) (by decide) (by decide) k) ?_
              show Go _ _ _ _ _ _ _ (s₁.setTop (mkF m 137 #[.val (.int p1)] [(.int (1 : Int32))]))
              refine Go.out X0 (v := some (.int (1 : Int32))) (fun h => by rw [Bd.returns] at h; cases h) hlk (fun fs hr => retN X0 hx (t := .boolean) Bd.returns (by simp) (hb hby d2_137) hr) ?_ (by decide) (by decide)
              show Q2 Z p1 h0 n0 _ s₁.heap _
              have := own_ne1 (k := 33) (by decide) hc45_7
              have := own_ne1 (k := 35) (by decide) hc51_8
              have := own_eq1 (k := 36) (by decide) hc57_9
              rw [e0]
              exact ⟨by rw [own_yes (by omega)], N0, rfl⟩
            · skip
              refine Go.of (fun t k => XS.icmpNo X0.here hx rfl (hb hby d2_57) rfl (feq hc57_9).1 k) ?_
              show Go _ _ _ _ _ _ _ (s₁.setTop (mkF m 60 #[.val (.int p1)] []))
              refine Go.of (fun t k => XS.iloadN X0.here hx rfl (hb hby d2_60) rfl k) ?_
              show Go _ _ _ _ _ _ _ (s₁.setTop (mkF m 61 #[.val (.int p1)] [(.int p1)]))
              refine Go.of (fun t k => XS.bipush X0.here hx rfl (hb hby d2_61) k) ?_
              show Go _ _ _ _ _ _ _ (s₁.setTop (mkF m 63 #[.val (.int p1)] [(.int (37 : Int32)), (.int p1)]))
              by_cases hc63_10 : p1 = (37 : Int32)
              · skip
                refine Go.of (fun t k => XS.icmpYes X0.here hx rfl (pc0 := 63) (pc' := 132) rfl (hb hby d2_63) rfl (teq hc63_10).1 (by decide) (by decide) k) ?_
                show Go _ _ _ _ _ _ _ (s₁.setTop (mkF m 132 #[.val (.int p1)] []))
                refine Go.of (fun t k => XS.iconst X0.here hx rfl (hb hby d2_132) k) ?_
                show Go _ _ _ _ _ _ _ (s₁.setTop (mkF m 133 #[.val (.int p1)] [(.int (1 : Int32))]))
                refine Go.of (fun t k => XS.goto X0.here hx rfl (pc0 := 133) (pc' := 137) rfl (hb hby d2_133) (by decide) (by decide) k) ?_
                show Go _ _ _ _ _ _ _ (s₁.setTop (mkF m 137 #[.val (.int p1)] [(.int (1 : Int32))]))
                refine Go.out X0 (v := some (.int (1 : Int32))) (fun h => by rw [Bd.returns] at h; cases h) hlk (fun fs hr => retN X0 hx (t := .boolean) Bd.returns (by simp) (hb hby d2_137) hr) ?_ (by decide) (by decide)
                show Q2 Z p1 h0 n0 _ s₁.heap _
                have := own_ne1 (k := 33) (by decide) hc45_7
                have := own_ne1 (k := 35) (by decide) hc51_8
                have := own_ne1 (k := 36) (by decide) hc57_9
                have := own_eq1 (k := 37) (by decide) hc63_10
                rw [e0]
                exact ⟨by rw [own_yes (by omega)], N0, rfl⟩
              · skip
                refine Go.of (fun t k => XS.icmpNo X0.here hx rfl (hb hby d2_63) rfl (feq hc63_10).1 k) ?_
                show Go _ _ _ _ _ _ _ (s₁.setTop (mkF m 66 #[.val (.int p1)] []))
                refine Go.of (fun t k => XS.iloadN X0.here hx rfl (hb hby d2_66) rfl k) ?_
                show Go _ _ _ _ _ _ _ (s₁.setTop (mkF m 67 #[.val (.int p1)] [(.int p1)]))
                refine Go.of (fun t k => XS.bipush X0.here hx rfl (hb hby d2_67) k) ?_
                show Go _ _ _ _ _ _ _ (s₁.setTop (mkF m 69 #[.val (.int p1)] [(.int (38 : Int32)), (.int p1)]))
                by_cases hc69_11 : p1 = (38 : Int32)
                · skip
                  refine Go.of (fun t k => XS.icmpYes X0.here hx rfl (pc0 := 69) (pc' := 132) rfl (hb hby d2_69) rfl (teq hc69_11).1 (by decide) (by decide) k) ?_
                  show Go _ _ _ _ _ _ _ (s₁.setTop (mkF m 132 #[.val (.int p1)] []))
                  refine Go.of (fun t k => XS.iconst X0.here hx rfl (hb hby d2_132) k) ?_
                  show Go _ _ _ _ _ _ _ (s₁.setTop (mkF m 133 #[.val (.int p1)] [(.int (1 : Int32))]))
                  refine Go.of (fun t k => XS.goto X0.here hx rfl (pc0 := 133) (pc' := 137) rfl (hb hby d2_133) (by decide) (by decide) k) ?_
                  show Go _ _ _ _ _ _ _ (s₁.setTop (mkF m 137 #[.val (.int p1)] [(.int (1 : Int32))]))
                  refine Go.out X0 (v := some (.int (1 : Int32))) (fun h => by rw [Bd.returns] at h; cases h) hlk (fun fs hr => retN X0 hx (t := .boolean) Bd.returns (by simp) (hb hby d2_137) hr) ?_ (by decide) (by decide)
                  show Q2 Z p1 h0 n0 _ s₁.heap _
                  have := own_ne1 (k := 33) (by decide) hc45_7
                  have := own_ne1 (k := 35) (by decide) hc51_8
                  have := own_ne1 (k := 36) (by decide) hc57_9
                  have := own_ne1 (k := 37) (by decide) hc63_10
                  have := own_eq1 (k := 38) (by decide) hc69_11
                  rw [e0]
                  exact ⟨by rw [own_yes (by omega)], N0, rfl⟩
                · skip
                  refine Go.of (fun t k => XS.icmpNo X0.here hx rfl (hb hby d2_69) rfl (feq hc69_11).1 k) ?_
                  show Go _ _ _ _ _ _ _ (s₁.setTop (mkF m 72 #[.val (.int p1)] []))
                  refine Go.of (fun t k => XS.iloadN X0.here hx rfl (hb hby d2_72) rfl k) ?_
                  show Go _ _ _ _ _ _ _ (s₁.setTop (mkF m 73 #[.val (.int p1)] [(.int p1)]))
                  refine Go.of (fun t k => XS.bipush X0.here hx rfl (hb hby d2_73) k) ?_
                  show Go _ _ _ _ _ _ _ (s₁.setTop (mkF m 75 #[.val (.int p1)] [(.int (39 : Int32)), (.int p1)]))
                  by_cases hc75_12 : p1 = (39 : Int32)
                  · skip
                    refine Go.of (fun t k => XS.icmpYes X0.here hx rfl (pc0 := 75) (pc' := 132) rfl (hb hby d2_75) rfl (teq hc75_12).1 (by decide) (by decide) k) ?_
                    show Go _ _ _ _ _ _ _ (s₁.setTop (mkF m 132 #[.val (.int p1)] []))
                    refine Go.of (fun t k => XS.iconst X0.here hx rfl (hb hby d2_132) k) ?_
                    show Go _ _ _ _ _ _ _ (s₁.setTop (mkF m 133 #[.val (.int p1)] [(.int (1 : Int32))]))
                    refine Go.of (fun t k => XS.goto X0.here hx rfl (pc0 := 133) (pc' := 137) rfl (hb hby d2_133) (by decide) (by decide) k) ?_
                    show Go _ _ _ _ _ _ _ (s₁.setTop (mkF m 137 #[.val (.int p1)] [(.int (1 : Int32))]))
                    refine Go.out X0 (v := some (.int (1 : Int32))) (fun h => by rw [Bd.returns] at h; cases h) hlk (fun fs hr => retN X0 hx (t := .boolean) Bd.returns (by simp) (hb hby d2_137) hr) ?_ (by decide) (by decide)
                    show Q2 Z p1 h0 n0 _ s₁.heap _
                    have := own_ne1 (k := 33) (by decide) hc45_7
                    have := own_ne1 (k := 35) (by decide) hc51_8
                    have := own_ne1 (k := 36) (by decide) hc57_9
                    have := own_ne1 (k := 37) (by decide) hc63_10
                    have := own_ne1 (k := 38) (by decide) hc69_11
                    have := own_eq1 (k := 39) (by decide) hc75_12
                    rw [e0]
                    exact ⟨by rw [own_yes (by omega)], N0, rfl⟩
                  · skip
                    refine Go.of (fun t k => XS.icmpNo X0.here hx rfl (hb hby d2_75) rfl (feq hc75_12).1 k) ?_
                    show Go _ _ _ _ _ _ _ (s₁.setTop (mkF m 78 #[.val (.int p1)] []))
                    refine Go.of (fun t k => XS.iloadN X0.here hx rfl (hb hby d2_78) rfl k) ?_
                    show Go _ _ _ _ _ _ _ (s₁.setTop (mkF m 79 #[.val (.int p1)] [(.int p1)]))
                    refine Go.of (fun t k => XS.bipush X0.here hx rfl (hb hby d2_79) k) ?_
                    show Go _ _ _ _ _ _ _ (s₁.setTop (mkF m 81 #[.val (.int p1)] [(.int (42 : Int32)), (.int p1)]))
                    by_cases hc81_13 : p1 = (42 : Int32)
                    · skip
                      refine Go.of (fun t k => XS.icmpYes X0.here hx rfl (pc0 := 81) (pc' := 132) rfl (hb hby d2_81) rfl (teq hc81_13).1 (by decide) (by decide) k) ?_
                      show Go _ _ _ _ _ _ _ (s₁.setTop (mkF m 132 #[.val (.int p1)] []))
                      refine Go.of (fun t k => XS.iconst X0.here hx rfl (hb hby d2_132) k) ?_
                      show Go _ _ _ _ _ _ _ (s₁.setTop (mkF m 133 #[.val (.int p1)] [(.int (1 : Int32))]))
                      refine Go.of (fun t k => XS.goto X0.here hx rfl (pc0 := 133) (pc' := 137) rfl (hb hby d2_133) (by decide) (by decide) k) ?_
                      show Go _ _ _ _ _ _ _ (s₁.setTop (mkF m 137 #[.val (.int p1)] [(.int (1 : Int32))]))
                      refine Go.out X0 (v := some (.int (1 : Int32))) (fun h => by rw [Bd.returns] at h; cases h) hlk (fun fs hr => retN X0 hx (t := .boolean) Bd.returns (by simp) (hb hby d2_137) hr) ?_ (by decide) (by decide)
                      show Q2 Z p1 h0 n0 _ s₁.heap _
                      have := own_ne1 (k := 33) (by decide) hc45_7
                      have := own_ne1 (k := 35) (by decide) hc51_8
                      have := own_ne1 (k := 36) (by decide) hc57_9
                      have := own_ne1 (k := 37) (by decide) hc63_10
                      have := own_ne1 (k := 38) (by decide) hc69_11
                      have := own_ne1 (k := 39) (by decide) hc75_12
                      have := own_eq1 (k := 42) (by decide) hc81_13
                      rw [e0]
                      exact ⟨by rw [own_yes (by omega)], N0, rfl⟩
                    · skip
                      refine Go.of (fun t k => XS.icmpNo X0.here hx rfl (hb hby d2_81) rfl (feq hc81_13).1 k) ?_
                      show Go _ _ _ _ _ _ _ (s₁.setTop (mkF m 84 #[.val (.int p1)] []))
                      refine Go.of (fun t k => XS.iloadN X0.here hx rfl (hb hby d2_84) rfl k) ?_
                      show Go _ _ _ _ _ _ _ (s₁.setTop (mkF m 85 #[.val (.int p1)] [(.int p1)]))
                      refine Go.of (fun t k => XS.bipush X0.here hx rfl (hb hby d2_85) k) ?_
                      show Go _ _ _ _ _ _ _ (s₁.setTop (mkF m 87 #[.val (.int p1)] [(.int (43 : Int32)), (.int p1)]))
                      by_cases hc87_14 : p1 = (43 : Int32)
                      · skip
                        refine Go.of (fun t k => XS.icmpYes X0.here hx rfl (pc0 := 87) (pc' := 132) rfl (hb hby d2_87) rfl (teq hc87_14).1 (by decide) (by decide) k) ?_
                        show Go _ _ _ _ _ _ _ (s₁.setTop (mkF m 132 #[.val (.int p1)] []))
                        refine Go.of (fun t k => XS.iconst X0.here hx rfl (hb hby d2_132) k) ?_
                        show Go _ _ _ _ _ _ _ (s₁.setTop (mkF m 133 #[.val (.int p1)] [(.int (1 : Int32))]))
                        refine Go.of (fun t k => XS.goto X0.here hx rfl (pc0 := 133) (pc' := 137) rfl (hb hby d2_133) (by decide) (by decide) k) ?_
                        show Go _ _ _ _ _ _ _ (s₁.setTop (mkF m 137 #[.val (.int p1)] [(.int (1 : Int32))]))
                        refine Go.out X0 (v := some (.int (1 : Int32))) (fun h => by rw [Bd.returns] at h; cases h) hlk (fun fs hr => retN X0 hx (t := .boolean) Bd.returns (by simp) (hb hby d2_137) hr) ?_ (by decide) (by decide)
                        show Q2 Z p1 h0 n0 _ s₁.heap _
                        have := own_ne1 (k := 33) (by decide) hc45_7
                        have := own_ne1 (k := 35) (by decide) hc51_8
                        have := own_ne1 (k := 36) (by decide) hc57_9
                        have := own_ne1 (k := 37) (by decide) hc63_10
                        have := own_ne1 (k := 38) (by decide) hc69_11
                        have := own_ne1 (k := 39) (by decide) hc75_12
                        have := own_ne1 (k := 42) (by decide) hc81_13
                        have := own_eq1 (k := 43) (by decide) hc87_14
                        rw [e0]
                        exact ⟨by rw [own_yes (by omega)], N0, rfl⟩
                      · skip
                        refine Go.of (fun t k => XS.icmpNo X0.here hx rfl (hb hby d2_87) rfl (feq hc87_14).1 k) ?_
                        show Go _ _ _ _ _ _ _ (s₁.setTop (mkF m 90 #[.val (.int p1)] []))
                        refine Go.of (fun t k => XS.iloadN X0.here hx rfl (hb hby d2_90) rfl k) ?_
                        show Go _ _ _ _ _ _ _ (s₁.setTop (mkF m 91 #[.val (.int p1)] [(.int p1)]))
                        refine Go.of (fun t k => XS.bipush X0.here hx rfl (hb hby d2_91) k) ?_
                        show Go _ _ _ _ _ _ _ (s₁.setTop (mkF m 93 #[.val (.int p1)] [(.int (45 : Int32)), (.int p1)]))
                        by_cases hc93_15 : p1 = (45 : Int32)
                        · skip
                          refine Go.of (fun t k => XS.icmpYes X0.here hx rfl (pc0 := 93) (pc' := 132) rfl (hb hby d2_93) rfl (teq hc93_15).1 (by decide) (by decide) k) ?_
                          show Go _ _ _ _ _ _ _ (s₁.setTop (mkF m 132 #[.val (.int p1)] []))
                          refine Go.of (fun t k => XS.iconst X0.here hx rfl (hb hby d2_132) k) ?_
                          show Go _ _ _ _ _ _ _ (s₁.setTop (mkF m 133 #[.val (.int p1)] [(.int (1 : Int32))]))
                          refine Go.of (fun t k => XS.goto X0.here hx rfl (pc0 := 133) (pc' := 137) rfl (hb hby d2_133) (by decide) (by decide) k) ?_
                          show Go _ _ _ _ _ _ _ (s₁.setTop (mkF m 137 #[.val (.int p1)] [(.int (1 : Int32))]))
                          refine Go.out X0 (v := some (.int (1 : Int32))) (fun h => by rw [Bd.returns] at h; cases h) hlk (fun fs hr => retN X0 hx (t := .boolean) Bd.returns (by simp) (hb hby d2_137) hr) ?_ (by decide) (by decide)
                          show Q2 Z p1 h0 n0 _ s₁.heap _
                          have := own_ne1 (k := 33) (by decide) hc45_7
                          have := own_ne1 (k := 35) (by decide) hc51_8
                          have := own_ne1 (k := 36) (by decide) hc57_9
                          have := own_ne1 (k := 37) (by decide) hc63_10
                          have := own_ne1 (k := 38) (by decide) hc69_11
                          have := own_ne1 (k := 39) (by decide) hc75_12
                          have := own_ne1 (k := 42) (by decide) hc81_13
                          have := own_ne1 (k := 43) (by decide) hc87_14
                          have := own_eq1 (k := 45) (by decide) hc93_15
                          rw [e0]
                          exact ⟨by rw [own_yes (by omega)], N0, rfl⟩
                        · skip
                          refine Go.of (fun t k => XS.icmpNo X0.here hx rfl (hb hby d2_93) rfl (feq hc93_15).1 k) ?_
                          show Go _ _ _ _ _ _ _ (s₁.setTop (mkF m 96 #[.val (.int p1)] []))
                          refine Go.of (fun t k => XS.iloadN X0.here hx rfl (hb hby d2_96) rfl k) ?_
                          show Go _ _ _ _ _ _ _ (s₁.setTop (mkF m 97 #[.val (.int p1)] [(.int p1)]))
                          refine Go.of (fun t k => XS.bipush X0.here hx rfl (hb hby d2_97) k) ?_
                          show Go _ _ _ _ _ _ _ (s₁.setTop (mkF m 99 #[.val (.int p1)] [(.int (46 : Int32)), (.int p1)]))
                          by_cases hc99_16 : p1 = (46 : Int32)
                          · skip
                            refine Go.of (fun t k => XS.icmpYes X0.here hx rfl (pc0 := 99) (pc' := 132) rfl (hb hby d2_99) rfl (teq hc99_16).1 (by decide) (by decide) k) ?_
                            show Go _ _ _ _ _ _ _ (s₁.setTop (mkF m 132 #[.val (.int p1)] []))
                            refine Go.of (fun t k => XS.iconst X0.here hx rfl (hb hby d2_132) k) ?_
                            show Go _ _ _ _ _ _ _ (s₁.setTop (mkF m 133 #[.val (.int p1)] [(.int (1 : Int32))]))
                            refine Go.of (fun t k => XS.goto X0.here hx rfl (pc0 := 133) (pc' := 137) rfl (hb hby d2_133) (by decide) (by decide) k) ?_
                            show Go _ _ _ _ _ _ _ (s₁.setTop (mkF m 137 #[.val (.int p1)] [(.int (1 : Int32))]))
                            refine Go.out X0 (v := some (.int (1 : Int32))) (fun h => by rw [Bd.returns] at h; cases h) hlk (fun fs hr => retN X0 hx (t := .boolean) Bd.returns (by simp) (hb hby d2_137) hr) ?_ (by decide) (by decide)
                            show Q2 Z p1 h0 n0 _ s₁.heap _
                            have := own_ne1 (k := 33) (by decide) hc45_7
                            have := own_ne1 (k := 35) (by decide) hc51_8
                            have := own_ne1 (k := 36) (by decide) hc57_9
                            have := own_ne1 (k := 37) (by decide) hc63_10
                            have := own_ne1 (k := 38) (by decide) hc69_11
                            have := own_ne1 (k := 39) (by decide) hc75_12
                            have := own_ne1 (k := 42) (by decide) hc81_13
                            have := own_ne1 (k := 43) (by decide) hc87_14
                            have := own_ne1 (k := 45) (by decide) hc93_15
                            have := own_eq1 (k := 46) (by decide) hc99_16
                            rw [e0]
                            exact ⟨by rw [own_yes (by omega)], N0, rfl⟩
                          · skip
                            refine Go.of (fun t k => XS.icmpNo X0.here hx rfl (hb hby d2_99) rfl (feq hc99_16).1 k) ?_
                            show Go _ _ _ _ _ _ _ (s₁.setTop (mkF m 102 #[.val (.int p1)] []))
                            refine Go.of (fun t k => XS.iloadN X0.here hx rfl (hb hby d2_102) rfl k) ?_
                            show Go _ _ _ _ _ _ _ (s₁.setTop (mkF m 103 #[.val (.int p1)] [(.int p1)]))
                            refine Go.of (fun t k => XS.bipush X0.here hx rfl (hb hby d2_103) k) ?_
                            show Go _ _ _ _ _ _ _ (s₁.setTop (mkF m 105 #[.val (.int p1)] [(.int (94 : Int32)), (.int p1)]))
                            by_cases hc105_17 : p1 = (94 : Int32)
                            · skip
                              refine Go.of (fun t k => XS.icmpYes X0.here hx rfl (pc0 := 105) (pc' := 132) rfl (hb hby d2_105) rfl (teq hc105_17).1 (by decide) (by decide) k) ?_
                              show Go _ _ _ _ _ _ _ (s₁.setTop (mkF m 132 #[.val (.int p1)] []))
                              refine Go.of (fun t k => XS.iconst X0.here hx rfl (hb hby d2_132) k) ?_
                              show Go _ _ _ _ _ _ _ (s₁.setTop (mkF m 133 #[.val (.int p1)] [(.int (1 : Int32))]))
                              refine Go.of (fun t k => XS.goto X0.here hx rfl (pc0 := 133) (pc' := 137) rfl (hb hby d2_133) (by decide) (by decide) k) ?_
                              show Go _ _ _ _ _ _ _ (s₁.setTop (mkF m 137 #[.val (.int p1)] [(.int (1 : Int32))]))
                              refine Go.out X0 (v := some (.int (1 : Int32))) (fun h => by rw [Bd.returns] at h; cases h) hlk (fun fs hr => retN X0 hx (t := .boolean) Bd.returns (by simp) (hb hby d2_137) hr) ?_ (by decide) (by decide)
                              show Q2 Z p1 h0 n0 _ s₁.heap _
                              have := own_ne1 (k := 33) (by decide) hc45_7
                              have := own_ne1 (k := 35) (by decide) hc51_8
                              have := own_ne1 (k := 36) (by decide) hc57_9
                              have := own_ne1 (k := 37) (by decide) hc63_10
                              have := own_ne1 (k := 38) (by decide) hc69_11
                              have := own_ne1 (k := 39) (by decide) hc75_12
                              have := own_ne1 (k := 42) (by decide) hc81_13
                              have := own_ne1 (k := 43) (by decide) hc87_14
                              have := own_ne1 (k := 45) (by decide) hc93_15
                              have := own_ne1 (k := 46) (by decide) hc99_16
                              have := own_eq1 (k := 94) (by decide) hc105_17
                              rw [e0]
                              exact ⟨by rw [own_yes (by omega)], N0, rfl⟩
                            · skip
                              refine Go.of (fun t k => XS.icmpNo X0.here hx rfl (hb hby d2_105) rfl (feq hc105_17).1 k) ?_
                              show Go _ _ _ _ _ _ _ (s₁.setTop (mkF m 108 #[.val (.int p1)] []))
                              refine Go.of (fun t k => XS.iloadN X0.here hx rfl (hb hby d2_108) rfl k) ?_
                              show Go _ _ _ _ _ _ _ (s₁.setTop (mkF m 109 #[.val (.int p1)] [(.int p1)]))
                              refine Go.of (fun t k => XS.bipush X0.here hx rfl (hb hby d2_109) k) ?_
                              show Go _ _ _ _ _ _ _ (s₁.setTop (mkF m 111 #[.val (.int p1)] [(.int (95 : Int32)), (.int p1)]))
                              by_cases hc111_18 : p1 = (95 : Int32)
                              · skip
                                refine Go.of (fun t k => XS.icmpYes X0.here hx rfl (pc0 := 111) (pc' := 132) rfl (hb hby d2_111) rfl (teq hc111_18).1 (by decide) (by decide) k) ?_
                                show Go _ _ _ _ _ _ _ (s₁.setTop (mkF m 132 #[.val (.int p1)] []))
                                refine Go.of (fun t k => XS.iconst X0.here hx rfl (hb hby d2_132) k) ?_
                                show Go _ _ _ _ _ _ _ (s₁.setTop (mkF m 133 #[.val (.int p1)] [(.int (1 : Int32))]))
                                refine Go.of (fun t k => XS.goto X0.here hx rfl (pc0 := 133) (pc' := 137) rfl (hb hby d2_133) (by decide) (by decide) k) ?_
                                show Go _ _ _ _ _ _ _ (s₁.setTop (mkF m 137 #[.val (.int p1)] [(.int (1 : Int32))]))
                                refine Go.out X0 (v := some (.int (1 : Int32))) (fun h => by rw [Bd.returns] at h; cases h) hlk (fun fs hr => retN X0 hx (t := .boolean) Bd.returns (by simp) (hb hby d2_137) hr) ?_ (by decide) (by decide)
                                show Q2 Z p1 h0 n0 _ s₁.heap _
                                have := own_ne1 (k := 33) (by decide) hc45_7
                                have := own_ne1 (k := 35) (by decide) hc51_8
                                have := own_ne1 (k := 36) (by decide) hc57_9
                                have := own_ne1 (k := 37) (by decide) hc63_10
                                have := own_ne1 (k := 38) (by decide) hc69_11
                                have := own_ne1 (k := 39) (by decide) hc75_12
                                have := own_ne1 (k := 42) (by decide) hc81_13
                                have := own_ne1 (k := 43) (by decide) hc87_14
                                have := own_ne1 (k := 45) (by decide) hc93_15
                                have := own_ne1 (k := 46) (by decide) hc99_16
                                have := own_ne1 (k := 94) (by decide) hc105_17
                                have := own_eq1 (k := 95) (by decide) hc111_18
                                rw [e0]
                                exact ⟨by rw [own_yes (by omega)], N0, rfl⟩
                              · skip
                                refine Go.of (fun t k => XS.icmpNo X0.here hx rfl (hb hby d2_111) rfl (feq hc111_18).1 k) ?_
                                show Go _ _ _ _ _ _ _ (s₁.setTop (mkF m 114 #[.val (.int p1)] []))
                                refine Go.of (fun t k => XS.iloadN X0.here hx rfl (hb hby d2_114) rfl k) ?_
                                show Go _ _ _ _ _ _ _ (s₁.setTop (mkF m 115 #[.val (.int p1)] [(.int p1)]))
                                refine Go.of (fun t k => XS.bipush X0.here hx rfl (hb hby d2_115) k) ?_
                                show Go _ _ _ _ _ _ _ (s₁.setTop (mkF m 117 #[.val (.int p1)] [(.int (96 : Int32)), (.int p1)]))
                                by_cases hc117_19 : p1 = (96 : Int32)
                                · skip
                                  refine Go.of (fun t k => XS.icmpYes X0.here hx rfl (pc0 := 117) (pc' := 132) rfl (hb hby d2_117) rfl (teq hc117_19).1 (by decide) (by decide) k) ?_
                                  show Go _ _ _ _ _ _ _ (s₁.setTop (mkF m 132 #[.val (.int p1)] []))
                                  refine Go.of (fun t k => XS.iconst X0.here hx rfl (hb hby d2_132) k) ?_
                                  show Go _ _ _ _ _ _ _ (s₁.setTop (mkF m 133 #[.val (.int p1)] [(.int (1 : Int32))]))
                                  refine Go.of (fun t k => XS.goto X0.here hx rfl (pc0 := 133) (pc' := 137) rfl (hb hby d2_133) (by decide) (by decide) k) ?_
                                  show Go _ _ _ _ _ _ _ (s₁.setTop (mkF m 137 #[.val (.int p1)] [(.int (1 : Int32))]))
                                  refine Go.out X0 (v := some (.int (1 : Int32))) (fun h => by rw [Bd.returns] at h; cases h) hlk (fun fs hr => retN X0 hx (t := .boolean) Bd.returns (by simp) (hb hby d2_137) hr) ?_ (by decide) (by decide)
                                  show Q2 Z p1 h0 n0 _ s₁.heap _
                                  have := own_ne1 (k := 33) (by decide) hc45_7
                                  have := own_ne1 (k := 35) (by decide) hc51_8
                                  have := own_ne1 (k := 36) (by decide) hc57_9
                                  have := own_ne1 (k := 37) (by decide) hc63_10
                                  have := own_ne1 (k := 38) (by decide) hc69_11
                                  have := own_ne1 (k := 39) (by decide) hc75_12
                                  have := own_ne1 (k := 42) (by decide) hc81_13
                                  have := own_ne1 (k := 43) (by decide) hc87_14
                                  have := own_ne1 (k := 45) (by decide) hc93_15
                                  have := own_ne1 (k := 46) (by decide) hc99_16
                                  have := own_ne1 (k := 94) (by decide) hc105_17
                                  have := own_ne1 (k := 95) (by decide) hc111_18
                                  have := own_eq1 (k := 96) (by decide) hc117_19
                                  rw [e0]
                                  exact ⟨by rw [own_yes (by omega)], N0, rfl⟩
                                · skip
                                  refine Go.of (fun t k => XS.icmpNo X0.here hx rfl (hb hby d2_117) rfl (feq hc117_19).1 k) ?_
                                  show Go _ _ _ _ _ _ _ (s₁.setTop (mkF m 120 #[.val (.int p1)] []))
                                  refine Go.of (fun t k => XS.iloadN X0.here hx rfl (hb hby d2_120) rfl k) ?_
                                  show Go _ _ _ _ _ _ _ (s₁.setTop (mkF m 121 #[.val (.int p1)] [(.int p1)]))
                                  refine Go.of (fun t k => XS.bipush X0.here hx rfl (hb hby d2_121) k) ?_
                                  show Go _ _ _ _ _ _ _ (s₁.setTop (mkF m 123 #[.val (.int p1)] [(.int (124 : Int32)), (.int p1)]))
                                  by_cases hc123_20 : p1 = (124 : Int32)
                                  · skip
                                    refine Go.of (fun t k => XS.icmpYes X0.here hx rfl (pc0 := 123) (pc' := 132) rfl (hb hby d2_123) rfl (teq hc123_20).1 (by decide) (by decide) k) ?_
                                    show Go _ _ _ _ _ _ _ (s₁.setTop (mkF m 132 #[.val (.int p1)] []))
                                    refine Go.of (fun t k => XS.iconst X0.here hx rfl (hb hby d2_132) k) ?_
                                    show Go _ _ _ _ _ _ _ (s₁.setTop (mkF m 133 #[.val (.int p1)] [(.int (1 : Int32))]))
                                    refine Go.of (fun t k => XS.goto X0.here hx rfl (pc0 := 133) (pc' := 137) rfl (hb hby d2_133) (by decide) (by decide) k) ?_
                                    show Go _ _ _ _ _ _ _ (s₁.setTop (mkF m 137 #[.val (.int p1)] [(.int (1 : Int32))]))
                                    refine Go.out X0 (v := some (.int (1 : Int32))) (fun h => by rw [Bd.returns] at h; cases h) hlk (fun fs hr => retN X0 hx (t := .boolean) Bd.returns (by simp) (hb hby d2_137) hr) ?_ (by decide) (by decide)
                                    show Q2 Z p1 h0 n0 _ s₁.heap _
                                    have := own_ne1 (k := 33) (by decide) hc45_7
                                    have := own_ne1 (k := 35) (by decide) hc51_8
                                    have := own_ne1 (k := 36) (by decide) hc57_9
                                    have := own_ne1 (k := 37) (by decide) hc63_10
                                    have := own_ne1 (k := 38) (by decide) hc69_11
                                    have := own_ne1 (k := 39) (by decide) hc75_12
                                    have := own_ne1 (k := 42) (by decide) hc81_13
                                    have := own_ne1 (k := 43) (by decide) hc87_14
                                    have := own_ne1 (k := 45) (by decide) hc93_15
                                    have := own_ne1 (k := 46) (by decide) hc99_16
                                    have := own_ne1 (k := 94) (by decide) hc105_17
                                    have := own_ne1 (k := 95) (by decide) hc111_18
                                    have := own_ne1 (k := 96) (by decide) hc117_19
                                    have := own_eq1 (k := 124) (by decide) hc123_20
                                    rw [e0]
                                    exact ⟨by rw [own_yes (by omega)], N0, rfl⟩
                                  · skip
                                    refine Go.of (fun t k => XS.icmpNo X0.here hx rfl (hb hby d2_123) rfl (feq hc123_20).1 k) ?_
                                    show Go _ _ _ _ _ _ _ (s₁.setTop (mkF m 126 #[.val (.int p1)] []))
                                    refine Go.of (fun t k => XS.iloadN X0.here hx rfl (hb hby d2_126) rfl k) ?_
                                    show Go _ _ _ _ _ _ _ (s₁.setTop (mkF m 127 #[.val (.int p1)] [(.int p1)]))
                                    refine Go.of (fun t k => XS.bipush X0.here hx rfl (hb hby d2_127) k) ?_
                                    show Go _ _ _ _ _ _ _ (s₁.setTop (mkF m 129 #[.val (.int p1)] [(.int (126 : Int32)), (.int p1)]))
                                    by_cases hc129_21 : p1 = (126 : Int32)
                                    · skip
                                      refine Go.of (fun t k => XS.icmpNo X0.here hx rfl (hb hby d2_129) rfl (teq hc129_21).2 k) ?_
                                      show Go _ _ _ _ _ _ _ (s₁.setTop (mkF m 132 #[.val (.int p1)] []))
                                      refine Go.of (fun t k => XS.iconst X0.here hx rfl (hb hby d2_132) k) ?_
                                      show Go _ _ _ _ _ _ _ (s₁.setTop (mkF m 133 #[.val (.int p1)] [(.int (1 : Int32))]))
                                      refine Go.of (fun t k => XS.goto X0.here hx rfl (pc0 := 133) (pc' := 137) rfl (hb hby d2_133) (by decide) (by decide) k) ?_
                                      show Go _ _ _ _ _ _ _ (s₁.setTop (mkF m 137 #[.val (.int p1)] [(.int (1 : Int32))]))
                                      refine Go.out X0 (v := some (.int (1 : Int32))) (fun h => by rw [Bd.returns] at h; cases h) hlk (fun fs hr => retN X0 hx (t := .boolean) Bd.returns (by simp) (hb hby d2_137) hr) ?_ (by decide) (by decide)
                                      show Q2 Z p1 h0 n0 _ s₁.heap _
                                      have := own_ne1 (k := 33) (by decide) hc45_7
                                      have := own_ne1 (k := 35) (by decide) hc51_8
                                      have := own_ne1 (k := 36) (by decide) hc57_9
                                      have := own_ne1 (k := 37) (by decide) hc63_10
                                      have := own_ne1 (k := 38) (by decide) hc69_11
                                      have := own_ne1 (k := 39) (by decide) hc75_12
                                      have := own_ne1 (k := 42) (by decide) hc81_13
                                      have := own_ne1 (k := 43) (by decide) hc87_14
                                      have := own_ne1 (k := 45) (by decide) hc93_15
                                      have := own_ne1 (k := 46) (by decide) hc99_16
                                      have := own_ne1 (k := 94) (by decide) hc105_17
                                      have := own_ne1 (k := 95) (by decide) hc111_18
                                      have := own_ne1 (k := 96) (by decide) hc117_19
                                      have := own_ne1 (k := 124) (by decide) hc123_20
                                      have := own_eq1 (k := 126) (by decide) hc129_21
                                      rw [e0]
                                      exact ⟨by rw [own_yes (by omega)], N0, rfl⟩
                                    · skip
                                      refine Go.of (fun t k => XS.icmpYes X0.here hx rfl (pc0 := 129) (pc' := 136) rfl (hb hby d2_129) rfl (feq hc129_21).2 (by decide) (by decide) k) ?_
                                      show Go _ _ _ _ _ _ _ (s₁.setTop (mkF m 136 #[.val (.int p1)] []))
                                      refine Go.of (fun t k => XS.iconst X0.here hx rfl (hb hby d2_136) k) ?_
                                      show Go _ _ _ _ _ _ _ (s₁.setTop (mkF m 137 #[.val (.int p1)] [(.int (0 : Int32))]))
                                      refine Go.out X0 (v := some (.int (0 : Int32))) (fun h => by rw [Bd.returns] at h; cases h) hlk (fun fs hr => retN X0 hx (t := .boolean) Bd.returns (by simp) (hb hby d2_137) hr) ?_ (by decide) (by decide)
                                      show Q2 Z p1 h0 n0 _ s₁.heap _
                                      have := own_ne1 (k := 33) (by decide) hc45_7
                                      have := own_ne1 (k := 35) (by decide) hc51_8
                                      have := own_ne1 (k := 36) (by decide) hc57_9
                                      have := own_ne1 (k := 37) (by decide) hc63_10
                                      have := own_ne1 (k := 38) (by decide) hc69_11
                                      have := own_ne1 (k := 39) (by decide) hc75_12
                                      have := own_ne1 (k := 42) (by decide) hc81_13
                                      have := own_ne1 (k := 43) (by decide) hc87_14
                                      have := own_ne1 (k := 45) (by decide) hc93_15
                                      have := own_ne1 (k := 46) (by decide) hc99_16
                                      have := own_ne1 (k := 94) (by decide) hc105_17
                                      have := own_ne1 (k := 95) (by decide) hc111_18
                                      have := own_ne1 (k := 96) (by decide) hc117_19
                                      have := own_ne1 (k := 124) (by decide) hc123_20
                                      have := own_ne1 (k := 126) (by decide) hc129_21
                                      rw [e0]
                                      exact ⟨by rw [own_no (by omega)], N0, rfl⟩
      by_cases hc31_5 : p1 < (48 : Int32)
      · skip
        refine Go.of (fun t k => XS.icmpYes X0.here hx rfl (pc0 := 31) (pc' := 42) rfl (hb hby d2_31) rfl (tlt hc31_5).1 (by decide) (by decide) k) ?_
        show Go _ _ _ _ _ _ _ (s₁.setTop (mkF m 42 #[.val (.int p1)] []))
        have := own_lt1 (k := 48) (by decide) hc31_5
        exact k42_6 (by omega)
      · skip
        refine Go.of (fun t k => XS.icmpNo X0.here hx rfl (hb hby d2_31) rfl (flt hc31_5).1 k) ?_
        show Go _ _ _ _ _ _ _ (s₁.setTop (mkF m 34 #[.val (.int p1)] []))
        refine Go.of (fun t k => XS.iloadN X0.here hx rfl (hb hby d2_34) rfl k) ?_
        show Go _ _ _ _ _ _ _ (s₁.setTop (mkF m 35 #[.val (.int p1)] [(.int p1)]))
        refine Go.of (fun t k => XS.bipush X0.here hx rfl (hb hby d2_35) k) ?_
        show Go _ _ _ _ _ _ _ (s₁.setTop (mkF m 37 #[.val (.int p1)] [(.int (57 : Int32)), (.int p1)]))
        by_cases hc37_22 : (57 : Int32) < p1
        · skip
          refine Go.of (fun t k => XS.icmpYes X0.here hx rfl (pc0 := 37) (pc' := 42) rfl (hb hby d2_37) rfl (tlt hc37_22).2.2.1 (by decide) (by decide) k) ?_
          show Go _ _ _ _ _ _ _ (s₁.setTop (mkF m 42 #[.val (.int p1)] []))
          have := own_ge1 (k := 48) (by decide) hc31_5
          have := own_lt2 (k := 57) (by decide) hc37_22
          exact k42_6 (by omega)
        · skip
          refine Go.of (fun t k => XS.icmpNo X0.here hx rfl (hb hby d2_37) rfl (flt hc37_22).2.2.1 k) ?_
          show Go _ _ _ _ _ _ _ (s₁.setTop (mkF m 40 #[.val (.int p1)] []))
          refine Go.of (fun t k => XS.iconst X0.here hx rfl (hb hby d2_40) k) ?_
          show Go _ _ _ _ _ _ _ (s₁.setTop (mkF m 41 #[.val (.int p1)] [(.int (1 : Int32))]))
          refine Go.out X0 (v := some (.int (1 : Int32))) (fun h => by rw [Bd.returns] at h; cases h) hlk (fun fs hr => retN X0 hx (t := .boolean) Bd.returns (by simp) (hb hby d2_41) hr) ?_ (by decide) (by decide)
          show Q2 Z p1 h0 n0 _ s₁.heap _
          have := own_ge1 (k := 48) (by decide) hc31_5
          have := own_ge2 (k := 57) (by decide) hc37_22
          rw [e0]
          exact ⟨by rw [own_yes (by omega)], N0, rfl⟩
    by_cases hc17_3 : p1 < (65 : Int32)
    · skip
      refine Go.of (fun t k => XS.icmpYes X0.here hx rfl (pc0 := 17) (pc' := 28) rfl (hb hby d2_17) rfl (tlt hc17_3).1 (by decide) (by decide) k) ?_
      show Go _ _ _ _ _ _ _ (s₁.setTop (mkF m 28 #[.val (.int p1)] []))
      have := own_lt1 (k := 65) (by decide) hc17_3
      exact k28_4 (by omega)
    · skip
      refine Go.of (fun t k => XS.icmpNo X0.here hx rfl (hb hby d2_17) rfl (flt hc17_3).1 k) ?_
      show Go _ _ _ _ _ _ _ (s₁.setTop (mkF m 20 #[.val (.int p1)] []))
      refine Go.of (fun t k => XS.iloadN X0.here hx rfl (hb hby d2_20) rfl k) ?_
      show Go _ _ _ _ _ _ _ (s₁.setTop (mkF m 21 #[.val (.int p1)] [(.int p1)]))
      refine Go.of (fun t k => XS.bipush X0.here hx rfl (hb hby d2_21) k) ?_
      show Go _ _ _ _ _ _ _ (s₁.setTop (mkF m 23 #[.val (.int p1)] [(.int (90 : Int32)), (.int p1)]))
      by_cases hc23_23 : (90 : Int32) < p1
      · skip
        refine Go.of (fun t k => XS.icmpYes X0.here hx rfl (pc0 := 23) (pc' := 28) rfl (hb hby d2_23) rfl (tlt hc23_23).2.2.1 (by decide) (by decide) k) ?_
        show Go _ _ _ _ _ _ _ (s₁.setTop (mkF m 28 #[.val (.int p1)] []))
        have := own_ge1 (k := 65) (by decide) hc17_3
        have := own_lt2 (k := 90) (by decide) hc23_23
        exact k28_4 (by omega)
      · skip
        refine Go.of (fun t k => XS.icmpNo X0.here hx rfl (hb hby d2_23) rfl (flt hc23_23).2.2.1 k) ?_
        show Go _ _ _ _ _ _ _ (s₁.setTop (mkF m 26 #[.val (.int p1)] []))
        refine Go.of (fun t k => XS.iconst X0.here hx rfl (hb hby d2_26) k) ?_
        show Go _ _ _ _ _ _ _ (s₁.setTop (mkF m 27 #[.val (.int p1)] [(.int (1 : Int32))]))
        refine Go.out X0 (v := some (.int (1 : Int32))) (fun h => by rw [Bd.returns] at h; cases h) hlk (fun fs hr => retN X0 hx (t := .boolean) Bd.returns (by simp) (hb hby d2_27) hr) ?_ (by decide) (by decide)
        show Q2 Z p1 h0 n0 _ s₁.heap _
        have := own_ge1 (k := 65) (by decide) hc17_3
        have := own_ge2 (k := 90) (by decide) hc23_23
        rw [e0]
        exact ⟨by rw [own_yes (by omega)], N0, rfl⟩
  by_cases hc3_1 : p1 < (97 : Int32)
  · skip
    refine Go.of (fun t k => XS.icmpYes X0.here hx rfl (pc0 := 3) (pc' := 14) rfl (hb hby d2_3) rfl (tlt hc3_1).1 (by decide) (by decide) k) ?_
    show Go _ _ _ _ _ _ _ (s₁.setTop (mkF m 14 #[.val (.int p1)] []))
    have := own_lt1 (k := 97) (by decide) hc3_1
    exact k14_2 (by omega)
  · skip
    refine Go.of (fun t k => XS.icmpNo X0.here hx rfl (hb hby d2_3) rfl (flt hc3_1).1 k) ?_
    show Go _ _ _ _ _ _ _ (s₁.setTop (mkF m 6 #[.val (.int p1)] []))
    refine Go.of (fun t k => XS.iloadN X0.here hx rfl (hb hby d2_6) rfl k) ?_
    show Go _ _ _ _ _ _ _ (s₁.setTop (mkF m 7 #[.val (.int p1)] [(.int p1)]))
    refine Go.of (fun t k => XS.bipush X0.here hx rfl (hb hby d2_7) k) ?_
    show Go _ _ _ _ _ _ _ (s₁.setTop (mkF m 9 #[.val (.int p1)] [(.int (122 : Int32)), (.int p1)]))
    by_cases hc9_24 : (122 : Int32) < p1
    · skip
      refine Go.of (fun t k => XS.icmpYes X0.here hx rfl (pc0 := 9) (pc' := 14) rfl (hb hby d2_9) rfl (tlt hc9_24).2.2.1 (by decide) (by decide) k) ?_
      show Go _ _ _ _ _ _ _ (s₁.setTop (mkF m 14 #[.val (.int p1)] []))
      have := own_ge1 (k := 97) (by decide) hc3_1
      have := own_lt2 (k := 122) (by decide) hc9_24
      exact k14_2 (by omega)
    · skip
      refine Go.of (fun t k => XS.icmpNo X0.here hx rfl (hb hby d2_9) rfl (flt hc9_24).2.2.1 k) ?_
      show Go _ _ _ _ _ _ _ (s₁.setTop (mkF m 12 #[.val (.int p1)] []))
      refine Go.of (fun t k => XS.iconst X0.here hx rfl (hb hby d2_12) k) ?_
      show Go _ _ _ _ _ _ _ (s₁.setTop (mkF m 13 #[.val (.int p1)] [(.int (1 : Int32))]))
      refine Go.out X0 (v := some (.int (1 : Int32))) (fun h => by rw [Bd.returns] at h; cases h) hlk (fun fs hr => retN X0 hx (t := .boolean) Bd.returns (by simp) (hb hby d2_13) hr) ?_ (by decide) (by decide)
      show Q2 Z p1 h0 n0 _ s₁.heap _
      have := own_ge1 (k := 97) (by decide) hc3_1
      have := own_ge2 (k := 122) (by decide) hc9_24
      rw [e0]
      exact ⟨by rw [own_yes (by omega)], N0, rfl⟩
theorem pd_0 : parseMethodDescriptor "(C)Z" = some ⟨[.char], some .boolean⟩ := by decide +kernel
def Q0 (Z : State) (p1 : Int32) (p2 : Int32) (w : Nat) (cl : Cell) (h0 : Heap) (n0 : Nat) (v : Option Value) (h : Heap) (L : List Loc) : Prop := v = some (.int 1) ∧ Fr n0 L
set_option maxRecDepth 65536 in
set_option maxHeartbeats 40000000 in
theorem rm0 (l : Launch) (Z : State) (a0 : Array Value) (hw : ∀ d ∈ tables_1, d.before a0 Z = true) (ws : List Jvm.Cond) (p1 : Int32) (p2 : Int32) (w : Nat) (cl : Cell) (h0 : Heap) (n0 : Nat) (Z0 : n0 ≤ h0.size) (S_T : Sta Z h0 "com/example/conneg/conneg/header/FieldSyntax" "TOKEN_CHARS" "[Z" (.ref w)) (TB : Tab Z h0 w cl .boolean 128) (hT : ∀ k : Int32, 0 ≤ k.toInt → k.toInt < 128 → atv cl k = own_tok k.toInt) :
    MetFree l x (head1 (Jvm.Cond.code x code maxLocals ret :: ws) room_1) (fun a U => a = #[(.int p1), (.int p2)] ∧ Z.Warmed39 U.vm ∧ U.heap = h0) (fun _ _ _ _ _ => True) (fun _ U o U' => ∃ v L, o = .returned v ∧ Q0 Z p1 p2 w cl h0 n0 v U'.heap L ∧ FrameEnd U o U' L room_1.cells room_1.slots) := by
  refine MetFree.of_bodySF (plainFor_of_name pn_1) hisR ?_
  intro p e s m args below meth c s₁ Bd hml0 hP hK
  obtain ⟨rfl, hZ, hh⟩ := hP
  have hx := Bd.exec
  have hby := Bd.bytes
  have hml : c.maxLocals = 3 := hml0
  have hown : s.vm.findClass "com/example/conneg/conneg/header/FieldSyntaxIsTokenCharPinLaw" = some m.cls := findClass_of_methodNamed Bd.named
  have hnm := (name_of_methodNamed Bd.named Bd.method).1
  have hlk : meth.locks = false := BodyLoose.notSynchronized Bd
  have X0 : Stand p l e room_1 s m #[(.int p1), (.int p2)] below meth c s₁ [] 0 0 := Stand.of_body Bd
  have e0 : s₁.heap = h0 := by rw [← hh, Bd.state]; rfl
  have N0 := Fr.nil n0
  have hef : entryFrame m #[(.int p1), (.int p2)] maxLocals = mkF m 0 #[.val (.int p1), .val (.int p2), .unset] [] := by first | (simp [entryFrame, mkF, argsToLocals, Value.category, maxLocals]; done) | rfl
  show Go p e below s room_1.cells room_1.slots (Q0 Z p1 p2 w cl h0 n0) (s₁.setTop (entryFrame m #[(.int p1), (.int p2)] maxLocals))
  rw [hef]
  refine Go.of (fun t k => XS.iloadN X0.here hx rfl (hb hby at_0) rfl k) ?_
  show Go _ _ _ _ _ _ _ (s₁.setTop (mkF m 1 #[.val (.int p1), .val (.int p2), .unset] [(.int p2)]))
  refine Go.of (fun t k => XS.iconst X0.here hx rfl (hb hby at_1) k) ?_
  show Go _ _ _ _ _ _ _ (s₁.setTop (mkF m 2 #[.val (.int p1), .val (.int p2), .unset] [(.int (1 : Int32)), (.int p2)]))
  refine Go.of (fun t k => XS.iand X0.here hx rfl (hb hby at_2) rfl k) ?_
  show Go _ _ _ _ _ _ _ (s₁.setTop (mkF m 3 #[.val (.int p1), .val (.int p2), .unset] [(.int (p2 &&& (1 : Int32)))]))
  have k19_2 : ∀ (z : Int32) (hz : 0 ≤ z.toInt), Go p e below s room_1.cells room_1.slots (Q0 Z p1 p2 w cl h0 n0) (s₁.setTop (mkF m 19 #[.val (.int p1), .val (.int p2), .val (.int z)] [])) := by
    intro z hz
    refine Go.of (fun t k => XS.iloadN X0.here hx rfl (hb hby at_19) rfl k) ?_
    show Go _ _ _ _ _ _ _ (s₁.setTop (mkF m 20 #[.val (.int p1), .val (.int p2), .val (.int z)] [(.int z)]))
    obtain ⟨_, _, ⟨T3, L3, k3, n3⟩, -, X3, ⟨Lc3, hQ3, l3, y3, z3⟩, st3⟩ := Jvm.LawKit.callS X0 hx (y := (⟨"com/example/conneg/conneg/header/FieldSyntax", "isTokenChar", "(C)Z"⟩ : MethodName)) hown (mvT hZ (hw _ (List.mem_of_getElem? (i := 0) rfl))) (mvT hZ (hw _ (List.mem_of_getElem? (i := 1) rfl))) (mvT hZ (hw _ (List.mem_of_getElem? (i := 2) rfl))) (mvT hZ (hw _ (List.mem_of_getElem? (i := 3) rfl))) (by decide) (backOf (W := 0) (rm1 l Z a0 hw [] z w cl h0 n0 Z0 S_T TB hz) hZ (hw _ (List.mem_of_getElem? (i := 3) rfl)) (hw _ (List.mem_of_getElem? (i := 2) rfl)) (by decide) (by decide)) (g := (mkF m 20 #[.val (.int p1), .val (.int p2), .val (.int z)] [(.int z)])) rfl (by rw [hml]; rfl) (argsL := [(.int z)]) (rest := []) (lenOf pd_0 rfl) rfl (by show 2 * 0 + _ ≤ _; exact Nat.le_of_eq rfl) (hb hby at_20) (fun _ _ => ⟨rfl, e0, (by decide : 0 + 0 ≤ _), (by decide : 0 + 0 ≤ _)⟩)
    dsimp only [Pt.U, Pt.locs, Pt.cells, Pt.slots] at X3 l3 y3 z3 st3 hQ3
    subst l3 y3 z3
    obtain ⟨rfl, N3q, e3⟩ := hQ3
    have N3 := Fr.app N0 N3q
    refine Go.of st3 ?_
    show Go _ _ _ _ _ _ _ (T3.setTop (mkF m 23 #[.val (.int p1), .val (.int p2), .val (.int z)] [(.int (if z < 128 ∧ ¬ atv cl z = 0 then (1 : Int32) else 0))]))
    refine Go.of (fun t k => XS.iloadN X3.here hx rfl (hb hby at_23) rfl k) ?_
    show Go _ _ _ _ _ _ _ (T3.setTop (mkF m 24 #[.val (.int p1), .val (.int p2), .val (.int z)] [(.int z), (.int (if z < 128 ∧ ¬ atv cl z = 0 then (1 : Int32) else 0))]))
    obtain ⟨_, _, ⟨T4, L4, k4, n4⟩, -, X4, ⟨Lc4, hQ4, l4, y4, z4⟩, st4⟩ := Jvm.LawKit.callS X3 hx (y := (⟨"com/example/conneg/conneg/header/FieldSyntaxIsTokenCharPinLaw", "expectedTchar", "(C)Z"⟩ : MethodName)) hown (mvT hZ (hw _ (List.mem_of_getElem? (i := 6) rfl))) (mvT hZ (hw _ (List.mem_of_getElem? (i := 7) rfl))) (mvT hZ (hw _ (List.mem_of_getElem? (i := 8) rfl))) (mvT hZ (hw _ (List.mem_of_getElem? (i := 9) rfl))) (by decide) (backOf (W := 1) (rm2 l Z a0 hw [] z h0 n0 Z0 ) hZ (hw _ (List.mem_of_getElem? (i := 9) rfl)) (hw _ (List.mem_of_getElem? (i := 8) rfl)) (by decide) (by decide)) (g := (mkF m 24 #[.val (.int p1), .val (.int p2), .val (.int z)] [(.int z), (.int (if z < 128 ∧ ¬ atv cl z = 0 then (1 : Int32) else 0))])) rfl (by rw [hml]; rfl) (argsL := [(.int z)]) (rest := [(.int (if z < 128 ∧ ¬ atv cl z = 0 then (1 : Int32) else 0))]) (lenOf pd_0 rfl) rfl (by show 2 * 0 + _ ≤ _; exact Nat.le_of_eq rfl) (hb hby at_24) (fun _ _ => ⟨rfl, e3, (by decide : 0 + 0 ≤ _), (by decide : 0 + 0 ≤ _)⟩)
    dsimp only [Pt.U, Pt.locs, Pt.cells, Pt.slots] at X4 l4 y4 z4 st4 hQ4
    subst l4 y4 z4
    obtain ⟨rfl, N4q, e4⟩ := hQ4
    have N4 := Fr.app N3 N4q
    refine Go.of st4 ?_
    show Go _ _ _ _ _ _ _ (T4.setTop (mkF m 27 #[.val (.int p1), .val (.int p2), .val (.int z)] [(.int (own_tok z.toInt)), (.int (if z < 128 ∧ ¬ atv cl z = 0 then (1 : Int32) else 0))]))
    have hc27 : (if z < 128 ∧ ¬ atv cl z = 0 then (1 : Int32) else 0) = (own_tok z.toInt) := own_law hT hz
    refine Go.of (fun t k => XS.icmpNo X4.here hx rfl (hb hby at_27) rfl (teq hc27).2 k) ?_
    show Go _ _ _ _ _ _ _ (T4.setTop (mkF m 30 #[.val (.int p1), .val (.int p2), .val (.int z)] []))
    refine Go.of (fun t k => XS.iconst X4.here hx rfl (hb hby at_30) k) ?_
    show Go _ _ _ _ _ _ _ (T4.setTop (mkF m 31 #[.val (.int p1), .val (.int p2), .val (.int z)] [(.int (1 : Int32))]))
    refine Go.of (fun t k => XS.goto X4.here hx rfl (pc0 := 31) (pc' := 35) rfl (hb hby at_31) (by decide) (by decide) k) ?_
    show Go _ _ _ _ _ _ _ (T4.setTop (mkF m 35 #[.val (.int p1), .val (.int p2), .val (.int z)] [(.int (1 : Int32))]))
    refine Go.out X4 (v := some (.int (1 : Int32))) (fun h => by rw [Bd.returns] at h; cases h) hlk (fun fs hr => retN X4 hx (t := .boolean) Bd.returns (by simp) (hb hby at_35) hr) ?_ (by decide) (by decide)
    show Q0 Z p1 p2 w cl h0 n0 _ T4.heap _
    rw [e4]
    exact ⟨rfl, N4⟩
  by_cases hc3_1 : (p2 &&& (1 : Int32)) = (0 : Int32)
  · skip
    refine Go.of (fun t k => XS.ifYes X0.here hx rfl (pc0 := 3) (pc' := 16) rfl (hb hby at_3) rfl ((if0 _ _).trans (teq hc3_1).1) (by decide) (by decide) k) ?_
    show Go _ _ _ _ _ _ _ (s₁.setTop (mkF m 16 #[.val (.int p1), .val (.int p2), .unset] []))
    refine Go.of (fun t k => XS.iloadN X0.here hx rfl (hb hby at_16) rfl k) ?_
    show Go _ _ _ _ _ _ _ (s₁.setTop (mkF m 17 #[.val (.int p1), .val (.int p2), .unset] [(.int p1)]))
    refine Go.of (fun t k => XS.i2c X0.here hx rfl (hb hby at_17) rfl k) ?_
    show Go _ _ _ _ _ _ _ (s₁.setTop (mkF m 18 #[.val (.int p1), .val (.int p2), .unset] [(.int (p1.toUInt32.toUInt16.toUInt32.toInt32))]))
    refine Go.of (fun t k => XS.istoreN X0.here hx rfl (hb hby at_18) rfl (l' := #[.val (.int p1), .val (.int p2), .val (.int (p1.toUInt32.toUInt16.toUInt32.toInt32))]) rfl k) ?_
    show Go _ _ _ _ _ _ _ (s₁.setTop (mkF m 19 #[.val (.int p1), .val (.int p2), .val (.int (p1.toUInt32.toUInt16.toUInt32.toInt32))] []))
    exact k19_2 _ (c_i2c _).2.1
  · skip
    refine Go.of (fun t k => XS.ifNo X0.here hx rfl (hb hby at_3) rfl ((if0 _ _).trans (feq hc3_1).1) k) ?_
    show Go _ _ _ _ _ _ _ (s₁.setTop (mkF m 6 #[.val (.int p1), .val (.int p2), .unset] []))
    refine Go.of (fun t k => XS.iloadN X0.here hx rfl (hb hby at_6) rfl k) ?_
    show Go _ _ _ _ _ _ _ (s₁.setTop (mkF m 7 #[.val (.int p1), .val (.int p2), .unset] [(.int p1)]))
    refine Go.of (fun t k => XS.sipush X0.here hx rfl (hb hby at_7) k) ?_
    show Go _ _ _ _ _ _ _ (s₁.setTop (mkF m 10 #[.val (.int p1), .val (.int p2), .unset] [(.int (255 : Int32)), (.int p1)]))
    refine Go.of (fun t k => XS.iand X0.here hx rfl (hb hby at_10) rfl k) ?_
    show Go _ _ _ _ _ _ _ (s₁.setTop (mkF m 11 #[.val (.int p1), .val (.int p2), .unset] [(.int (p1 &&& (255 : Int32)))]))
    refine Go.of (fun t k => XS.i2c X0.here hx rfl (hb hby at_11) rfl k) ?_
    show Go _ _ _ _ _ _ _ (s₁.setTop (mkF m 12 #[.val (.int p1), .val (.int p2), .unset] [(.int ((p1 &&& (255 : Int32)).toUInt32.toUInt16.toUInt32.toInt32))]))
    refine Go.of (fun t k => XS.istoreN X0.here hx rfl (hb hby at_12) rfl (l' := #[.val (.int p1), .val (.int p2), .val (.int ((p1 &&& (255 : Int32)).toUInt32.toUInt16.toUInt32.toInt32))]) rfl k) ?_
    show Go _ _ _ _ _ _ _ (s₁.setTop (mkF m 13 #[.val (.int p1), .val (.int p2), .val (.int ((p1 &&& (255 : Int32)).toUInt32.toUInt16.toUInt32.toInt32))] []))
    refine Go.of (fun t k => XS.goto X0.here hx rfl (pc0 := 13) (pc' := 19) rfl (hb hby at_13) (by decide) (by decide) k) ?_
    show Go _ _ _ _ _ _ _ (s₁.setTop (mkF m 19 #[.val (.int p1), .val (.int p2), .val (.int ((p1 &&& (255 : Int32)).toUInt32.toUInt16.toUInt32.toInt32))] []))
    exact k19_2 _ (c_i2c _).2.1
set_option maxRecDepth 65536 in
set_option maxHeartbeats 40000000 in
theorem comes_1 {Post : Tables → Env → Array Value → State → Outcome → State → Prop} (hpost : ∀ tb e args s v u, (limb_1_1.after args s (.returned v) u = true ∧ limb_1_2.after args s (.returned v) u = true ∧ True) → FrameEnd s (.returned v) u (Jvm.fieldLocs frame_1_writes args s ++ Jvm.arrayLocs frame_1_arrays args s ++ Jvm.staticLocs frame_1_statics s) 0 0 → Post tb e args s (.returned v) u) :
    ArmFor flags0 classFile x code maxLocals ret World_1 tables_1 room_1 Calls_1 rest_1 Pre_1 Post := by
  intro l hfl _ _ p e ha hc hk s m args below hf hA hF happ hP
  obtain ⟨hcalls, hrest, hpre⟩ := hP
  obtain ⟨-, -, -, hnamed, -, -, -, hat⟩ := (Spec.applies_iff hf).mp happ
  obtain ⟨hg, hn⟩ := and_e (Cond.before_iff.mp (show (Jvm.Cond.and given_1 narrow_1).before args s = true from hpre))
  obtain ⟨g1a, g1b⟩ := and_e hg
  obtain ⟨g2a, g2b⟩ := and_e g1b
  obtain ⟨w0, w1, rfl⟩ : ∃ w0 w1 : Value, args = #[w0, w1] := by
    have hs : args.size = 2 := by simpa [Cond.value, given_1] using g1a
    obtain ⟨L⟩ := args
    match L, hs with
    | [w0, w1], _ => exact ⟨w0, w1, rfl⟩
  have hw := fun d (hd : d ∈ tables_1) => atoms_spec (ws := Jvm.Cond.code x code maxLocals ret :: tables_1) hat d (List.mem_cons_of_mem _ hd)
  have hfit : Fit s := fun {y c} hc i hi => by
    obtain ⟨ha, rfl⟩ := Array.getElem?_eq_some_iff.mp hc
    have q := List.all_eq_true.mp ((Array.all_eq_true_iff_forall_mem.mp hF) _ (Array.getElem_mem ha)) i (List.mem_range.mpr hi)
    simpa [Array.getElem?_eq_getElem hi] using q
  obtain ⟨i0, ei0⟩ := is_v g2a
  obtain rfl : w0 = (.int i0) := Option.some.inj ei0
  obtain ⟨i1, ei1⟩ := is_v g2b
  obtain rfl : w1 = (.int i1) := Option.some.inj ei1
  obtain ⟨g3a, g3b⟩ := and_e hn
  obtain ⟨g4a, g4b⟩ := and_e g3b
  obtain ⟨g5a, g5b⟩ := and_e g4b
  obtain ⟨g6a, g6b⟩ := and_e g5b
  obtain ⟨g7a, g7b⟩ := and_e g6b
  obtain ⟨g8a, g8b⟩ := and_e g7b
  obtain ⟨g9a, g9b⟩ := and_e g8b
  obtain ⟨g10a, g10b⟩ := and_e g9b
  obtain ⟨g11a, g11b⟩ := and_e g10b
  obtain ⟨g12a, g12b⟩ := and_e g11b
  obtain ⟨g13a, g13b⟩ := and_e g12b
  obtain ⟨g14a, g14b⟩ := and_e g13b
  obtain ⟨g15a, g15b⟩ := and_e g14b
  obtain ⟨g16a, g16b⟩ := and_e g15b
  obtain ⟨g17a, g17b⟩ := and_e g16b
  obtain ⟨g18a, g18b⟩ := and_e g17b
  obtain ⟨g19a, g19b⟩ := and_e g18b
  obtain ⟨g20a, g20b⟩ := and_e g19b
  obtain ⟨g21a, g21b⟩ := and_e g20b
  obtain ⟨g22a, g22b⟩ := and_e g21b
  obtain ⟨g23a, g23b⟩ := and_e g22b
  obtain ⟨g24a, g24b⟩ := and_e g23b
  obtain ⟨g25a, g25b⟩ := and_e g24b
  obtain ⟨g26a, g26b⟩ := and_e g25b
  obtain ⟨g27a, g27b⟩ := and_e g26b
  obtain ⟨w, ew⟩ := arr_v g3a
  have S0 := Sta.start ew (Or.inr ⟨(hw _ (List.mem_of_getElem? (i := 2) rfl)), (hw _ (List.mem_of_getElem? (i := 5) rfl))⟩)
  obtain ⟨cl, A0⟩ := Arr.start ew g3a
  have hat0 : s.arrayAt? w = some cl := IntBox.arrayAt_of A0.1 A0.2.1 A0.2.2
  have hlen := own_eqI g4a
  obtain ⟨hsm, hsz⟩ : cl.slots.size < 2 ^ 31 ∧ cl.slots.size.toInt32 = 128 := own_len ew hat0 hlen
  have TB := Tab.start hfit A0 (Or.inr (Or.inl rfl)) hsm hsz (by decide)
  have hsize : cl.slots.size = 128 := TB.2.1
  have hT : ∀ k : Int32, 0 ≤ k.toInt → k.toInt < 128 → atv cl k = own_tok k.toInt := by
    intro k hk0 hk1
    have kn : ¬ k < 0 := fun q => absurd (own_lt1 (k := 0) (by decide) q) (by omega)
    have kl : k < 128 := Decidable.byContradiction fun q => absurd (own_ge1 (k := 128) (by decide) q) (by omega)
    have ki : k.toNatClampNeg < cl.slots.size := Nat.lt_of_not_le fun q => inb_of TB.2.1 (j := k) ⟨kn, kl⟩ (Or.inr q)
    by_cases q33 : k.toInt < 33
    · have r := Cond.all_elim ew hat0 g5a _ ki
      have r2 := (or_e2 (Cond.le_ints rfl (idx_at kn)) (Cond.eq_ints (own_el (ew :) TB (idx_at kn) kn kl) rfl) r).resolve_left (fun q => absurd (own_ge1 (k := 33) (by decide) (Int32.not_lt.mpr q)) (by omega))
      rw [r2]; exact (own_no (by omega)).symm
    by_cases q34 : k.toInt < 34
    · obtain rfl : k = 33 := Int32.toInt_inj.mp ((by omega : k.toInt = 33).trans (by decide))
      rw [gotT (Cond.eq_ints (own_el ew TB rfl kn kl) rfl) g6a]; decide
    by_cases q35 : k.toInt < 35
    · obtain rfl : k = 34 := Int32.toInt_inj.mp ((by omega : k.toInt = 34).trans (by decide))
      rw [gotT (Cond.eq_ints (own_el ew TB rfl kn kl) rfl) g7a]; decide
    by_cases q40 : k.toInt < 40
    · have r := Cond.all_elim ew hat0 g8a _ ki
      have r2 := ((or3 r (Cond.lt_ints (idx_at kn) rfl) (Cond.le_ints rfl (idx_at kn)) (Cond.eq_ints (own_el (ew :) TB (idx_at kn) kn kl) rfl)).resolve_left (fun q => absurd (own_lt1 (k := 35) (by decide) q) (by omega))).resolve_left (fun q => absurd (own_ge1 (k := 40) (by decide) q) (by omega))
      rw [r2]; exact (own_yes (by omega)).symm
    by_cases q41 : k.toInt < 41
    · obtain rfl : k = 40 := Int32.toInt_inj.mp ((by omega : k.toInt = 40).trans (by decide))
      rw [gotT (Cond.eq_ints (own_el ew TB rfl kn kl) rfl) g9a]; decide
    by_cases q42 : k.toInt < 42
    · obtain rfl : k = 41 := Int32.toInt_inj.mp ((by omega : k.toInt = 41).trans (by decide))
      rw [gotT (Cond.eq_ints (own_el ew TB rfl kn kl) rfl) g10a]; decide
    by_cases q43 : k.toInt < 43
    · obtain rfl : k = 42 := Int32.toInt_inj.mp ((by omega : k.toInt = 42).trans (by decide))
      rw [gotT (Cond.eq_ints (own_el ew TB rfl kn kl) rfl) g11a]; decide
    by_cases q44 : k.toInt < 44
    · obtain rfl : k = 43 := Int32.toInt_inj.mp ((by omega : k.toInt = 43).trans (by decide))
      rw [gotT (Cond.eq_ints (own_el ew TB rfl kn kl) rfl) g12a]; decide
    by_cases q45 : k.toInt < 45
    · obtain rfl : k = 44 := Int32.toInt_inj.mp ((by omega : k.toInt = 44).trans (by decide))
      rw [gotT (Cond.eq_ints (own_el ew TB rfl kn kl) rfl) g13a]; decide
    by_cases q46 : k.toInt < 46
    · obtain rfl : k = 45 := Int32.toInt_inj.mp ((by omega : k.toInt = 45).trans (by decide))
      rw [gotT (Cond.eq_ints (own_el ew TB rfl kn kl) rfl) g14a]; decide
    by_cases q47 : k.toInt < 47
    · obtain rfl : k = 46 := Int32.toInt_inj.mp ((by omega : k.toInt = 46).trans (by decide))
      rw [gotT (Cond.eq_ints (own_el ew TB rfl kn kl) rfl) g15a]; decide
    by_cases q48 : k.toInt < 48
    · obtain rfl : k = 47 := Int32.toInt_inj.mp ((by omega : k.toInt = 47).trans (by decide))
      rw [gotT (Cond.eq_ints (own_el ew TB rfl kn kl) rfl) g16a]; decide
    by_cases q58 : k.toInt < 58
    · have r := Cond.all_elim ew hat0 g17a _ ki
      have r2 := ((or3 r (Cond.lt_ints (idx_at kn) rfl) (Cond.le_ints rfl (idx_at kn)) (Cond.eq_ints (own_el (ew :) TB (idx_at kn) kn kl) rfl)).resolve_left (fun q => absurd (own_lt1 (k := 48) (by decide) q) (by omega))).resolve_left (fun q => absurd (own_ge1 (k := 58) (by decide) q) (by omega))
      rw [r2]; exact (own_yes (by omega)).symm
    by_cases q65 : k.toInt < 65
    · have r := Cond.all_elim ew hat0 g18a _ ki
      have r2 := ((or3 r (Cond.lt_ints (idx_at kn) rfl) (Cond.le_ints rfl (idx_at kn)) (Cond.eq_ints (own_el (ew :) TB (idx_at kn) kn kl) rfl)).resolve_left (fun q => absurd (own_lt1 (k := 58) (by decide) q) (by omega))).resolve_left (fun q => absurd (own_ge1 (k := 65) (by decide) q) (by omega))
      rw [r2]; exact (own_no (by omega)).symm
    by_cases q91 : k.toInt < 91
    · have r := Cond.all_elim ew hat0 g19a _ ki
      have r2 := ((or3 r (Cond.lt_ints (idx_at kn) rfl) (Cond.le_ints rfl (idx_at kn)) (Cond.eq_ints (own_el (ew :) TB (idx_at kn) kn kl) rfl)).resolve_left (fun q => absurd (own_lt1 (k := 65) (by decide) q) (by omega))).resolve_left (fun q => absurd (own_ge1 (k := 91) (by decide) q) (by omega))
      rw [r2]; exact (own_yes (by omega)).symm
    by_cases q92 : k.toInt < 92
    · obtain rfl : k = 91 := Int32.toInt_inj.mp ((by omega : k.toInt = 91).trans (by decide))
      rw [gotT (Cond.eq_ints (own_el ew TB rfl kn kl) rfl) g20a]; decide
    by_cases q93 : k.toInt < 93
    · obtain rfl : k = 92 := Int32.toInt_inj.mp ((by omega : k.toInt = 92).trans (by decide))
      rw [gotT (Cond.eq_ints (own_el ew TB rfl kn kl) rfl) g21a]; decide
    by_cases q94 : k.toInt < 94
    · obtain rfl : k = 93 := Int32.toInt_inj.mp ((by omega : k.toInt = 93).trans (by decide))
      rw [gotT (Cond.eq_ints (own_el ew TB rfl kn kl) rfl) g22a]; decide
    by_cases q123 : k.toInt < 123
    · have r := Cond.all_elim ew hat0 g23a _ ki
      have r2 := ((or3 r (Cond.lt_ints (idx_at kn) rfl) (Cond.le_ints rfl (idx_at kn)) (Cond.eq_ints (own_el (ew :) TB (idx_at kn) kn kl) rfl)).resolve_left (fun q => absurd (own_lt1 (k := 94) (by decide) q) (by omega))).resolve_left (fun q => absurd (own_ge1 (k := 123) (by decide) q) (by omega))
      rw [r2]; exact (own_yes (by omega)).symm
    by_cases q124 : k.toInt < 124
    · obtain rfl : k = 123 := Int32.toInt_inj.mp ((by omega : k.toInt = 123).trans (by decide))
      rw [gotT (Cond.eq_ints (own_el ew TB rfl kn kl) rfl) g24a]; decide
    by_cases q125 : k.toInt < 125
    · obtain rfl : k = 124 := Int32.toInt_inj.mp ((by omega : k.toInt = 124).trans (by decide))
      rw [gotT (Cond.eq_ints (own_el ew TB rfl kn kl) rfl) g25a]; decide
    by_cases q126 : k.toInt < 126
    · obtain rfl : k = 125 := Int32.toInt_inj.mp ((by omega : k.toInt = 125).trans (by decide))
      rw [gotT (Cond.eq_ints (own_el ew TB rfl kn kl) rfl) g26a]; decide
    by_cases q127 : k.toInt < 127
    · obtain rfl : k = 126 := Int32.toInt_inj.mp ((by omega : k.toInt = 126).trans (by decide))
      rw [gotT (Cond.eq_ints (own_el ew TB rfl kn kl) rfl) g27a]; decide
    by_cases q128 : k.toInt < 128
    · obtain rfl : k = 127 := Int32.toInt_inj.mp ((by omega : k.toInt = 127).trans (by decide))
      rw [gotT (Cond.eq_ints (own_el ew TB rfl kn kl) rfl) g27b]; decide
    omega
  obtain ⟨n, o, h1, h2, h3, _, L, rfl, ⟨rfl, N⟩, hq⟩ := rm0 l s _ hw tables_1 i0 i1 w cl s.heap s.heap.size (Nat.le_refl _) S0 TB hT p e ha hc hk s m _ below hf ((Spec.applies_iff_loose hf).mp happ).1 ⟨rfl, State.Warmed39.refl s, rfl⟩ trivial
  refine ⟨n, _, h1, h2, h3, hpost _ _ _ _ _ _ ⟨Cond.after_iff.mpr rfl, Cond.after_iff.mpr (eq_i res_at (Term.int_eval (1)) rfl), trivial⟩ ⟨hq.1, hq.2.1, (hq.2.2.sift fun y hy => Or.inr (N y hy)).mono (by decide) (by decide)⟩⟩
theorem main_1_1 : Claimed_1_1 := comes_1 fun _ _ _ _ _ _ h hF => ⟨h.1, hF⟩
theorem main_1_2 : Claimed_1_2 := comes_1 fun _ _ _ _ _ _ h hF => ⟨h.2.1, hF⟩
end Jvm.Pilot.@@N@@
namespace Jvm.Pilot.@@N@@
open Jvm Jvm.ClassFile Sem Op Lib Jvm.Free Jvm.Stand Jvm.Pilot.@@N@@.Jvm.D
/-! MADE BY PROGRAM (witnessworld.py) out of the Statement's table words and the real class files: 11 classes; the members and pool entries that the words name. The judged class is class 1, her method 2. -/
namespace start1
open Jvm.ClassFile
def u (s : String) : CpInfo := .utf8 (stringToUtf16 s)
/-- a pool by its gaps: so many unusable entries, then the entry; so many at the end -/
def gap : Nat → List CpInfo → List CpInfo
  | 0, r => r
  | n + 1, r => .unusable :: gap n r
def poolList (es : List (Nat × CpInfo)) (last : Nat) : List CpInfo := es.foldr (fun e r => gap e.1 (e.2 :: r)) (gap last [])
def pool (es : List (Nat × CpInfo)) (last : Nat) : Array CpInfo := ⟨poolList es last⟩
def fileOf (pool : Array CpInfo) (this : Nat) (attrs : Array Attribute := #[]) (ms : Array MethodInfo := #[]) (fl : Nat := 33) (sup : Nat := 0) (ifs : Array Nat := #[]) (fds : Array FieldInfo := #[]) : ClassFile where
  minorVersion := 0
  majorVersion := 65
  constantPool := pool
  accessFlags := fl
  thisClass := this
  superClass := sup
  interfaces := ifs
  fields := fds
  methods := ms
  attributes := attrs
def plain (name : String) (sup : Option ClassId) : Class where
  name := name
  kind := .ordinary
  loader := none
  accessFlags := 33
  super := sup
  interfaces := #[]
  cf := none
  fields := #[]
  methods := #[]
  instanceTypes := #[]
  staticTypes := #[]
  resolved := #[]
  callSites := []
  init := .initialized
  statics := none
  mirror := none

def pool0 : Array CpInfo := pool [(5, u "<init>"), (0, u "()V"), (1, .class_ 10), (1, u "java/lang/Object")] 113

def k0m0 : Method := { name := "<init>", desc := "()V", sig := { parameters := [], returnType := none }, accessFlags := 1, code := none }
/-- java/lang/Object -/
def k0 : Class := { plain "java/lang/Object" none with
  accessFlags := 33
  interfaces := #[]
  cf := some (fileOf pool0 8 #[] #[{ accessFlags := 1, nameIndex := 5, descriptorIndex := 6, attributes := #[] }] 33 0 #[] #[])
  fields := #[]
  methods := #[k0m0]
  instanceTypes := #[]
  staticTypes := #[]
  resolved := Array.replicate 124 none
  statics := none }

def pool1 : Array CpInfo := pool [(2, .class_ 4), (1, u "java/lang/Object"), (0, u "<init>"), (0, u "()V"), (0, .methodref 8 9), (0, .class_ 10), (0, .nameAndType 11 12), (0, u "com/example/conneg/conneg/header/FieldSyntax"), (0, u "isTokenChar"), (0, u "(C)Z"), (0, .methodref 14 15), (0, .class_ 16), (0, .nameAndType 17 12), (0, u "com/example/conneg/conneg/header/FieldSyntaxIsTokenCharPinLaw"), (0, u "expectedTchar"), (3, u "law"), (0, u "(II)Z")] 2

def k1m0 : Method := { name := "<init>", desc := "()V", sig := { parameters := [], returnType := none }, accessFlags := 2, code := none }
def k1c1 : Code := { maxStack := 2, maxLocals := 1, code := method_2_code, exceptionTable := #[], attributes := #[] }
def k1m1 : Method := { name := "expectedTchar", desc := "(C)Z", sig := { parameters := [.char], returnType := some .boolean }, accessFlags := 10, code := some k1c1 }
def k1c2 : Code := { maxStack := 2, maxLocals := 3, code := code, exceptionTable := #[], attributes := #[] }
def k1m2 : Method := { name := "law", desc := "(II)Z", sig := { parameters := [.int, .int], returnType := some .boolean }, accessFlags := 9, code := some k1c2 }
/-- com/example/conneg/conneg/header/FieldSyntaxIsTokenCharPinLaw -/
def k1 : Class := { plain "com/example/conneg/conneg/header/FieldSyntaxIsTokenCharPinLaw" (some 0) with
  accessFlags := 49
  interfaces := #[]
  cf := some (fileOf pool1 14 #[] #[{ accessFlags := 2, nameIndex := 5, descriptorIndex := 6, attributes := #[] }, { accessFlags := 10, nameIndex := 17, descriptorIndex := 12, attributes := #[] }, { accessFlags := 9, nameIndex := 21, descriptorIndex := 22, attributes := #[] }] 49 2 #[] #[])
  fields := #[]
  methods := #[k1m0, k1m1, k1m2]
  instanceTypes := #[]
  staticTypes := #[]
  resolved := Array.replicate 25 none
  statics := none }

def pool2 : Array CpInfo := pool [(2, .class_ 4), (1, u "java/lang/Object"), (0, u "<init>"), (0, u "()V"), (0, .fieldref 8 9), (0, .class_ 10), (0, .nameAndType 11 12), (0, u "com/example/conneg/conneg/header/FieldSyntax"), (0, u "TOKEN_CHARS"), (0, u "[Z"), (12, u "isTokenChar"), (0, u "(C)Z")] 71

def k2m0 : Method := { name := "<init>", desc := "()V", sig := { parameters := [], returnType := none }, accessFlags := 2, code := none }
def k2c1 : Code := { maxStack := 2, maxLocals := 1, code := prog_13_method_3_code, exceptionTable := #[], attributes := #[] }
def k2m1 : Method := { name := "isTokenChar", desc := "(C)Z", sig := { parameters := [.char], returnType := some .boolean }, accessFlags := 8, code := some k2c1 }
/-- com/example/conneg/conneg/header/FieldSyntax -/
def k2 : Class := { plain "com/example/conneg/conneg/header/FieldSyntax" (some 0) with
  accessFlags := 48
  interfaces := #[]
  cf := some (fileOf pool2 8 #[] #[{ accessFlags := 2, nameIndex := 5, descriptorIndex := 6, attributes := #[] }, { accessFlags := 8, nameIndex := 25, descriptorIndex := 26, attributes := #[] }] 48 2 #[] #[{ accessFlags := 26, nameIndex := 11, descriptorIndex := 12, attributes := #[] }])
  fields := #[{ name := "TOKEN_CHARS", type := (.array .boolean), accessFlags := 26, slot := 0, constantValue := 0 }]
  methods := #[k2m0, k2m1]
  instanceTypes := #[]
  staticTypes := #[(.array .boolean)]
  resolved := Array.replicate 98 none
  statics := some 0 }

def pool3 : Array CpInfo := pool [(1, u "java/lang/Cloneable"), (0, .class_ 1), (0, u "java/lang/Object"), (0, .class_ 3)] 3

/-- java/lang/Cloneable -/
def k3 : Class := { plain "java/lang/Cloneable" (some 0) with
  accessFlags := 1537
  interfaces := #[]
  cf := some (fileOf pool3 2 #[] #[] 1537 4 #[] #[])
  fields := #[]
  methods := #[]
  instanceTypes := #[]
  staticTypes := #[]
  resolved := Array.replicate 8 none
  statics := none }

def pool4 : Array CpInfo := pool [(1, u "java/io/Serializable"), (0, .class_ 1), (0, u "java/lang/Object"), (0, .class_ 3)] 3

/-- java/io/Serializable -/
def k4 : Class := { plain "java/io/Serializable" (some 0) with
  accessFlags := 1537
  interfaces := #[]
  cf := some (fileOf pool4 2 #[] #[] 1537 4 #[] #[])
  fields := #[]
  methods := #[]
  instanceTypes := #[]
  staticTypes := #[]
  resolved := Array.replicate 8 none
  statics := none }

/-- the primitive boolean -/
def k5 : Class := { plain "boolean" none with kind := .primitive 'Z', accessFlags := 0x411 }
/-- [Z -/
def k6 : Class := { plain "[Z" (some 0) with kind := .array 5 .boolean, interfaces := #[3, 4], accessFlags := 1041 }

/-- the primitive byte -/
def k7 : Class := { plain "byte" none with kind := .primitive 'B', accessFlags := 0x411 }
/-- [B -/
def k8 : Class := { plain "[B" (some 0) with kind := .array 7 .byte, interfaces := #[3, 4], accessFlags := 1041 }

/-- the primitive int -/
def k9 : Class := { plain "int" none with kind := .primitive 'I', accessFlags := 0x411 }
/-- [I -/
def k10 : Class := { plain "[I" (some 0) with kind := .array 9 .int, interfaces := #[3, 4], accessFlags := 1041 }

def heap : Heap := #[{ cls := 2, slots := #[.ref 1], vm := .statics 2 },
  { cls := 6, slots := #[.int 0, .int 0, .int 0, .int 0, .int 0, .int 0, .int 0, .int 0, .int 0, .int 0, .int 0, .int 0, .int 0, .int 0, .int 0, .int 0, .int 0, .int 0, .int 0, .int 0, .int 0, .int 0, .int 0, .int 0, .int 0, .int 0, .int 0, .int 0, .int 0, .int 0, .int 0, .int 0, .int 0, .int 1, .int 0, .int 1, .int 1, .int 1, .int 1, .int 1, .int 0, .int 0, .int 1, .int 1, .int 0, .int 1, .int 1, .int 0, .int 1, .int 1, .int 1, .int 1, .int 1, .int 1, .int 1, .int 1, .int 1, .int 1, .int 0, .int 0, .int 0, .int 0, .int 0, .int 0, .int 0, .int 1, .int 1, .int 1, .int 1, .int 1, .int 1, .int 1, .int 1, .int 1, .int 1, .int 1, .int 1, .int 1, .int 1, .int 1, .int 1, .int 1, .int 1, .int 1, .int 1, .int 1, .int 1, .int 1, .int 1, .int 1, .int 1, .int 0, .int 0, .int 0, .int 1, .int 1, .int 1, .int 1, .int 1, .int 1, .int 1, .int 1, .int 1, .int 1, .int 1, .int 1, .int 1, .int 1, .int 1, .int 1, .int 1, .int 1, .int 1, .int 1, .int 1, .int 1, .int 1, .int 1, .int 1, .int 1, .int 1, .int 1, .int 1, .int 0, .int 1, .int 0, .int 1, .int 0], vm := .none }]
def classes : Array Class := #[k0, k1, k2, k3, k4, k5, k6, k7, k8, k9, k10]
def interned : List (Array UInt16 × Addr) := []
def slotsUsed : Nat := 129
def theMethod : MethodId := ⟨1, 2⟩
def args0 : Array Value := #[.int 5, .int 5]
def aboutOver (below : List Frame) : State where
  vm := { classes := classes, interned := interned.toArray }
  heap := heap
  slotsUsed := slotsUsed
  threads := #[{ frames := .invoking theMethod args0 :: below }]
def below0 : List Frame := [.native { method := ⟨0, 0⟩, args := #[] }]
def about1 : State := aboutOver below0
def p0 : Program := .bare "" "" ""
def e0 : Env := launch0.env 0 0 0
theorem w_frames : about1.frames = Frame.invoking theMethod args0 :: below0 := rfl
set_option maxRecDepth 65536 in
theorem w_args : argsFit about1.vm theMethod args0 = true := by decide +kernel
set_option maxRecDepth 65536 in
theorem w_heap : heapFits about1 = true := by decide +kernel
set_option maxRecDepth 65536 in
theorem w_runnable : about1.curStatus? = some .runnable := by decide +kernel
set_option maxRecDepth 65536 in
theorem w_alone : about1.alone = true := by decide +kernel
set_option maxRecDepth 65536 in
theorem w_named : about1.methodNamed? x = some theMethod := by decide +kernel
set_option maxRecDepth 65536 in
theorem w_hears : about1.hears theMethod below0 = true := by decide +kernel
set_option maxRecDepth 65536 in
theorem w_ripe : about1.ripe theMethod args0 below0 = true := by decide +kernel
theorem w_running : about1.status = .running := rfl
set_option maxRecDepth 65536 in
theorem w_room : about1.hasRoom e0.platform room_1 = true :=
  launch0.hasRoom_least _ room_1 (by decide +kernel) (by decide +kernel) (by decide +kernel) (by decide +kernel) (by decide +kernel) (by decide +kernel)
theorem allAtoms_all (ts : List Jvm.Cond) (a : Array Jvm.Value) (st : Jvm.State) : (allAtoms ts).before a st = ts.all (fun c => c.before a st) := by
  induction ts with
  | nil => rfl
  | cons c t ih =>
    show (Jvm.Cond.and c (allAtoms t)).before a st = _
    rw [Jvm.Cond.before_and, ih, List.all_cons]
def words1 : List Jvm.Cond := Jvm.Cond.code x code maxLocals ret :: tables_1
/-- a 'code' word, met by the world's own term for the bytes: nothing is compared byte by byte -/
theorem code_word {y : MethodName} {bytes : ByteArray} {mx : Nat} {rt : Option FieldType} {a : Array Value} {s : State} {m : MethodId} {meth : Method} {c : Code} (h1 : s.methodNamed? y = some m) (h2 : s.vm.method? m = some meth) (h3 : meth.code = some c) (h4 : c.code = bytes)
    (h5 : (c.maxLocals == mx && c.exceptionTable.isEmpty && decide (c.maxStack ≤ mostOperands) && decide (meth.sig.returnType = rt) && !meth.locks && decide (parseMethodDescriptor y.desc = some meth.sig)) = true) : (Jvm.Cond.code y bytes mx rt).before a s = true := by
  simp only [Bool.and_eq_true, beq_iff_eq, Bool.not_eq_true', decide_eq_true_eq] at h5
  obtain ⟨⟨⟨⟨⟨g1, g2⟩, g3⟩, g4⟩, g5⟩, g6⟩ := h5
  simp [Cond.before, Cond.holds, Cond.value, h1, h2, h3, h4, g1, g2, g3, g4, g5, g6]
def isCode : Jvm.Cond → Bool
  | .code _ _ _ _ => true
  | _ => false
theorem all_split {L : List Jvm.Cond} {P : Jvm.Cond → Bool} (h1 : L.all (fun c => isCode c || P c) = true) (h2 : ∀ c ∈ L.filter isCode, P c = true) : L.all P = true := by
  refine List.all_eq_true.mpr fun c hc => ?_
  have h := List.all_eq_true.mp h1 c hc
  rcases Bool.eq_false_or_eq_true (isCode c) with hi | hi
  · exact h2 c (List.mem_filter.mpr ⟨hc, hi⟩)
  · simpa [hi] using h
set_option maxRecDepth 65536 in
theorem w_c0 : (Jvm.Cond.code x code maxLocals ret).before args0 about1 = true := code_word (m := ⟨1, 2⟩) (meth := k1m2) (c := k1c2) (by decide +kernel) rfl rfl rfl (by decide +kernel)
set_option maxRecDepth 65536 in
theorem w_c1 : (Jvm.Cond.code ({ cls := "com/example/conneg/conneg/header/FieldSyntax", name := "isTokenChar", desc := "(C)Z" } : Jvm.MethodName) prog_13_method_3_code (1 : Nat) (Option.some Jvm.ClassFile.FieldType.boolean)).before args0 about1 = true := code_word (m := ⟨2, 1⟩) (meth := k2m1) (c := k2c1) (by decide +kernel) rfl rfl rfl (by decide +kernel)
set_option maxRecDepth 65536 in
theorem w_c2 : (Jvm.Cond.code ({ cls := "com/example/conneg/conneg/header/FieldSyntaxIsTokenCharPinLaw", name := "expectedTchar", desc := "(C)Z" } : Jvm.MethodName) method_2_code (1 : Nat) (Option.some Jvm.ClassFile.FieldType.boolean)).before args0 about1 = true := code_word (m := ⟨1, 1⟩) (meth := k1m1) (c := k1c1) (by decide +kernel) rfl rfl rfl (by decide +kernel)
def codes1 : List Jvm.Cond := [Jvm.Cond.code x code maxLocals ret, Jvm.Cond.code ({ cls := "com/example/conneg/conneg/header/FieldSyntax", name := "isTokenChar", desc := "(C)Z" } : Jvm.MethodName) prog_13_method_3_code (1 : Nat) (Option.some Jvm.ClassFile.FieldType.boolean), Jvm.Cond.code ({ cls := "com/example/conneg/conneg/header/FieldSyntaxIsTokenCharPinLaw", name := "expectedTchar", desc := "(C)Z" } : Jvm.MethodName) method_2_code (1 : Nat) (Option.some Jvm.ClassFile.FieldType.boolean)]
set_option maxRecDepth 65536 in
theorem codes_eq : words1.filter isCode = codes1 := rfl
theorem w_codes : ∀ c ∈ words1.filter isCode, c.before args0 about1 = true := by
  rw [codes_eq]
  intro c hc
  simp only [codes1, List.mem_cons, List.not_mem_nil, or_false] at hc
  rcases hc with rfl | rfl | rfl
  · exact w_c0
  · exact w_c1
  · exact w_c2
set_option maxRecDepth 65536 in
theorem w_t1 : words1.all (fun c => isCode c || c.before args0 about1) = true := by decide +kernel
theorem w_tables : (allAtoms (Jvm.Cond.code x code maxLocals ret :: tables_1)).before args0 about1 = true := by
  rw [allAtoms_all]
  show words1.all (fun c => c.before args0 about1) = true
  refine all_split ?_ w_codes
  rw [w_t1]
set_option maxRecDepth 65536 in
theorem w_case : (Jvm.Cond.and given_1 narrow_1).before args0 about1 = true := by decide +kernel
theorem w_applies : (headSpec (Jvm.Cond.code x code maxLocals ret :: tables_1) room_1).applies x e0.platform about1 = true :=
  (Spec.applies_iff w_frames).mpr ⟨w_running, w_runnable, w_alone, w_named, w_hears, w_ripe, w_room, w_tables⟩
theorem atStart : AtStart classFile x code maxLocals ret World_1 tables_1 room_1 Calls_1 rest_1 Pre_1 launch0 p0 e0 about1 theMethod args0 below0 :=
  ⟨lists_1, trivial, launch0.admits_env _ _ _, launch0.least_env, fairChoices_fair.cas, fairChoices_fair.clock, w_frames, w_args, w_heap, w_applies, trivial, trivial, w_case⟩
end start1
theorem witness_1 : WitnessClaimed_1 := ⟨start1.p0, start1.e0, start1.about1, start1.theMethod, start1.args0, start1.below0, start1.atStart⟩
end Jvm.Pilot.@@N@@
