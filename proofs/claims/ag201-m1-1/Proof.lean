import JvmDerived
import JvmDerived.Pilot.@@N@@Statement
import JvmDerived.Pilot.@@N@@Code
set_option linter.unusedVariables false
set_option linter.unusedSimpArgs false
namespace Jvm.Pilot.@@N@@
open Jvm Jvm.ClassFile Sem Op Lib Jvm.Free Jvm.Stand Jvm.LawKit Jvm.RoadKit Bundle Jvm.Pilot.@@N@@.Jvm.D
/-- from U the run comes to a return that Q allows -/
def Go (p : Program) (e : Env) (below : List Frame) (s : State) (C S : Nat) (Q : Option Value → Heap → List Loc → Prop) (U : State) : Prop :=
  ∃ t o, Steps p.tables e below U t ∧ t.status = .running ∧ Ended t below o ∧ ∃ v L, o = .returned v ∧ Q v t.heap L ∧ FrameEnd s o t L C S
section own_go
variable {p : Program} {l : Launch} {e : Env} {R : Room} {s : State} {m : MethodId} {args : Array Value} {below : List Frame} {meth : Method} {c : Code} {T U U' : State} {locs : List Loc} {cells slots C S : Nat} {Q : Option Value → Heap → List Loc → Prop}
theorem Go.of (h : ∀ t, Steps p.tables e below U' t → Steps p.tables e below U t) (g : Go p e below s C S Q U') : Go p e below s C S Q U := by
  obtain ⟨t, o, k, r⟩ := g
  exact ⟨t, o, h t k, r⟩
theorem Go.tr (h : Steps p.tables e below U U') (g : Go p e below s C S Q U') : Go p e below s C S Q U := by
  obtain ⟨t, o, k, r⟩ := g
  exact ⟨t, o, h.trans k, r⟩
theorem Go.out (X : Stand p l e R s m args below meth c T locs cells slots) {v : Option Value} (hv : meth.sig.returnType = none → v = none) (hlk : meth.locks = false)
    (hs : ∀ fs, (∀ (f : JFrame) (acts : List Action), f.method = m → f.locked = none → f.entered = [] → (doReturn e (T.setTop f) acts v).1 = T.setFrames fs) → Steps p.tables e below U (T.setFrames fs))
    (hQ : Q v T.heap locs) (hC : cells ≤ C) (hS : slots ≤ S) : Go p e below s C S Q U := by
  obtain ⟨fs, hr, hrun, hended, hW, hsame⟩ := X.leave (v := v) hv hlk
  exact ⟨_, _, hs fs hr, hrun, hended, _, _, rfl, hQ, ⟨_, rfl⟩, hW, hsame.mono hC hS⟩
end own_go
theorem own_lt1 {x y : Int32} {k : Int} (hy : y.toInt = k) (h : x < y) : x.toInt < k := hy ▸ Int32.lt_iff_toInt_lt.mp h
theorem own_ge1 {x y : Int32} {k : Int} (hy : y.toInt = k) (h : ¬ x < y) : k ≤ x.toInt := by rw [Int32.lt_iff_toInt_lt, hy] at h; omega
theorem own_lt2 {x y : Int32} {k : Int} (hy : y.toInt = k) (h : y < x) : k < x.toInt := hy ▸ Int32.lt_iff_toInt_lt.mp h
theorem own_ge2 {x y : Int32} {k : Int} (hy : y.toInt = k) (h : ¬ y < x) : x.toInt ≤ k := by rw [Int32.lt_iff_toInt_lt, hy] at h; omega
theorem own_eq1 {x y : Int32} {k : Int} (hy : y.toInt = k) (h : x = y) : x.toInt = k := by rw [h, hy]
theorem own_ne1 {x y : Int32} {k : Int} (hy : y.toInt = k) (h : ¬ x = y) : x.toInt ≠ k := fun q => h (Int32.toInt_inj.mp (q.trans hy.symm))
theorem own_eq2 {x y : Int32} {k : Int} (hy : y.toInt = k) (h : y = x) : x.toInt = k := by rw [← h, hy]
theorem own_ne2 {x y : Int32} {k : Int} (hy : y.toInt = k) (h : ¬ y = x) : x.toInt ≠ k := fun q => h (Int32.toInt_inj.mp (q.trans hy.symm)).symm
theorem own_eqI {args : Array Value} {first s : State} {o : Option Outcome} {idx : List Nat} {t : Term} {n : Int32} (h : (Cond.eq t (.int n)).value args first o s idx = some true) : t.eval args first o idx s = some (.int n) := by
  obtain ⟨x, y, e1, e2, k1, k2⟩ := cmp_v (Or.inl h)
  obtain rfl : y = .int n := (Option.some.inj e2).symm
  obtain ⟨z, rfl⟩ := k2
  have q := gotT (Cond.eq_ints e1 e2) h
  rw [e1, q]
theorem own_ltn {x : Int64} (h : x < 1) : ¬ 0 < x := fun q => by
  rw [Int64.lt_iff_toInt_lt] at h q; have e1 : (1 : Int64).toInt = 1 := by decide
  have e0 : (0 : Int64).toInt = 0 := by decide
  omega
theorem own_ltp {x : Int64} (h : ¬ x < 1) : 0 < x := by
  rw [Int64.lt_iff_toInt_lt] at h ⊢; have e1 : (1 : Int64).toInt = 1 := by decide
  have e0 : (0 : Int64).toInt = 0 := by decide
  omega
theorem pn_0 : plainName "java/lang/Record" = true := by first | (simp [plainName, overriddenIn]; done) | decide +kernel
theorem d2_0 : decode jdk_30_method_1_code 0 = .ok (.aload_n 0, 1) := by decide +kernel
theorem d2_1 : decode jdk_30_method_1_code 1 = .ok (.invokespecial 1, 3) := by decide +kernel
theorem d2_4 : decode jdk_30_method_1_code 4 = .ok (.return_, 1) := by decide +kernel
def Q2 (Z : State) (a1 : Addr) (h0 : Heap) (n0 : Nat) (v : Option Value) (h : Heap) (L : List Loc) : Prop := v = none ∧ Fr n0 L ∧ h = h0
set_option maxRecDepth 65536 in
set_option maxHeartbeats 40000000 in
theorem rm2 (l : Launch) (Z : State) (a0 : Array Value) (hw : ∀ d ∈ tables_1, d.before a0 Z = true) (ws : List Jvm.Cond) (a1 : Addr) (h0 : Heap) (n0 : Nat) (Z0 : n0 ≤ h0.size) :
    MetFree l (⟨"java/lang/Record", "<init>", "()V"⟩ : MethodName) (head1 (Jvm.Cond.code (⟨"java/lang/Record", "<init>", "()V"⟩ : MethodName) jdk_30_method_1_code 1 none :: ws) ({ frames := 1, cells := 0, slots := 0, locals := 12 } : Room)) (fun a U => a = #[(.ref a1)] ∧ Z.Warmed39 U.vm ∧ U.heap = h0) (fun _ _ _ _ _ => True) (fun _ U o U' => ∃ v L, o = .returned v ∧ Q2 Z a1 h0 n0 v U'.heap L ∧ FrameEnd U o U' L ({ frames := 1, cells := 0, slots := 0, locals := 12 } : Room).cells ({ frames := 1, cells := 0, slots := 0, locals := 12 } : Room).slots) := by
  refine MetFree.of_bodySF (plainFor_of_name pn_0) hisR ?_
  intro p e s m args below meth c s₁ Bd hml0 hP hK
  obtain ⟨rfl, hZ, hh⟩ := hP
  have hx := Bd.exec
  have hby := Bd.bytes
  have hml : c.maxLocals = 1 := hml0
  have hown : s.vm.findClass "java/lang/Record" = some m.cls := findClass_of_methodNamed Bd.named
  have hnm := (name_of_methodNamed Bd.named Bd.method).1
  have hlk : meth.locks = false := BodyLoose.notSynchronized Bd
  have X0 : Stand p l e ({ frames := 1, cells := 0, slots := 0, locals := 12 } : Room) s m #[(.ref a1)] below meth c s₁ [] 0 0 := Stand.of_body Bd
  have e0 : s₁.heap = h0 := by rw [← hh, Bd.state]; rfl
  have N0 := Fr.nil n0
  have hef : entryFrame m #[(.ref a1)] 1 = mkF m 0 #[.val (.ref a1)] [] := by first | (simp [entryFrame, mkF, argsToLocals, Value.category]; done) | rfl
  show Go p e below s ({ frames := 1, cells := 0, slots := 0, locals := 12 } : Room).cells ({ frames := 1, cells := 0, slots := 0, locals := 12 } : Room).slots (Q2 Z a1 h0 n0) (s₁.setTop (entryFrame m #[(.ref a1)] 1))
  rw [hef]
  refine Go.of (fun t k => XS.aloadN X0.here hx rfl (hb hby d2_0) rfl rfl k) ?_
  show Go _ _ _ _ _ _ _ (s₁.setTop (mkF m 1 #[.val (.ref a1)] [(.ref a1)]))
  obtain ⟨T1, X1, e1, st1⟩ := initO X0 hx hZ hown (hw _ (List.mem_of_getElem? (i := 12) rfl)) (hw _ (List.mem_of_getElem? (i := 13) rfl)) (hw _ (List.mem_of_getElem? (i := 14) rfl)) e0 (g := (mkF m 1 #[.val (.ref a1)] [(.ref a1)])) rfl (by rw [hml]; rfl) rfl (hb hby d2_1) (by decide) (W := 0) (by show 2 * 0 + _ ≤ _; exact Nat.le_of_eq rfl) (by decide)
  refine Go.of st1 ?_
  show Go _ _ _ _ _ _ _ (T1.setTop (mkF m 4 #[.val (.ref a1)] []))
  refine Go.out X1 (v := none) (fun _ => rfl) hlk (fun fs hr => X1.returnOut hx Bd.returns (hb hby d2_4) hr) ?_ (by decide) (by decide)
  show Q2 Z a1 h0 n0 _ T1.heap _
  rw [e1]
  exact ⟨rfl, N0, rfl⟩
theorem pn_1 : plainName "com/example/conneg/conneg/bench/Wrk$Report" = true := by first | (simp [plainName, overriddenIn]; done) | decide +kernel
theorem pd_0 : parseMethodDescriptor "()V" = some ⟨[], none⟩ := by decide +kernel
theorem d1_0 : decode prog_3_method_1_code 0 = .ok (.aload_n 0, 1) := by decide +kernel
theorem d1_1 : decode prog_3_method_1_code 1 = .ok (.invokespecial 1, 3) := by decide +kernel
theorem d1_4 : decode prog_3_method_1_code 4 = .ok (.aload_n 0, 1) := by decide +kernel
theorem d1_5 : decode prog_3_method_1_code 5 = .ok (.lload_n 1, 1) := by decide +kernel
theorem d1_6 : decode prog_3_method_1_code 6 = .ok (.putfield 7, 3) := by decide +kernel
theorem d1_9 : decode prog_3_method_1_code 9 = .ok (.aload_n 0, 1) := by decide +kernel
theorem d1_10 : decode prog_3_method_1_code 10 = .ok (.dload_n 3, 1) := by decide +kernel
theorem d1_11 : decode prog_3_method_1_code 11 = .ok (.putfield 13, 3) := by decide +kernel
theorem d1_14 : decode prog_3_method_1_code 14 = .ok (.aload_n 0, 1) := by decide +kernel
theorem d1_15 : decode prog_3_method_1_code 15 = .ok (.lload 5, 2) := by decide +kernel
theorem d1_17 : decode prog_3_method_1_code 17 = .ok (.putfield 17, 3) := by decide +kernel
theorem d1_20 : decode prog_3_method_1_code 20 = .ok (.aload_n 0, 1) := by decide +kernel
theorem d1_21 : decode prog_3_method_1_code 21 = .ok (.lload 7, 2) := by decide +kernel
theorem d1_23 : decode prog_3_method_1_code 23 = .ok (.putfield 20, 3) := by decide +kernel
theorem d1_26 : decode prog_3_method_1_code 26 = .ok (.return_, 1) := by decide +kernel
def Q1 (Z : State) (a1 : Addr) (q1 : Int64) (dd : UInt64) (q2 : Int64) (q3 : Int64) (h0 : Heap) (n0 : Nat) (v : Option Value) (h : Heap) (L : List Loc) : Prop := v = none ∧ Fr n0 L ∧ Keep h0 h [a1] ∧ Exa Z h a1 "com/example/conneg/conneg/bench/Wrk$Report" ∧ Fld Z h a1 "com/example/conneg/conneg/bench/Wrk$Report" "requests" "J" (.long q1) ∧ Fld Z h a1 "com/example/conneg/conneg/bench/Wrk$Report" "errorAnswers" "J" (.long q2) ∧ Fld Z h a1 "com/example/conneg/conneg/bench/Wrk$Report" "socketErrors" "J" (.long q3)
set_option maxRecDepth 65536 in
set_option maxHeartbeats 40000000 in
theorem rm1 (l : Launch) (Z : State) (a0 : Array Value) (hw : ∀ d ∈ tables_1, d.before a0 Z = true) (ws : List Jvm.Cond) (a1 : Addr) (q1 : Int64) (dd : UInt64) (q2 : Int64) (q3 : Int64) (h0 : Heap) (n0 : Nat) (Z0 : n0 ≤ h0.size) (E1 : Exa Z h0 a1 "com/example/conneg/conneg/bench/Wrk$Report") (g1 : n0 ≤ a1) (F_requests : Fld Z h0 a1 "com/example/conneg/conneg/bench/Wrk$Report" "requests" "J" (.long (0 : Int64))) (F_requestsPerSecond : Fld Z h0 a1 "com/example/conneg/conneg/bench/Wrk$Report" "requestsPerSecond" "D" (.double 0)) (F_errorAnswers : Fld Z h0 a1 "com/example/conneg/conneg/bench/Wrk$Report" "errorAnswers" "J" (.long (0 : Int64))) (F_socketErrors : Fld Z h0 a1 "com/example/conneg/conneg/bench/Wrk$Report" "socketErrors" "J" (.long (0 : Int64))) :
    MetFree l (⟨"com/example/conneg/conneg/bench/Wrk$Report", "<init>", "(JDJJ)V"⟩ : MethodName) (head1 (Jvm.Cond.code (⟨"com/example/conneg/conneg/bench/Wrk$Report", "<init>", "(JDJJ)V"⟩ : MethodName) prog_3_method_1_code 9 none :: ws) ({ frames := 2, cells := 0, slots := 0, locals := 24 } : Room)) (fun a U => a = #[(.ref a1), (.long q1), (.double dd), (.long q2), (.long q3)] ∧ Z.Warmed39 U.vm ∧ U.heap = h0) (fun _ _ _ _ _ => True) (fun _ U o U' => ∃ v L, o = .returned v ∧ Q1 Z a1 q1 dd q2 q3 h0 n0 v U'.heap L ∧ FrameEnd U o U' L ({ frames := 2, cells := 0, slots := 0, locals := 24 } : Room).cells ({ frames := 2, cells := 0, slots := 0, locals := 24 } : Room).slots) := by
  refine MetFree.of_bodySF (plainFor_of_name pn_1) hisR ?_
  intro p e s m args below meth c s₁ Bd hml0 hP hK
  obtain ⟨rfl, hZ, hh⟩ := hP
  have hx := Bd.exec
  have hby := Bd.bytes
  have hml : c.maxLocals = 9 := hml0
  have hown : s.vm.findClass "com/example/conneg/conneg/bench/Wrk$Report" = some m.cls := findClass_of_methodNamed Bd.named
  have hnm := (name_of_methodNamed Bd.named Bd.method).1
  have hlk : meth.locks = false := BodyLoose.notSynchronized Bd
  have X0 : Stand p l e ({ frames := 2, cells := 0, slots := 0, locals := 24 } : Room) s m #[(.ref a1), (.long q1), (.double dd), (.long q2), (.long q3)] below meth c s₁ [] 0 0 := Stand.of_body Bd
  have e0 : s₁.heap = h0 := by rw [← hh, Bd.state]; rfl
  have N0 := Fr.nil n0
  have hef : entryFrame m #[(.ref a1), (.long q1), (.double dd), (.long q2), (.long q3)] 9 = mkF m 0 #[.val (.ref a1), .val (.long q1), .second, .val (.double dd), .second, .val (.long q2), .second, .val (.long q3), .second] [] := by first | (simp [entryFrame, mkF, argsToLocals, Value.category]; done) | rfl
  show Go p e below s ({ frames := 2, cells := 0, slots := 0, locals := 24 } : Room).cells ({ frames := 2, cells := 0, slots := 0, locals := 24 } : Room).slots (Q1 Z a1 q1 dd q2 q3 h0 n0) (s₁.setTop (entryFrame m #[(.ref a1), (.long q1), (.double dd), (.long q2), (.long q3)] 9))
  rw [hef]
  refine Go.of (fun t k => XS.aloadN X0.here hx rfl (hb hby d1_0) rfl rfl k) ?_
  show Go _ _ _ _ _ _ _ (s₁.setTop (mkF m 1 #[.val (.ref a1), .val (.long q1), .second, .val (.double dd), .second, .val (.long q2), .second, .val (.long q3), .second] [(.ref a1)]))
  obtain ⟨_, _, ⟨T1, L1, k1, n1⟩, -, X1, ⟨Lc1, hQ1, l1, y1, z1⟩, st1⟩ := X0.specialBack hx (y := (⟨"java/lang/Record", "<init>", "()V"⟩ : MethodName)) rfl hown (mvT hZ (hw _ (List.mem_of_getElem? (i := 7) rfl))) (mvT hZ (hw _ (List.mem_of_getElem? (i := 8) rfl))) (mvT hZ (hw _ (List.mem_of_getElem? (i := 11) rfl))) (by decide) (backOf (W := 0) (rm2 l Z a0 hw [] a1 h0 n0 Z0 ) hZ (hw _ (List.mem_of_getElem? (i := 11) rfl)) (hw _ (List.mem_of_getElem? (i := 10) rfl)) (by decide) (by decide)) (g := (mkF m 1 #[.val (.ref a1), .val (.long q1), .second, .val (.double dd), .second, .val (.long q2), .second, .val (.long q3), .second] [(.ref a1)])) rfl (by rw [hml]; rfl) (Steps.refl _) (a := a1) (argsL := []) (rest := []) (lenOf pd_0 rfl) rfl (by show 2 * 0 + _ ≤ _; exact Nat.le_of_eq rfl) (hb hby d1_1) (fun _ _ => ⟨rfl, e0, (by decide : 0 + 0 ≤ _), (by decide : 0 + 0 ≤ _)⟩)
  dsimp only [Pt.U, Pt.locs, Pt.cells, Pt.slots] at X1 l1 y1 z1 st1 hQ1
  subst l1 y1 z1
  obtain ⟨rfl, N1q, e1⟩ := hQ1
  have N1 := Fr.app N0 N1q
  refine Go.tr st1 ?_
  show Go _ _ _ _ _ _ _ (T1.setTop (mkF m 4 #[.val (.ref a1), .val (.long q1), .second, .val (.double dd), .second, .val (.long q2), .second, .val (.long q3), .second] []))
  refine Go.of (fun t k => XS.aloadN X1.here hx rfl (hb hby d1_4) rfl rfl k) ?_
  show Go _ _ _ _ _ _ _ (T1.setTop (mkF m 5 #[.val (.ref a1), .val (.long q1), .second, .val (.double dd), .second, .val (.long q2), .second, .val (.long q3), .second] [(.ref a1)]))
  refine Go.of (fun t k => XS.lloadN X1.here hx rfl (hb hby d1_5) rfl k) ?_
  show Go _ _ _ _ _ _ _ (T1.setTop (mkF m 6 #[.val (.ref a1), .val (.long q1), .second, .val (.double dd), .second, .val (.long q2), .second, .val (.long q3), .second] [(.long q1), (.ref a1)]))
  obtain ⟨T2, h2, X2, e2, W2, st2⟩ := putF X1 hx hZ hown (host := "") (Or.inl (hw _ (List.mem_of_getElem? (i := 15) rfl))) Via.refl e1 F_requests E1 (Or.inr ⟨(hw _ (List.mem_of_getElem? (i := 16) rfl)), rfl, hnm⟩) (hw _ (List.mem_of_getElem? (i := 2) rfl)) (ty := .long) (by decide) rfl rfl (g := (mkF m 6 #[.val (.ref a1), .val (.long q1), .second, .val (.double dd), .second, .val (.long q2), .second, .val (.long q3), .second] [(.long q1), (.ref a1)])) rfl rfl (hb hby d1_6)
  refine Go.of st2 ?_
  have Fw2 := F_requests.same W2
  have hs3 : h0.size ≤ h2.size := Nat.le_of_eq W2.size.symm
  have N2 := Fr.snoc X2 N1 g1
  show Go _ _ _ _ _ _ _ (T2.setTop (mkF m 9 #[.val (.ref a1), .val (.long q1), .second, .val (.double dd), .second, .val (.long q2), .second, .val (.long q3), .second] []))
  refine Go.of (fun t k => XS.aloadN X2.here hx rfl (hb hby d1_9) rfl rfl k) ?_
  show Go _ _ _ _ _ _ _ (T2.setTop (mkF m 10 #[.val (.ref a1), .val (.long q1), .second, .val (.double dd), .second, .val (.long q2), .second, .val (.long q3), .second] [(.ref a1)]))
  refine Go.of (fun t k => XS.dloadN X2.here hx rfl (hb hby d1_10) rfl k) ?_
  show Go _ _ _ _ _ _ _ (T2.setTop (mkF m 11 #[.val (.ref a1), .val (.long q1), .second, .val (.double dd), .second, .val (.long q2), .second, .val (.long q3), .second] [(.double dd), (.ref a1)]))
  have f4 := (E1.wr W2)
  have f5 := (F_requestsPerSecond.other W2 (Or.inr (slot_ne (Or.inr (hw _ (List.mem_of_getElem? (i := 18) rfl))) (Or.inr (hw _ (List.mem_of_getElem? (i := 16) rfl))) (by decide) (t := .double) (t' := .long) (by decide) (by decide))))
  obtain ⟨T6, h6, X6, e6, W6, st6⟩ := putF X2 hx hZ hown (host := "") (Or.inl (hw _ (List.mem_of_getElem? (i := 17) rfl))) Via.refl e2 f5 f4 (Or.inr ⟨(hw _ (List.mem_of_getElem? (i := 18) rfl)), rfl, hnm⟩) (hw _ (List.mem_of_getElem? (i := 2) rfl)) (ty := .double) (by decide) rfl rfl (g := (mkF m 11 #[.val (.ref a1), .val (.long q1), .second, .val (.double dd), .second, .val (.long q2), .second, .val (.long q3), .second] [(.double dd), (.ref a1)])) rfl rfl (hb hby d1_11)
  refine Go.of st6 ?_
  have Fw6 := f5.same W6
  have hs7 : h2.size ≤ h6.size := Nat.le_of_eq W6.size.symm
  have N6 := Fr.snoc X6 N2 g1
  show Go _ _ _ _ _ _ _ (T6.setTop (mkF m 14 #[.val (.ref a1), .val (.long q1), .second, .val (.double dd), .second, .val (.long q2), .second, .val (.long q3), .second] []))
  refine Go.of (fun t k => XS.aloadN X6.here hx rfl (hb hby d1_14) rfl rfl k) ?_
  show Go _ _ _ _ _ _ _ (T6.setTop (mkF m 15 #[.val (.ref a1), .val (.long q1), .second, .val (.double dd), .second, .val (.long q2), .second, .val (.long q3), .second] [(.ref a1)]))
  refine Go.of (fun t k => XS.lload X6.here hx rfl (hb hby d1_15) rfl k) ?_
  show Go _ _ _ _ _ _ _ (T6.setTop (mkF m 17 #[.val (.ref a1), .val (.long q1), .second, .val (.double dd), .second, .val (.long q2), .second, .val (.long q3), .second] [(.long q2), (.ref a1)]))
  have f8 := (f4.wr W6)
  have f9 := ((F_errorAnswers.other W2 (Or.inr (slot_ne (Or.inr (hw _ (List.mem_of_getElem? (i := 20) rfl))) (Or.inr (hw _ (List.mem_of_getElem? (i := 16) rfl))) (by decide) (t := .long) (t' := .long) (by decide) (by decide)))).other W6 (Or.inr (slot_ne (Or.inr (hw _ (List.mem_of_getElem? (i := 20) rfl))) (Or.inr (hw _ (List.mem_of_getElem? (i := 18) rfl))) (by decide) (t := .long) (t' := .double) (by decide) (by decide))))
  obtain ⟨T10, h10, X10, e10, W10, st10⟩ := putF X6 hx hZ hown (host := "") (Or.inl (hw _ (List.mem_of_getElem? (i := 19) rfl))) Via.refl e6 f9 f8 (Or.inr ⟨(hw _ (List.mem_of_getElem? (i := 20) rfl)), rfl, hnm⟩) (hw _ (List.mem_of_getElem? (i := 2) rfl)) (ty := .long) (by decide) rfl rfl (g := (mkF m 17 #[.val (.ref a1), .val (.long q1), .second, .val (.double dd), .second, .val (.long q2), .second, .val (.long q3), .second] [(.long q2), (.ref a1)])) rfl rfl (hb hby d1_17)
  refine Go.of st10 ?_
  have Fw10 := f9.same W10
  have hs11 : h6.size ≤ h10.size := Nat.le_of_eq W10.size.symm
  have N10 := Fr.snoc X10 N6 g1
  show Go _ _ _ _ _ _ _ (T10.setTop (mkF m 20 #[.val (.ref a1), .val (.long q1), .second, .val (.double dd), .second, .val (.long q2), .second, .val (.long q3), .second] []))
  refine Go.of (fun t k => XS.aloadN X10.here hx rfl (hb hby d1_20) rfl rfl k) ?_
  show Go _ _ _ _ _ _ _ (T10.setTop (mkF m 21 #[.val (.ref a1), .val (.long q1), .second, .val (.double dd), .second, .val (.long q2), .second, .val (.long q3), .second] [(.ref a1)]))
  refine Go.of (fun t k => XS.lload X10.here hx rfl (hb hby d1_21) rfl k) ?_
  show Go _ _ _ _ _ _ _ (T10.setTop (mkF m 23 #[.val (.ref a1), .val (.long q1), .second, .val (.double dd), .second, .val (.long q2), .second, .val (.long q3), .second] [(.long q3), (.ref a1)]))
  have f12 := (f8.wr W10)
  have f13 := (((F_socketErrors.other W2 (Or.inr (slot_ne (Or.inr (hw _ (List.mem_of_getElem? (i := 22) rfl))) (Or.inr (hw _ (List.mem_of_getElem? (i := 16) rfl))) (by decide) (t := .long) (t' := .long) (by decide) (by decide)))).other W6 (Or.inr (slot_ne (Or.inr (hw _ (List.mem_of_getElem? (i := 22) rfl))) (Or.inr (hw _ (List.mem_of_getElem? (i := 18) rfl))) (by decide) (t := .long) (t' := .double) (by decide) (by decide)))).other W10 (Or.inr (slot_ne (Or.inr (hw _ (List.mem_of_getElem? (i := 22) rfl))) (Or.inr (hw _ (List.mem_of_getElem? (i := 20) rfl))) (by decide) (t := .long) (t' := .long) (by decide) (by decide))))
  obtain ⟨T14, h14, X14, e14, W14, st14⟩ := putF X10 hx hZ hown (host := "") (Or.inl (hw _ (List.mem_of_getElem? (i := 21) rfl))) Via.refl e10 f13 f12 (Or.inr ⟨(hw _ (List.mem_of_getElem? (i := 22) rfl)), rfl, hnm⟩) (hw _ (List.mem_of_getElem? (i := 2) rfl)) (ty := .long) (by decide) rfl rfl (g := (mkF m 23 #[.val (.ref a1), .val (.long q1), .second, .val (.double dd), .second, .val (.long q2), .second, .val (.long q3), .second] [(.long q3), (.ref a1)])) rfl rfl (hb hby d1_23)
  refine Go.of st14 ?_
  have Fw14 := f13.same W14
  have hs15 : h10.size ≤ h14.size := Nat.le_of_eq W14.size.symm
  have N14 := Fr.snoc X14 N10 g1
  show Go _ _ _ _ _ _ _ (T14.setTop (mkF m 26 #[.val (.ref a1), .val (.long q1), .second, .val (.double dd), .second, .val (.long q2), .second, .val (.long q3), .second] []))
  refine Go.out X14 (v := none) (fun _ => rfl) hlk (fun fs hr => X14.returnOut hx Bd.returns (hb hby d1_26) hr) ?_ (by decide) (by decide)
  show Q1 Z a1 q1 dd q2 q3 h0 n0 _ T14.heap _
  have f16 := (((Fw2.other W6 (Or.inr (slot_ne (Or.inr (hw _ (List.mem_of_getElem? (i := 16) rfl))) (Or.inr (hw _ (List.mem_of_getElem? (i := 18) rfl))) (by decide) (t := .long) (t' := .double) (by decide) (by decide)))).other W10 (Or.inr (slot_ne (Or.inr (hw _ (List.mem_of_getElem? (i := 16) rfl))) (Or.inr (hw _ (List.mem_of_getElem? (i := 20) rfl))) (by decide) (t := .long) (t' := .long) (by decide) (by decide)))).other W14 (Or.inr (slot_ne (Or.inr (hw _ (List.mem_of_getElem? (i := 16) rfl))) (Or.inr (hw _ (List.mem_of_getElem? (i := 22) rfl))) (by decide) (t := .long) (t' := .long) (by decide) (by decide))))
  have f17 := (Fw10.other W14 (Or.inr (slot_ne (Or.inr (hw _ (List.mem_of_getElem? (i := 20) rfl))) (Or.inr (hw _ (List.mem_of_getElem? (i := 22) rfl))) (by decide) (t := .long) (t' := .long) (by decide) (by decide))))
  have f18 := (f12.wr W14)
  rw [e14]
  exact ⟨rfl, N14, (((((Keep.refl h0 [a1]).wr W2 (Or.inl (List.mem_of_getElem? (i := 0) rfl))).wr W6 (Or.inl (List.mem_of_getElem? (i := 0) rfl))).wr W10 (Or.inl (List.mem_of_getElem? (i := 0) rfl))).wr W14 (Or.inl (List.mem_of_getElem? (i := 0) rfl))), f18, f16, f17, Fw14⟩
theorem d4_0 : decode prog_3_method_3_code 0 = .ok (.aload_n 0, 1) := by decide +kernel
theorem d4_1 : decode prog_3_method_3_code 1 = .ok (.getfield 7, 3) := by decide +kernel
theorem d4_4 : decode prog_3_method_3_code 4 = .ok (.lconst 0, 1) := by decide +kernel
theorem d4_5 : decode prog_3_method_3_code 5 = .ok (.lcmp, 1) := by decide +kernel
theorem d4_6 : decode prog_3_method_3_code 6 = .ok (.ifCond .le 25, 3) := by decide +kernel
theorem d4_9 : decode prog_3_method_3_code 9 = .ok (.aload_n 0, 1) := by decide +kernel
theorem d4_10 : decode prog_3_method_3_code 10 = .ok (.getfield 17, 3) := by decide +kernel
theorem d4_13 : decode prog_3_method_3_code 13 = .ok (.lconst 0, 1) := by decide +kernel
theorem d4_14 : decode prog_3_method_3_code 14 = .ok (.lcmp, 1) := by decide +kernel
theorem d4_15 : decode prog_3_method_3_code 15 = .ok (.ifCond .ne 16, 3) := by decide +kernel
theorem d4_18 : decode prog_3_method_3_code 18 = .ok (.aload_n 0, 1) := by decide +kernel
theorem d4_19 : decode prog_3_method_3_code 19 = .ok (.getfield 20, 3) := by decide +kernel
theorem d4_22 : decode prog_3_method_3_code 22 = .ok (.lconst 0, 1) := by decide +kernel
theorem d4_23 : decode prog_3_method_3_code 23 = .ok (.lcmp, 1) := by decide +kernel
theorem d4_24 : decode prog_3_method_3_code 24 = .ok (.ifCond .ne 7, 3) := by decide +kernel
theorem d4_27 : decode prog_3_method_3_code 27 = .ok (.iconst 1, 1) := by decide +kernel
theorem d4_28 : decode prog_3_method_3_code 28 = .ok (.goto 4, 3) := by decide +kernel
theorem d4_31 : decode prog_3_method_3_code 31 = .ok (.iconst 0, 1) := by decide +kernel
theorem d4_32 : decode prog_3_method_3_code 32 = .ok (.ireturn, 1) := by decide +kernel
def Q4 (Z : State) (a1 : Addr) (q1 : Int64) (q2 : Int64) (q3 : Int64) (h0 : Heap) (n0 : Nat) (v : Option Value) (h : Heap) (L : List Loc) : Prop := v = some (.int (if 0 < q1 ∧ q2 = 0 ∧ q3 = 0 then 1 else 0)) ∧ Fr n0 L ∧ h = h0
set_option maxRecDepth 65536 in
set_option maxHeartbeats 40000000 in
theorem rm4 (l : Launch) (Z : State) (a0 : Array Value) (hw : ∀ d ∈ tables_1, d.before a0 Z = true) (ws : List Jvm.Cond) (a1 : Addr) (q1 : Int64) (q2 : Int64) (q3 : Int64) (h0 : Heap) (n0 : Nat) (Z0 : n0 ≤ h0.size) (F_requests : Fld Z h0 a1 "com/example/conneg/conneg/bench/Wrk$Report" "requests" "J" (.long q1)) (F_errorAnswers : Fld Z h0 a1 "com/example/conneg/conneg/bench/Wrk$Report" "errorAnswers" "J" (.long q2)) (F_socketErrors : Fld Z h0 a1 "com/example/conneg/conneg/bench/Wrk$Report" "socketErrors" "J" (.long q3)) :
    MetFree l (⟨"com/example/conneg/conneg/bench/Wrk$Report", "isClean", "()Z"⟩ : MethodName) (head1 (Jvm.Cond.code (⟨"com/example/conneg/conneg/bench/Wrk$Report", "isClean", "()Z"⟩ : MethodName) prog_3_method_3_code 1 (some .boolean) :: ws) ({ frames := 0, cells := 0, slots := 0, locals := 0 } : Room)) (fun a U => a = #[(.ref a1)] ∧ Z.Warmed39 U.vm ∧ U.heap = h0) (fun _ _ _ _ _ => True) (fun _ U o U' => ∃ v L, o = .returned v ∧ Q4 Z a1 q1 q2 q3 h0 n0 v U'.heap L ∧ FrameEnd U o U' L ({ frames := 0, cells := 0, slots := 0, locals := 0 } : Room).cells ({ frames := 0, cells := 0, slots := 0, locals := 0 } : Room).slots) := by
  refine MetFree.of_bodySF (plainFor_of_name pn_1) hisR ?_
  intro p e s m args below meth c s₁ Bd hml0 hP hK
  obtain ⟨rfl, hZ, hh⟩ := hP
  have hx := Bd.exec
  have hby := Bd.bytes
  have hml : c.maxLocals = 1 := hml0
  have hown : s.vm.findClass "com/example/conneg/conneg/bench/Wrk$Report" = some m.cls := findClass_of_methodNamed Bd.named
  have hnm := (name_of_methodNamed Bd.named Bd.method).1
  have hlk : meth.locks = false := BodyLoose.notSynchronized Bd
  have X0 : Stand p l e ({ frames := 0, cells := 0, slots := 0, locals := 0 } : Room) s m #[(.ref a1)] below meth c s₁ [] 0 0 := Stand.of_body Bd
  have e0 : s₁.heap = h0 := by rw [← hh, Bd.state]; rfl
  have N0 := Fr.nil n0
  have hef : entryFrame m #[(.ref a1)] 1 = mkF m 0 #[.val (.ref a1)] [] := by first | (simp [entryFrame, mkF, argsToLocals, Value.category]; done) | rfl
  show Go p e below s ({ frames := 0, cells := 0, slots := 0, locals := 0 } : Room).cells ({ frames := 0, cells := 0, slots := 0, locals := 0 } : Room).slots (Q4 Z a1 q1 q2 q3 h0 n0) (s₁.setTop (entryFrame m #[(.ref a1)] 1))
  rw [hef]
  refine Go.of (fun t k => XS.aloadN X0.here hx rfl (hb hby d4_0) rfl rfl k) ?_
  show Go _ _ _ _ _ _ _ (s₁.setTop (mkF m 1 #[.val (.ref a1)] [(.ref a1)]))
  obtain ⟨T1, X1, e1, st1⟩ := getF X0 hx hZ hown (host := "") (Or.inl (hw _ (List.mem_of_getElem? (i := 15) rfl))) Via.refl e0 F_requests (g := (mkF m 1 #[.val (.ref a1)] [(.ref a1)])) rfl rfl (hb hby d4_1)
  refine Go.of st1 ?_
  show Go _ _ _ _ _ _ _ (T1.setTop (mkF m 4 #[.val (.ref a1)] [(.long q1)]))
  refine Go.of (fun t k => XS.lconst X1.here hx rfl (hb hby d4_4) k) ?_
  show Go _ _ _ _ _ _ _ (T1.setTop (mkF m 5 #[.val (.ref a1)] [(.long (0 : Int64)), (.long q1)]))
  refine Go.of (fun t k => XS.lcmp X1.here hx rfl (hb hby d4_5) rfl k) ?_
  show Go _ _ _ _ _ _ _ (T1.setTop (mkF m 6 #[.val (.ref a1)] [(.int (lcmpW q1 (0 : Int64)))]))
  by_cases hc6_2 : (0 : Int32) < (lcmpW q1 (0 : Int64))
  · skip
    refine Go.of (fun t k => XS.ifNo X1.here hx rfl (hb hby d4_6) rfl ((if0 _ _).trans (tlt hc6_2).2.2.2) k) ?_
    show Go _ _ _ _ _ _ _ (T1.setTop (mkF m 9 #[.val (.ref a1)] []))
    refine Go.of (fun t k => XS.aloadN X1.here hx rfl (hb hby d4_9) rfl rfl k) ?_
    show Go _ _ _ _ _ _ _ (T1.setTop (mkF m 10 #[.val (.ref a1)] [(.ref a1)]))
    obtain ⟨T3, X3, e3, st3⟩ := getF X1 hx hZ hown (host := "") (Or.inl (hw _ (List.mem_of_getElem? (i := 19) rfl))) Via.refl e1 F_errorAnswers (g := (mkF m 10 #[.val (.ref a1)] [(.ref a1)])) rfl rfl (hb hby d4_10)
    refine Go.of st3 ?_
    show Go _ _ _ _ _ _ _ (T3.setTop (mkF m 13 #[.val (.ref a1)] [(.long q2)]))
    refine Go.of (fun t k => XS.lconst X3.here hx rfl (hb hby d4_13) k) ?_
    show Go _ _ _ _ _ _ _ (T3.setTop (mkF m 14 #[.val (.ref a1)] [(.long (0 : Int64)), (.long q2)]))
    refine Go.of (fun t k => XS.lcmp X3.here hx rfl (hb hby d4_14) rfl k) ?_
    show Go _ _ _ _ _ _ _ (T3.setTop (mkF m 15 #[.val (.ref a1)] [(.int (lcmpW q2 (0 : Int64)))]))
    by_cases hc15_4 : (lcmpW q2 (0 : Int64)) = (0 : Int32)
    · skip
      refine Go.of (fun t k => XS.ifNo X3.here hx rfl (hb hby d4_15) rfl ((if0 _ _).trans (teq hc15_4).2) k) ?_
      show Go _ _ _ _ _ _ _ (T3.setTop (mkF m 18 #[.val (.ref a1)] []))
      refine Go.of (fun t k => XS.aloadN X3.here hx rfl (hb hby d4_18) rfl rfl k) ?_
      show Go _ _ _ _ _ _ _ (T3.setTop (mkF m 19 #[.val (.ref a1)] [(.ref a1)]))
      obtain ⟨T5, X5, e5, st5⟩ := getF X3 hx hZ hown (host := "") (Or.inl (hw _ (List.mem_of_getElem? (i := 21) rfl))) Via.refl e3 F_socketErrors (g := (mkF m 19 #[.val (.ref a1)] [(.ref a1)])) rfl rfl (hb hby d4_19)
      refine Go.of st5 ?_
      show Go _ _ _ _ _ _ _ (T5.setTop (mkF m 22 #[.val (.ref a1)] [(.long q3)]))
      refine Go.of (fun t k => XS.lconst X5.here hx rfl (hb hby d4_22) k) ?_
      show Go _ _ _ _ _ _ _ (T5.setTop (mkF m 23 #[.val (.ref a1)] [(.long (0 : Int64)), (.long q3)]))
      refine Go.of (fun t k => XS.lcmp X5.here hx rfl (hb hby d4_23) rfl k) ?_
      show Go _ _ _ _ _ _ _ (T5.setTop (mkF m 24 #[.val (.ref a1)] [(.int (lcmpW q3 (0 : Int64)))]))
      by_cases hc24_6 : (lcmpW q3 (0 : Int64)) = (0 : Int32)
      · skip
        refine Go.of (fun t k => XS.ifNo X5.here hx rfl (hb hby d4_24) rfl ((if0 _ _).trans (teq hc24_6).2) k) ?_
        show Go _ _ _ _ _ _ _ (T5.setTop (mkF m 27 #[.val (.ref a1)] []))
        refine Go.of (fun t k => XS.iconst X5.here hx rfl (hb hby d4_27) k) ?_
        show Go _ _ _ _ _ _ _ (T5.setTop (mkF m 28 #[.val (.ref a1)] [(.int (1 : Int32))]))
        refine Go.of (fun t k => XS.goto X5.here hx rfl (pc0 := 28) (pc' := 32) rfl (hb hby d4_28) (by decide) (by decide) k) ?_
        show Go _ _ _ _ _ _ _ (T5.setTop (mkF m 32 #[.val (.ref a1)] [(.int (1 : Int32))]))
        refine Go.out X5 (v := some (.int (1 : Int32))) (fun h => by rw [Bd.returns] at h; cases h) hlk (fun fs hr => retN X5 hx (t := .boolean) Bd.returns (by simp) (hb hby d4_32) hr) ?_ (by decide) (by decide)
        show Q4 Z a1 q1 q2 q3 h0 n0 _ T5.heap _
        have hl7 := (lw_gt _ _).mp hc6_2
        have hl8 := (lw_eq _ _).mp hc15_4
        have hl9 := (lw_eq _ _).mp hc24_6
        rw [e5]
        exact ⟨by simp [hl7, hl8, hl9], N0, rfl⟩
      · skip
        refine Go.of (fun t k => XS.ifYes X5.here hx rfl (pc0 := 24) (pc' := 31) rfl (hb hby d4_24) rfl ((if0 _ _).trans (feq hc24_6).2) (by decide) (by decide) k) ?_
        show Go _ _ _ _ _ _ _ (T5.setTop (mkF m 31 #[.val (.ref a1)] []))
        refine Go.of (fun t k => XS.iconst X5.here hx rfl (hb hby d4_31) k) ?_
        show Go _ _ _ _ _ _ _ (T5.setTop (mkF m 32 #[.val (.ref a1)] [(.int (0 : Int32))]))
        refine Go.out X5 (v := some (.int (0 : Int32))) (fun h => by rw [Bd.returns] at h; cases h) hlk (fun fs hr => retN X5 hx (t := .boolean) Bd.returns (by simp) (hb hby d4_32) hr) ?_ (by decide) (by decide)
        show Q4 Z a1 q1 q2 q3 h0 n0 _ T5.heap _
        have hl10 := (lw_gt _ _).mp hc6_2
        have hl11 := (lw_eq _ _).mp hc15_4
        have hl12 := mt (lw_eq _ _).mpr hc24_6
        rw [e5]
        exact ⟨by simp [hl10, hl11, hl12], N0, rfl⟩
    · skip
      refine Go.of (fun t k => XS.ifYes X3.here hx rfl (pc0 := 15) (pc' := 31) rfl (hb hby d4_15) rfl ((if0 _ _).trans (feq hc15_4).2) (by decide) (by decide) k) ?_
      show Go _ _ _ _ _ _ _ (T3.setTop (mkF m 31 #[.val (.ref a1)] []))
      refine Go.of (fun t k => XS.iconst X3.here hx rfl (hb hby d4_31) k) ?_
      show Go _ _ _ _ _ _ _ (T3.setTop (mkF m 32 #[.val (.ref a1)] [(.int (0 : Int32))]))
      refine Go.out X3 (v := some (.int (0 : Int32))) (fun h => by rw [Bd.returns] at h; cases h) hlk (fun fs hr => retN X3 hx (t := .boolean) Bd.returns (by simp) (hb hby d4_32) hr) ?_ (by decide) (by decide)
      show Q4 Z a1 q1 q2 q3 h0 n0 _ T3.heap _
      have hl13 := (lw_gt _ _).mp hc6_2
      have hl14 := mt (lw_eq _ _).mpr hc15_4
      rw [e3]
      exact ⟨by simp [hl13, hl14], N0, rfl⟩
  · skip
    refine Go.of (fun t k => XS.ifYes X1.here hx rfl (pc0 := 6) (pc' := 31) rfl (hb hby d4_6) rfl ((if0 _ _).trans (flt hc6_2).2.2.2) (by decide) (by decide) k) ?_
    show Go _ _ _ _ _ _ _ (T1.setTop (mkF m 31 #[.val (.ref a1)] []))
    refine Go.of (fun t k => XS.iconst X1.here hx rfl (hb hby d4_31) k) ?_
    show Go _ _ _ _ _ _ _ (T1.setTop (mkF m 32 #[.val (.ref a1)] [(.int (0 : Int32))]))
    refine Go.out X1 (v := some (.int (0 : Int32))) (fun h => by rw [Bd.returns] at h; cases h) hlk (fun fs hr => retN X1 hx (t := .boolean) Bd.returns (by simp) (hb hby d4_32) hr) ?_ (by decide) (by decide)
    show Q4 Z a1 q1 q2 q3 h0 n0 _ T1.heap _
    have hl15 := mt (lw_gt _ _).mpr hc6_2
    rw [e1]
    exact ⟨by simp [hl15], N0, rfl⟩
theorem pn_2 : plainName "com/example/conneg/conneg/bench/ReportIsCleanPinLaw" = true := by first | (simp [plainName, overriddenIn]; done) | decide +kernel
theorem pd_1 : parseMethodDescriptor "(JDJJ)V" = some ⟨[.long, .double, .long, .long], none⟩ := by decide +kernel
theorem pd_2 : parseMethodDescriptor "()Z" = some ⟨[], some .boolean⟩ := by decide +kernel
def Q0 (Z : State) (q1 : Int64) (q2 : Int64) (q3 : Int64) (p4 : Int32) (p5 : Int32) (h0 : Heap) (n0 : Nat) (v : Option Value) (h : Heap) (L : List Loc) : Prop := v = some (.int 1) ∧ Fr n0 L
set_option maxRecDepth 65536 in
set_option maxHeartbeats 40000000 in
theorem rm0 (l : Launch) (Z : State) (a0 : Array Value) (hw : ∀ d ∈ tables_1, d.before a0 Z = true) (ws : List Jvm.Cond) (q1 : Int64) (q2 : Int64) (q3 : Int64) (p4 : Int32) (p5 : Int32) (h0 : Heap) (n0 : Nat) (Z0 : n0 ≤ h0.size) :
    MetFree l x (head1 (Jvm.Cond.code x code maxLocals ret :: ws) room_1) (fun a U => a = #[(.long q1), (.long q2), (.long q3), (.int p4), (.int p5)] ∧ Z.Warmed39 U.vm ∧ U.heap = h0) (fun _ _ _ _ _ => True) (fun _ U o U' => ∃ v L, o = .returned v ∧ Q0 Z q1 q2 q3 p4 p5 h0 n0 v U'.heap L ∧ FrameEnd U o U' L room_1.cells room_1.slots) := by
  refine MetFree.of_bodySF (plainFor_of_name pn_2) hisR ?_
  intro p e s m args below meth c s₁ Bd hml0 hP hK
  obtain ⟨rfl, hZ, hh⟩ := hP
  have hx := Bd.exec
  have hby := Bd.bytes
  have hml : c.maxLocals = 18 := hml0
  have hown : s.vm.findClass "com/example/conneg/conneg/bench/ReportIsCleanPinLaw" = some m.cls := findClass_of_methodNamed Bd.named
  have hnm := (name_of_methodNamed Bd.named Bd.method).1
  have hlk : meth.locks = false := BodyLoose.notSynchronized Bd
  have X0 : Stand p l e room_1 s m #[(.long q1), (.long q2), (.long q3), (.int p4), (.int p5)] below meth c s₁ [] 0 0 := Stand.of_body Bd
  have e0 : s₁.heap = h0 := by rw [← hh, Bd.state]; rfl
  have N0 := Fr.nil n0
  have hef : entryFrame m #[(.long q1), (.long q2), (.long q3), (.int p4), (.int p5)] maxLocals = mkF m 0 #[.val (.long q1), .second, .val (.long q2), .second, .val (.long q3), .second, .val (.int p4), .val (.int p5), .unset, .unset, .unset, .unset, .unset, .unset, .unset, .unset, .unset, .unset] [] := by first | (simp [entryFrame, mkF, argsToLocals, Value.category, maxLocals]; done) | rfl
  show Go p e below s room_1.cells room_1.slots (Q0 Z q1 q2 q3 p4 p5 h0 n0) (s₁.setTop (entryFrame m #[(.long q1), (.long q2), (.long q3), (.int p4), (.int p5)] maxLocals))
  rw [hef]
  refine Go.of (fun t k => XS.lloadN X0.here hx rfl (hb hby at_0) rfl k) ?_
  show Go _ _ _ _ _ _ _ (s₁.setTop (mkF m 1 #[.val (.long q1), .second, .val (.long q2), .second, .val (.long q3), .second, .val (.int p4), .val (.int p5), .unset, .unset, .unset, .unset, .unset, .unset, .unset, .unset, .unset, .unset] [(.long q1)]))
  refine Go.of (fun t k => XS.lstore X0.here hx rfl (hb hby at_1) rfl (l' := #[.val (.long q1), .second, .val (.long q2), .second, .val (.long q3), .second, .val (.int p4), .val (.int p5), .val (.long q1), .second, .unset, .unset, .unset, .unset, .unset, .unset, .unset, .unset]) rfl k) ?_
  show Go _ _ _ _ _ _ _ (s₁.setTop (mkF m 3 #[.val (.long q1), .second, .val (.long q2), .second, .val (.long q3), .second, .val (.int p4), .val (.int p5), .val (.long q1), .second, .unset, .unset, .unset, .unset, .unset, .unset, .unset, .unset] []))
  refine Go.of (fun t k => XS.lloadN X0.here hx rfl (hb hby at_3) rfl k) ?_
  show Go _ _ _ _ _ _ _ (s₁.setTop (mkF m 4 #[.val (.long q1), .second, .val (.long q2), .second, .val (.long q3), .second, .val (.int p4), .val (.int p5), .val (.long q1), .second, .unset, .unset, .unset, .unset, .unset, .unset, .unset, .unset] [(.long q2)]))
  refine Go.of (fun t k => XS.lstore X0.here hx rfl (hb hby at_4) rfl (l' := #[.val (.long q1), .second, .val (.long q2), .second, .val (.long q3), .second, .val (.int p4), .val (.int p5), .val (.long q1), .second, .val (.long q2), .second, .unset, .unset, .unset, .unset, .unset, .unset]) rfl k) ?_
  show Go _ _ _ _ _ _ _ (s₁.setTop (mkF m 6 #[.val (.long q1), .second, .val (.long q2), .second, .val (.long q3), .second, .val (.int p4), .val (.int p5), .val (.long q1), .second, .val (.long q2), .second, .unset, .unset, .unset, .unset, .unset, .unset] []))
  refine Go.of (fun t k => XS.lload X0.here hx rfl (hb hby at_6) rfl k) ?_
  show Go _ _ _ _ _ _ _ (s₁.setTop (mkF m 8 #[.val (.long q1), .second, .val (.long q2), .second, .val (.long q3), .second, .val (.int p4), .val (.int p5), .val (.long q1), .second, .val (.long q2), .second, .unset, .unset, .unset, .unset, .unset, .unset] [(.long q3)]))
  refine Go.of (fun t k => XS.lstore X0.here hx rfl (hb hby at_8) rfl (l' := #[.val (.long q1), .second, .val (.long q2), .second, .val (.long q3), .second, .val (.int p4), .val (.int p5), .val (.long q1), .second, .val (.long q2), .second, .val (.long q3), .second, .unset, .unset, .unset, .unset]) rfl k) ?_
  show Go _ _ _ _ _ _ _ (s₁.setTop (mkF m 10 #[.val (.long q1), .second, .val (.long q2), .second, .val (.long q3), .second, .val (.int p4), .val (.int p5), .val (.long q1), .second, .val (.long q2), .second, .val (.long q3), .second, .unset, .unset, .unset, .unset] []))
  refine Go.of (fun t k => XS.iload X0.here hx rfl (hb hby at_10) rfl k) ?_
  show Go _ _ _ _ _ _ _ (s₁.setTop (mkF m 12 #[.val (.long q1), .second, .val (.long q2), .second, .val (.long q3), .second, .val (.int p4), .val (.int p5), .val (.long q1), .second, .val (.long q2), .second, .val (.long q3), .second, .unset, .unset, .unset, .unset] [(.int p4)]))
  refine Go.of (fun t k => XS.iconst X0.here hx rfl (hb hby at_12) k) ?_
  show Go _ _ _ _ _ _ _ (s₁.setTop (mkF m 13 #[.val (.long q1), .second, .val (.long q2), .second, .val (.long q3), .second, .val (.int p4), .val (.int p5), .val (.long q1), .second, .val (.long q2), .second, .val (.long q3), .second, .unset, .unset, .unset, .unset] [(.int (1 : Int32)), (.int p4)]))
  refine Go.of (fun t k => XS.iand X0.here hx rfl (hb hby at_13) rfl k) ?_
  show Go _ _ _ _ _ _ _ (s₁.setTop (mkF m 14 #[.val (.long q1), .second, .val (.long q2), .second, .val (.long q3), .second, .val (.int p4), .val (.int p5), .val (.long q1), .second, .val (.long q2), .second, .val (.long q3), .second, .unset, .unset, .unset, .unset] [(.int (p4 &&& (1 : Int32)))]))
  have k20_2 : ∀ (err : Int64), Go p e below s room_1.cells room_1.slots (Q0 Z q1 q2 q3 p4 p5 h0 n0) (s₁.setTop (mkF m 20 #[.val (.long q1), .second, .val (.long q2), .second, .val (.long q3), .second, .val (.int p4), .val (.int p5), .val (.long q1), .second, .val (.long err), .second, .val (.long q3), .second, .unset, .unset, .unset, .unset] [])) := by
    intro err
    refine Go.of (fun t k => XS.iload X0.here hx rfl (hb hby at_20) rfl k) ?_
    show Go _ _ _ _ _ _ _ (s₁.setTop (mkF m 22 #[.val (.long q1), .second, .val (.long q2), .second, .val (.long q3), .second, .val (.int p4), .val (.int p5), .val (.long q1), .second, .val (.long err), .second, .val (.long q3), .second, .unset, .unset, .unset, .unset] [(.int p4)]))
    refine Go.of (fun t k => XS.iconst X0.here hx rfl (hb hby at_22) k) ?_
    show Go _ _ _ _ _ _ _ (s₁.setTop (mkF m 23 #[.val (.long q1), .second, .val (.long q2), .second, .val (.long q3), .second, .val (.int p4), .val (.int p5), .val (.long q1), .second, .val (.long err), .second, .val (.long q3), .second, .unset, .unset, .unset, .unset] [(.int (2 : Int32)), (.int p4)]))
    refine Go.of (fun t k => XS.iand X0.here hx rfl (hb hby at_23) rfl k) ?_
    show Go _ _ _ _ _ _ _ (s₁.setTop (mkF m 24 #[.val (.long q1), .second, .val (.long q2), .second, .val (.long q3), .second, .val (.int p4), .val (.int p5), .val (.long q1), .second, .val (.long err), .second, .val (.long q3), .second, .unset, .unset, .unset, .unset] [(.int (p4 &&& (2 : Int32)))]))
    have k30_4 : ∀ (sock : Int64), Go p e below s room_1.cells room_1.slots (Q0 Z q1 q2 q3 p4 p5 h0 n0) (s₁.setTop (mkF m 30 #[.val (.long q1), .second, .val (.long q2), .second, .val (.long q3), .second, .val (.int p4), .val (.int p5), .val (.long q1), .second, .val (.long err), .second, .val (.long sock), .second, .unset, .unset, .unset, .unset] [])) := by
      intro sock
      refine Go.of (fun t k => XS.iload X0.here hx rfl (hb hby at_30) rfl k) ?_
      show Go _ _ _ _ _ _ _ (s₁.setTop (mkF m 32 #[.val (.long q1), .second, .val (.long q2), .second, .val (.long q3), .second, .val (.int p4), .val (.int p5), .val (.long q1), .second, .val (.long err), .second, .val (.long sock), .second, .unset, .unset, .unset, .unset] [(.int p4)]))
      refine Go.of (fun t k => XS.iconst X0.here hx rfl (hb hby at_32) k) ?_
      show Go _ _ _ _ _ _ _ (s₁.setTop (mkF m 33 #[.val (.long q1), .second, .val (.long q2), .second, .val (.long q3), .second, .val (.int p4), .val (.int p5), .val (.long q1), .second, .val (.long err), .second, .val (.long sock), .second, .unset, .unset, .unset, .unset] [(.int (4 : Int32)), (.int p4)]))
      refine Go.of (fun t k => XS.iand X0.here hx rfl (hb hby at_33) rfl k) ?_
      show Go _ _ _ _ _ _ _ (s₁.setTop (mkF m 34 #[.val (.long q1), .second, .val (.long q2), .second, .val (.long q3), .second, .val (.int p4), .val (.int p5), .val (.long q1), .second, .val (.long err), .second, .val (.long sock), .second, .unset, .unset, .unset, .unset] [(.int (p4 &&& (4 : Int32)))]))
      have k47_6 : ∀ (req : Int64), Go p e below s room_1.cells room_1.slots (Q0 Z q1 q2 q3 p4 p5 h0 n0) (s₁.setTop (mkF m 47 #[.val (.long q1), .second, .val (.long q2), .second, .val (.long q3), .second, .val (.int p4), .val (.int p5), .val (.long req), .second, .val (.long err), .second, .val (.long sock), .second, .unset, .unset, .unset, .unset] [])) := by
        intro req
        refine Go.of (fun t k => XS.iload X0.here hx rfl (hb hby at_47) rfl k) ?_
        show Go _ _ _ _ _ _ _ (s₁.setTop (mkF m 49 #[.val (.long q1), .second, .val (.long q2), .second, .val (.long q3), .second, .val (.int p4), .val (.int p5), .val (.long req), .second, .val (.long err), .second, .val (.long sock), .second, .unset, .unset, .unset, .unset] [(.int p5)]))
        refine Go.of (fun t k => X0.ldcInt hx hown (mvT hZ (hw _ (List.mem_of_getElem? (i := 0) rfl))) (g := (mkF m 49 #[.val (.long q1), .second, .val (.long q2), .second, .val (.long q3), .second, .val (.int p4), .val (.int p5), .val (.long req), .second, .val (.long err), .second, .val (.long sock), .second, .unset, .unset, .unset, .unset] [(.int p5)])) rfl (hb hby at_49) _ k) ?_
        show Go _ _ _ _ _ _ _ (s₁.setTop (mkF m 51 #[.val (.long q1), .second, .val (.long q2), .second, .val (.long q3), .second, .val (.int p4), .val (.int p5), .val (.long req), .second, .val (.long err), .second, .val (.long sock), .second, .unset, .unset, .unset, .unset] [(.int (65535 : Int32)), (.int p5)]))
        refine Go.of (fun t k => XS.iand X0.here hx rfl (hb hby at_51) rfl k) ?_
        show Go _ _ _ _ _ _ _ (s₁.setTop (mkF m 52 #[.val (.long q1), .second, .val (.long q2), .second, .val (.long q3), .second, .val (.int p4), .val (.int p5), .val (.long req), .second, .val (.long err), .second, .val (.long sock), .second, .unset, .unset, .unset, .unset] [(.int (p5 &&& (65535 : Int32)))]))
        obtain ⟨d7, hd7⟩ : ∃ z, FP.i2d (p5 &&& (65535 : Int32)) = z := ⟨_, rfl⟩
        refine Go.of (fun t k => XS.i2dS X0.here hx rfl (hb hby at_52) rfl hd7 k) ?_
        show Go _ _ _ _ _ _ _ (s₁.setTop (mkF m 53 #[.val (.long q1), .second, .val (.long q2), .second, .val (.long q3), .second, .val (.int p4), .val (.int p5), .val (.long req), .second, .val (.long err), .second, .val (.long sock), .second, .unset, .unset, .unset, .unset] [(.double d7)]))
        refine Go.of (fun t k => XS.dstore X0.here hx rfl (hb hby at_53) rfl (l' := #[.val (.long q1), .second, .val (.long q2), .second, .val (.long q3), .second, .val (.int p4), .val (.int p5), .val (.long req), .second, .val (.long err), .second, .val (.long sock), .second, .val (.double d7), .second, .unset, .unset]) rfl k) ?_
        show Go _ _ _ _ _ _ _ (s₁.setTop (mkF m 55 #[.val (.long q1), .second, .val (.long q2), .second, .val (.long q3), .second, .val (.int p4), .val (.int p5), .val (.long req), .second, .val (.long err), .second, .val (.long sock), .second, .val (.double d7), .second, .unset, .unset] []))
        obtain ⟨T8, h8, X8, e8, E8, A8, D8, -, st8⟩ := newO X0 hx hZ hown (hw _ (List.mem_of_getElem? (i := 1) rfl)) (hw _ (List.mem_of_getElem? (i := 2) rfl)) (hw _ (List.mem_of_getElem? (i := 3) rfl)) e0 (g := (mkF m 55 #[.val (.long q1), .second, .val (.long q2), .second, .val (.long q3), .second, .val (.int p4), .val (.int p5), .val (.long req), .second, .val (.long err), .second, .val (.long sock), .second, .val (.double d7), .second, .unset, .unset] [])) rfl (hb hby at_55) (by decide) (by decide)
        obtain ⟨b8, g8⟩ : ∃ z, z = h0.size := ⟨_, rfl⟩
        rw [← g8] at A8 D8 st8
        have lt8 : b8 < h8.size := A8.lt
        refine Go.of st8 ?_
        have hs9 : h0.size ≤ h8.size := E8.1
        have F8_requests : Fld Z h8 b8 "com/example/conneg/conneg/bench/Wrk$Report" "requests" "J" (.long (0 : Int64)) := D8 (Or.inr (hw _ (List.mem_of_getElem? (i := 16) rfl))) (ty := .long) (by decide)
        have F8_requestsPerSecond : Fld Z h8 b8 "com/example/conneg/conneg/bench/Wrk$Report" "requestsPerSecond" "D" (.double 0) := D8 (Or.inr (hw _ (List.mem_of_getElem? (i := 18) rfl))) (ty := .double) (by decide)
        have F8_errorAnswers : Fld Z h8 b8 "com/example/conneg/conneg/bench/Wrk$Report" "errorAnswers" "J" (.long (0 : Int64)) := D8 (Or.inr (hw _ (List.mem_of_getElem? (i := 20) rfl))) (ty := .long) (by decide)
        have F8_socketErrors : Fld Z h8 b8 "com/example/conneg/conneg/bench/Wrk$Report" "socketErrors" "J" (.long (0 : Int64)) := D8 (Or.inr (hw _ (List.mem_of_getElem? (i := 22) rfl))) (ty := .long) (by decide)
        show Go _ _ _ _ _ _ _ (T8.setTop (mkF m 58 #[.val (.long q1), .second, .val (.long q2), .second, .val (.long q3), .second, .val (.int p4), .val (.int p5), .val (.long req), .second, .val (.long err), .second, .val (.long sock), .second, .val (.double d7), .second, .unset, .unset] [(.ref b8)]))
        refine Go.of (fun t k => XS.dup X8.here hx rfl (hb hby at_58) rfl rfl k) ?_
        show Go _ _ _ _ _ _ _ (T8.setTop (mkF m 59 #[.val (.long q1), .second, .val (.long q2), .second, .val (.long q3), .second, .val (.int p4), .val (.int p5), .val (.long req), .second, .val (.long err), .second, .val (.long sock), .second, .val (.double d7), .second, .unset, .unset] [(.ref b8), (.ref b8)]))
        refine Go.of (fun t k => XS.lload X8.here hx rfl (hb hby at_59) rfl k) ?_
        show Go _ _ _ _ _ _ _ (T8.setTop (mkF m 61 #[.val (.long q1), .second, .val (.long q2), .second, .val (.long q3), .second, .val (.int p4), .val (.int p5), .val (.long req), .second, .val (.long err), .second, .val (.long sock), .second, .val (.double d7), .second, .unset, .unset] [(.long req), (.ref b8), (.ref b8)]))
        refine Go.of (fun t k => XS.dload X8.here hx rfl (hb hby at_61) rfl k) ?_
        show Go _ _ _ _ _ _ _ (T8.setTop (mkF m 63 #[.val (.long q1), .second, .val (.long q2), .second, .val (.long q3), .second, .val (.int p4), .val (.int p5), .val (.long req), .second, .val (.long err), .second, .val (.long sock), .second, .val (.double d7), .second, .unset, .unset] [(.double d7), (.long req), (.ref b8), (.ref b8)]))
        refine Go.of (fun t k => XS.lload X8.here hx rfl (hb hby at_63) rfl k) ?_
        show Go _ _ _ _ _ _ _ (T8.setTop (mkF m 65 #[.val (.long q1), .second, .val (.long q2), .second, .val (.long q3), .second, .val (.int p4), .val (.int p5), .val (.long req), .second, .val (.long err), .second, .val (.long sock), .second, .val (.double d7), .second, .unset, .unset] [(.long err), (.double d7), (.long req), (.ref b8), (.ref b8)]))
        refine Go.of (fun t k => XS.lload X8.here hx rfl (hb hby at_65) rfl k) ?_
        show Go _ _ _ _ _ _ _ (T8.setTop (mkF m 67 #[.val (.long q1), .second, .val (.long q2), .second, .val (.long q3), .second, .val (.int p4), .val (.int p5), .val (.long req), .second, .val (.long err), .second, .val (.long sock), .second, .val (.double d7), .second, .unset, .unset] [(.long sock), (.long err), (.double d7), (.long req), (.ref b8), (.ref b8)]))
        obtain ⟨_, _, ⟨T10, L10, k10, n10⟩, -, X10, ⟨Lc10, hQ10, l10, y10, z10⟩, st10⟩ := X8.specialBack hx (y := (⟨"com/example/conneg/conneg/bench/Wrk$Report", "<init>", "(JDJJ)V"⟩ : MethodName)) rfl hown (mvT hZ (hw _ (List.mem_of_getElem? (i := 4) rfl))) (mvT hZ (hw _ (List.mem_of_getElem? (i := 5) rfl))) (mvT hZ (hw _ (List.mem_of_getElem? (i := 6) rfl))) (by decide) (backOf (W := 1) (rm1 l Z a0 hw [] b8 req d7 err sock h8 n0 (by omega) A8 (by omega) F8_requests F8_requestsPerSecond F8_errorAnswers F8_socketErrors) hZ (hw _ (List.mem_of_getElem? (i := 6) rfl)) (hw _ (List.mem_of_getElem? (i := 3) rfl)) (by decide) (by decide)) (g := (mkF m 67 #[.val (.long q1), .second, .val (.long q2), .second, .val (.long q3), .second, .val (.int p4), .val (.int p5), .val (.long req), .second, .val (.long err), .second, .val (.long sock), .second, .val (.double d7), .second, .unset, .unset] [(.long sock), (.long err), (.double d7), (.long req), (.ref b8), (.ref b8)])) rfl (by rw [hml]; rfl) (Steps.refl _) (a := b8) (argsL := [(.long req), (.double d7), (.long err), (.long sock)]) (rest := [(.ref b8)]) (lenOf pd_1 rfl) rfl (by show 2 * 0 + _ ≤ _; exact Nat.le_of_eq rfl) (hb hby at_67) (fun _ _ => ⟨rfl, e8, (by decide : 1 + 0 ≤ _), (by decide : 4 + 0 ≤ _)⟩)
        dsimp only [Pt.U, Pt.locs, Pt.cells, Pt.slots] at X10 l10 y10 z10 st10 hQ10
        subst l10 y10 z10
        obtain ⟨rfl, N10q, K10, Ex10, Fa10, Fb10, Fc10⟩ := hQ10
        have N10 := Fr.app N0 N10q
        refine Go.tr st10 ?_
        have hs11 : h8.size ≤ T10.heap.size := K10.1
        show Go _ _ _ _ _ _ _ (T10.setTop (mkF m 70 #[.val (.long q1), .second, .val (.long q2), .second, .val (.long q3), .second, .val (.int p4), .val (.int p5), .val (.long req), .second, .val (.long err), .second, .val (.long sock), .second, .val (.double d7), .second, .unset, .unset] [(.ref b8)]))
        refine Go.of (fun t k => XS.astore X10.here hx rfl (hb hby at_70) rfl rfl (l' := #[.val (.long q1), .second, .val (.long q2), .second, .val (.long q3), .second, .val (.int p4), .val (.int p5), .val (.long req), .second, .val (.long err), .second, .val (.long sock), .second, .val (.double d7), .second, .val (.ref b8), .unset]) rfl k) ?_
        show Go _ _ _ _ _ _ _ (T10.setTop (mkF m 72 #[.val (.long q1), .second, .val (.long q2), .second, .val (.long q3), .second, .val (.int p4), .val (.int p5), .val (.long req), .second, .val (.long err), .second, .val (.long sock), .second, .val (.double d7), .second, .val (.ref b8), .unset] []))
        refine Go.of (fun t k => XS.lload X10.here hx rfl (hb hby at_72) rfl k) ?_
        show Go _ _ _ _ _ _ _ (T10.setTop (mkF m 74 #[.val (.long q1), .second, .val (.long q2), .second, .val (.long q3), .second, .val (.int p4), .val (.int p5), .val (.long req), .second, .val (.long err), .second, .val (.long sock), .second, .val (.double d7), .second, .val (.ref b8), .unset] [(.long req)]))
        refine Go.of (fun t k => XS.lconst X10.here hx rfl (hb hby at_74) k) ?_
        show Go _ _ _ _ _ _ _ (T10.setTop (mkF m 75 #[.val (.long q1), .second, .val (.long q2), .second, .val (.long q3), .second, .val (.int p4), .val (.int p5), .val (.long req), .second, .val (.long err), .second, .val (.long sock), .second, .val (.double d7), .second, .val (.ref b8), .unset] [(.long (1 : Int64)), (.long req)]))
        refine Go.of (fun t k => XS.lcmp X10.here hx rfl (hb hby at_75) rfl k) ?_
        show Go _ _ _ _ _ _ _ (T10.setTop (mkF m 76 #[.val (.long q1), .second, .val (.long q2), .second, .val (.long q3), .second, .val (.int p4), .val (.int p5), .val (.long req), .second, .val (.long err), .second, .val (.long sock), .second, .val (.double d7), .second, .val (.ref b8), .unset] [(.int (lcmpW req (1 : Int64)))]))
        by_cases hc76_12 : (lcmpW req (1 : Int64)) < (0 : Int32)
        · skip
          refine Go.of (fun t k => XS.ifNo X10.here hx rfl (hb hby at_76) rfl ((if0 _ _).trans (tlt hc76_12).2.1) k) ?_
          show Go _ _ _ _ _ _ _ (T10.setTop (mkF m 79 #[.val (.long q1), .second, .val (.long q2), .second, .val (.long q3), .second, .val (.int p4), .val (.int p5), .val (.long req), .second, .val (.long err), .second, .val (.long sock), .second, .val (.double d7), .second, .val (.ref b8), .unset] []))
          refine Go.of (fun t k => XS.iconst X10.here hx rfl (hb hby at_79) k) ?_
          show Go _ _ _ _ _ _ _ (T10.setTop (mkF m 80 #[.val (.long q1), .second, .val (.long q2), .second, .val (.long q3), .second, .val (.int p4), .val (.int p5), .val (.long req), .second, .val (.long err), .second, .val (.long sock), .second, .val (.double d7), .second, .val (.ref b8), .unset] [(.int (0 : Int32))]))
          refine Go.of (fun t k => XS.istore X10.here hx rfl (hb hby at_80) rfl (l' := #[.val (.long q1), .second, .val (.long q2), .second, .val (.long q3), .second, .val (.int p4), .val (.int p5), .val (.long req), .second, .val (.long err), .second, .val (.long sock), .second, .val (.double d7), .second, .val (.ref b8), .val (.int (0 : Int32))]) rfl k) ?_
          show Go _ _ _ _ _ _ _ (T10.setTop (mkF m 82 #[.val (.long q1), .second, .val (.long q2), .second, .val (.long q3), .second, .val (.int p4), .val (.int p5), .val (.long req), .second, .val (.long err), .second, .val (.long sock), .second, .val (.double d7), .second, .val (.ref b8), .val (.int (0 : Int32))] []))
          refine Go.of (fun t k => XS.goto X10.here hx rfl (pc0 := 82) (pc' := 114) rfl (hb hby at_82) (by decide) (by decide) k) ?_
          show Go _ _ _ _ _ _ _ (T10.setTop (mkF m 114 #[.val (.long q1), .second, .val (.long q2), .second, .val (.long q3), .second, .val (.int p4), .val (.int p5), .val (.long req), .second, .val (.long err), .second, .val (.long sock), .second, .val (.double d7), .second, .val (.ref b8), .val (.int (0 : Int32))] []))
          refine Go.of (fun t k => XS.aload X10.here hx rfl (hb hby at_114) rfl rfl k) ?_
          show Go _ _ _ _ _ _ _ (T10.setTop (mkF m 116 #[.val (.long q1), .second, .val (.long q2), .second, .val (.long q3), .second, .val (.int p4), .val (.int p5), .val (.long req), .second, .val (.long err), .second, .val (.long sock), .second, .val (.double d7), .second, .val (.ref b8), .val (.int (0 : Int32))] [(.ref b8)]))
          obtain ⟨cq13, kq13, q13a, q13b, q13c⟩ := isOf hZ rfl Ex10
          obtain ⟨_, _, ⟨T13, L13, k13, n13⟩, -, X13, ⟨Lc13, hQ13, l13, y13, z13⟩, st13⟩ := X10.virtualBack hx (y := (⟨"com/example/conneg/conneg/bench/Wrk$Report", "isClean", "()Z"⟩ : MethodName)) (z := (⟨"com/example/conneg/conneg/bench/Wrk$Report", "isClean", "()Z"⟩ : MethodName)) hown (mvT hZ (hw _ (List.mem_of_getElem? (i := 23) rfl))) (mvT hZ (hw _ (List.mem_of_getElem? (i := 24) rfl))) (notFace_of_selects (args := #[]) (mvT hZ (hw _ (List.mem_of_getElem? (i := 26) rfl)))) (mvT hZ (hw _ (List.mem_of_getElem? (i := 26) rfl))) (mvT hZ (hw _ (List.mem_of_getElem? (i := 25) rfl))) (by decide) (backOf (W := 0) (rm4 l Z a0 hw [] b8 req err sock T10.heap n0 (by omega) Fa10 Fb10 Fc10) hZ (hw _ (List.mem_of_getElem? (i := 27) rfl)) (hw _ (List.mem_of_getElem? (i := 3) rfl)) (by decide) (by decide)) q13a q13c (g := (mkF m 116 #[.val (.long q1), .second, .val (.long q2), .second, .val (.long q3), .second, .val (.int p4), .val (.int p5), .val (.long req), .second, .val (.long err), .second, .val (.long sock), .second, .val (.double d7), .second, .val (.ref b8), .val (.int (0 : Int32))] [(.ref b8)])) rfl (by rw [hml]; rfl) (Steps.refl _) (argsL := []) (rest := []) (lenOf pd_2 rfl) rfl (by show 2 * 0 + _ ≤ _; exact Nat.le_of_eq rfl) (hb hby at_116) (fun _ _ => ⟨rfl, rfl, (by decide : 1 + 0 ≤ _), (by decide : 4 + 0 ≤ _)⟩)
          dsimp only [Pt.U, Pt.locs, Pt.cells, Pt.slots] at X13 l13 y13 z13 st13 hQ13
          subst l13 y13 z13
          obtain ⟨rfl, N13q, e13⟩ := hQ13
          have N13 := Fr.app N10 N13q
          refine Go.tr st13 ?_
          show Go _ _ _ _ _ _ _ (T13.setTop (mkF m 119 #[.val (.long q1), .second, .val (.long q2), .second, .val (.long q3), .second, .val (.int p4), .val (.int p5), .val (.long req), .second, .val (.long err), .second, .val (.long sock), .second, .val (.double d7), .second, .val (.ref b8), .val (.int (0 : Int32))] [(.int (if 0 < req ∧ err = 0 ∧ sock = 0 then (1 : Int32) else 0))]))
          refine Go.of (fun t k => XS.iload X13.here hx rfl (hb hby at_119) rfl k) ?_
          show Go _ _ _ _ _ _ _ (T13.setTop (mkF m 121 #[.val (.long q1), .second, .val (.long q2), .second, .val (.long q3), .second, .val (.int p4), .val (.int p5), .val (.long req), .second, .val (.long err), .second, .val (.long sock), .second, .val (.double d7), .second, .val (.ref b8), .val (.int (0 : Int32))] [(.int (0 : Int32)), (.int (if 0 < req ∧ err = 0 ∧ sock = 0 then (1 : Int32) else 0))]))
          have hc121 : (if 0 < req ∧ err = 0 ∧ sock = 0 then (1 : Int32) else 0) = (0 : Int32) := if_neg fun q => own_ltn ((lw_lt _ _).mp hc76_12) q.1
          refine Go.of (fun t k => XS.icmpNo X13.here hx rfl (hb hby at_121) rfl (teq hc121).2 k) ?_
          show Go _ _ _ _ _ _ _ (T13.setTop (mkF m 124 #[.val (.long q1), .second, .val (.long q2), .second, .val (.long q3), .second, .val (.int p4), .val (.int p5), .val (.long req), .second, .val (.long err), .second, .val (.long sock), .second, .val (.double d7), .second, .val (.ref b8), .val (.int (0 : Int32))] []))
          refine Go.of (fun t k => XS.iconst X13.here hx rfl (hb hby at_124) k) ?_
          show Go _ _ _ _ _ _ _ (T13.setTop (mkF m 125 #[.val (.long q1), .second, .val (.long q2), .second, .val (.long q3), .second, .val (.int p4), .val (.int p5), .val (.long req), .second, .val (.long err), .second, .val (.long sock), .second, .val (.double d7), .second, .val (.ref b8), .val (.int (0 : Int32))] [(.int (1 : Int32))]))
          refine Go.of (fun t k => XS.goto X13.here hx rfl (pc0 := 125) (pc' := 129) rfl (hb hby at_125) (by decide) (by decide) k) ?_
          show Go _ _ _ _ _ _ _ (T13.setTop (mkF m 129 #[.val (.long q1), .second, .val (.long q2), .second, .val (.long q3), .second, .val (.int p4), .val (.int p5), .val (.long req), .second, .val (.long err), .second, .val (.long sock), .second, .val (.double d7), .second, .val (.ref b8), .val (.int (0 : Int32))] [(.int (1 : Int32))]))
          refine Go.out X13 (v := some (.int (1 : Int32))) (fun h => by rw [Bd.returns] at h; cases h) hlk (fun fs hr => retN X13 hx (t := .boolean) Bd.returns (by simp) (hb hby at_129) hr) ?_ (by decide) (by decide)
          show Q0 Z q1 q2 q3 p4 p5 h0 n0 _ T13.heap _
          rw [e13]
          exact ⟨rfl, N13⟩
        · skip
          refine Go.of (fun t k => XS.ifYes X10.here hx rfl (pc0 := 76) (pc' := 85) rfl (hb hby at_76) rfl ((if0 _ _).trans (flt hc76_12).2.1) (by decide) (by decide) k) ?_
          show Go _ _ _ _ _ _ _ (T10.setTop (mkF m 85 #[.val (.long q1), .second, .val (.long q2), .second, .val (.long q3), .second, .val (.int p4), .val (.int p5), .val (.long req), .second, .val (.long err), .second, .val (.long sock), .second, .val (.double d7), .second, .val (.ref b8), .unset] []))
          refine Go.of (fun t k => XS.lload X10.here hx rfl (hb hby at_85) rfl k) ?_
          show Go _ _ _ _ _ _ _ (T10.setTop (mkF m 87 #[.val (.long q1), .second, .val (.long q2), .second, .val (.long q3), .second, .val (.int p4), .val (.int p5), .val (.long req), .second, .val (.long err), .second, .val (.long sock), .second, .val (.double d7), .second, .val (.ref b8), .unset] [(.long err)]))
          refine Go.of (fun t k => XS.lconst X10.here hx rfl (hb hby at_87) k) ?_
          show Go _ _ _ _ _ _ _ (T10.setTop (mkF m 88 #[.val (.long q1), .second, .val (.long q2), .second, .val (.long q3), .second, .val (.int p4), .val (.int p5), .val (.long req), .second, .val (.long err), .second, .val (.long sock), .second, .val (.double d7), .second, .val (.ref b8), .unset] [(.long (0 : Int64)), (.long err)]))
          refine Go.of (fun t k => XS.lcmp X10.here hx rfl (hb hby at_88) rfl k) ?_
          show Go _ _ _ _ _ _ _ (T10.setTop (mkF m 89 #[.val (.long q1), .second, .val (.long q2), .second, .val (.long q3), .second, .val (.int p4), .val (.int p5), .val (.long req), .second, .val (.long err), .second, .val (.long sock), .second, .val (.double d7), .second, .val (.ref b8), .unset] [(.int (lcmpW err (0 : Int64)))]))
          by_cases hc89_14 : (lcmpW err (0 : Int64)) = (0 : Int32)
          · skip
            refine Go.of (fun t k => XS.ifYes X10.here hx rfl (pc0 := 89) (pc' := 98) rfl (hb hby at_89) rfl ((if0 _ _).trans (teq hc89_14).1) (by decide) (by decide) k) ?_
            show Go _ _ _ _ _ _ _ (T10.setTop (mkF m 98 #[.val (.long q1), .second, .val (.long q2), .second, .val (.long q3), .second, .val (.int p4), .val (.int p5), .val (.long req), .second, .val (.long err), .second, .val (.long sock), .second, .val (.double d7), .second, .val (.ref b8), .unset] []))
            refine Go.of (fun t k => XS.lload X10.here hx rfl (hb hby at_98) rfl k) ?_
            show Go _ _ _ _ _ _ _ (T10.setTop (mkF m 100 #[.val (.long q1), .second, .val (.long q2), .second, .val (.long q3), .second, .val (.int p4), .val (.int p5), .val (.long req), .second, .val (.long err), .second, .val (.long sock), .second, .val (.double d7), .second, .val (.ref b8), .unset] [(.long sock)]))
            refine Go.of (fun t k => XS.lconst X10.here hx rfl (hb hby at_100) k) ?_
            show Go _ _ _ _ _ _ _ (T10.setTop (mkF m 101 #[.val (.long q1), .second, .val (.long q2), .second, .val (.long q3), .second, .val (.int p4), .val (.int p5), .val (.long req), .second, .val (.long err), .second, .val (.long sock), .second, .val (.double d7), .second, .val (.ref b8), .unset] [(.long (0 : Int64)), (.long sock)]))
            refine Go.of (fun t k => XS.lcmp X10.here hx rfl (hb hby at_101) rfl k) ?_
            show Go _ _ _ _ _ _ _ (T10.setTop (mkF m 102 #[.val (.long q1), .second, .val (.long q2), .second, .val (.long q3), .second, .val (.int p4), .val (.int p5), .val (.long req), .second, .val (.long err), .second, .val (.long sock), .second, .val (.double d7), .second, .val (.ref b8), .unset] [(.int (lcmpW sock (0 : Int64)))]))
            by_cases hc102_15 : (lcmpW sock (0 : Int64)) = (0 : Int32)
            · skip
              refine Go.of (fun t k => XS.ifYes X10.here hx rfl (pc0 := 102) (pc' := 111) rfl (hb hby at_102) rfl ((if0 _ _).trans (teq hc102_15).1) (by decide) (by decide) k) ?_
              show Go _ _ _ _ _ _ _ (T10.setTop (mkF m 111 #[.val (.long q1), .second, .val (.long q2), .second, .val (.long q3), .second, .val (.int p4), .val (.int p5), .val (.long req), .second, .val (.long err), .second, .val (.long sock), .second, .val (.double d7), .second, .val (.ref b8), .unset] []))
              refine Go.of (fun t k => XS.iconst X10.here hx rfl (hb hby at_111) k) ?_
              show Go _ _ _ _ _ _ _ (T10.setTop (mkF m 112 #[.val (.long q1), .second, .val (.long q2), .second, .val (.long q3), .second, .val (.int p4), .val (.int p5), .val (.long req), .second, .val (.long err), .second, .val (.long sock), .second, .val (.double d7), .second, .val (.ref b8), .unset] [(.int (1 : Int32))]))
              refine Go.of (fun t k => XS.istore X10.here hx rfl (hb hby at_112) rfl (l' := #[.val (.long q1), .second, .val (.long q2), .second, .val (.long q3), .second, .val (.int p4), .val (.int p5), .val (.long req), .second, .val (.long err), .second, .val (.long sock), .second, .val (.double d7), .second, .val (.ref b8), .val (.int (1 : Int32))]) rfl k) ?_
              show Go _ _ _ _ _ _ _ (T10.setTop (mkF m 114 #[.val (.long q1), .second, .val (.long q2), .second, .val (.long q3), .second, .val (.int p4), .val (.int p5), .val (.long req), .second, .val (.long err), .second, .val (.long sock), .second, .val (.double d7), .second, .val (.ref b8), .val (.int (1 : Int32))] []))
              refine Go.of (fun t k => XS.aload X10.here hx rfl (hb hby at_114) rfl rfl k) ?_
              show Go _ _ _ _ _ _ _ (T10.setTop (mkF m 116 #[.val (.long q1), .second, .val (.long q2), .second, .val (.long q3), .second, .val (.int p4), .val (.int p5), .val (.long req), .second, .val (.long err), .second, .val (.long sock), .second, .val (.double d7), .second, .val (.ref b8), .val (.int (1 : Int32))] [(.ref b8)]))
              obtain ⟨cq16, kq16, q16a, q16b, q16c⟩ := isOf hZ rfl Ex10
              obtain ⟨_, _, ⟨T16, L16, k16, n16⟩, -, X16, ⟨Lc16, hQ16, l16, y16, z16⟩, st16⟩ := X10.virtualBack hx (y := (⟨"com/example/conneg/conneg/bench/Wrk$Report", "isClean", "()Z"⟩ : MethodName)) (z := (⟨"com/example/conneg/conneg/bench/Wrk$Report", "isClean", "()Z"⟩ : MethodName)) hown (mvT hZ (hw _ (List.mem_of_getElem? (i := 23) rfl))) (mvT hZ (hw _ (List.mem_of_getElem? (i := 24) rfl))) (notFace_of_selects (args := #[]) (mvT hZ (hw _ (List.mem_of_getElem? (i := 26) rfl)))) (mvT hZ (hw _ (List.mem_of_getElem? (i := 26) rfl))) (mvT hZ (hw _ (List.mem_of_getElem? (i := 25) rfl))) (by decide) (backOf (W := 0) (rm4 l Z a0 hw [] b8 req err sock T10.heap n0 (by omega) Fa10 Fb10 Fc10) hZ (hw _ (List.mem_of_getElem? (i := 27) rfl)) (hw _ (List.mem_of_getElem? (i := 3) rfl)) (by decide) (by decide)) q16a q16c (g := (mkF m 116 #[.val (.long q1), .second, .val (.long q2), .second, .val (.long q3), .second, .val (.int p4), .val (.int p5), .val (.long req), .second, .val (.long err), .second, .val (.long sock), .second, .val (.double d7), .second, .val (.ref b8), .val (.int (1 : Int32))] [(.ref b8)])) rfl (by rw [hml]; rfl) (Steps.refl _) (argsL := []) (rest := []) (lenOf pd_2 rfl) rfl (by show 2 * 0 + _ ≤ _; exact Nat.le_of_eq rfl) (hb hby at_116) (fun _ _ => ⟨rfl, rfl, (by decide : 1 + 0 ≤ _), (by decide : 4 + 0 ≤ _)⟩)
              dsimp only [Pt.U, Pt.locs, Pt.cells, Pt.slots] at X16 l16 y16 z16 st16 hQ16
              subst l16 y16 z16
              obtain ⟨rfl, N16q, e16⟩ := hQ16
              have N16 := Fr.app N10 N16q
              refine Go.tr st16 ?_
              show Go _ _ _ _ _ _ _ (T16.setTop (mkF m 119 #[.val (.long q1), .second, .val (.long q2), .second, .val (.long q3), .second, .val (.int p4), .val (.int p5), .val (.long req), .second, .val (.long err), .second, .val (.long sock), .second, .val (.double d7), .second, .val (.ref b8), .val (.int (1 : Int32))] [(.int (if 0 < req ∧ err = 0 ∧ sock = 0 then (1 : Int32) else 0))]))
              refine Go.of (fun t k => XS.iload X16.here hx rfl (hb hby at_119) rfl k) ?_
              show Go _ _ _ _ _ _ _ (T16.setTop (mkF m 121 #[.val (.long q1), .second, .val (.long q2), .second, .val (.long q3), .second, .val (.int p4), .val (.int p5), .val (.long req), .second, .val (.long err), .second, .val (.long sock), .second, .val (.double d7), .second, .val (.ref b8), .val (.int (1 : Int32))] [(.int (1 : Int32)), (.int (if 0 < req ∧ err = 0 ∧ sock = 0 then (1 : Int32) else 0))]))
              have hc121 : (if 0 < req ∧ err = 0 ∧ sock = 0 then (1 : Int32) else 0) = (1 : Int32) := if_pos ⟨own_ltp (mt (lw_lt _ _).mpr hc76_12), ((lw_eq _ _).mp hc89_14), ((lw_eq _ _).mp hc102_15)⟩
              refine Go.of (fun t k => XS.icmpNo X16.here hx rfl (hb hby at_121) rfl (teq hc121).2 k) ?_
              show Go _ _ _ _ _ _ _ (T16.setTop (mkF m 124 #[.val (.long q1), .second, .val (.long q2), .second, .val (.long q3), .second, .val (.int p4), .val (.int p5), .val (.long req), .second, .val (.long err), .second, .val (.long sock), .second, .val (.double d7), .second, .val (.ref b8), .val (.int (1 : Int32))] []))
              refine Go.of (fun t k => XS.iconst X16.here hx rfl (hb hby at_124) k) ?_
              show Go _ _ _ _ _ _ _ (T16.setTop (mkF m 125 #[.val (.long q1), .second, .val (.long q2), .second, .val (.long q3), .second, .val (.int p4), .val (.int p5), .val (.long req), .second, .val (.long err), .second, .val (.long sock), .second, .val (.double d7), .second, .val (.ref b8), .val (.int (1 : Int32))] [(.int (1 : Int32))]))
              refine Go.of (fun t k => XS.goto X16.here hx rfl (pc0 := 125) (pc' := 129) rfl (hb hby at_125) (by decide) (by decide) k) ?_
              show Go _ _ _ _ _ _ _ (T16.setTop (mkF m 129 #[.val (.long q1), .second, .val (.long q2), .second, .val (.long q3), .second, .val (.int p4), .val (.int p5), .val (.long req), .second, .val (.long err), .second, .val (.long sock), .second, .val (.double d7), .second, .val (.ref b8), .val (.int (1 : Int32))] [(.int (1 : Int32))]))
              refine Go.out X16 (v := some (.int (1 : Int32))) (fun h => by rw [Bd.returns] at h; cases h) hlk (fun fs hr => retN X16 hx (t := .boolean) Bd.returns (by simp) (hb hby at_129) hr) ?_ (by decide) (by decide)
              show Q0 Z q1 q2 q3 p4 p5 h0 n0 _ T16.heap _
              rw [e16]
              exact ⟨rfl, N16⟩
            · skip
              refine Go.of (fun t k => XS.ifNo X10.here hx rfl (hb hby at_102) rfl ((if0 _ _).trans (feq hc102_15).1) k) ?_
              show Go _ _ _ _ _ _ _ (T10.setTop (mkF m 105 #[.val (.long q1), .second, .val (.long q2), .second, .val (.long q3), .second, .val (.int p4), .val (.int p5), .val (.long req), .second, .val (.long err), .second, .val (.long sock), .second, .val (.double d7), .second, .val (.ref b8), .unset] []))
              refine Go.of (fun t k => XS.iconst X10.here hx rfl (hb hby at_105) k) ?_
              show Go _ _ _ _ _ _ _ (T10.setTop (mkF m 106 #[.val (.long q1), .second, .val (.long q2), .second, .val (.long q3), .second, .val (.int p4), .val (.int p5), .val (.long req), .second, .val (.long err), .second, .val (.long sock), .second, .val (.double d7), .second, .val (.ref b8), .unset] [(.int (0 : Int32))]))
              refine Go.of (fun t k => XS.istore X10.here hx rfl (hb hby at_106) rfl (l' := #[.val (.long q1), .second, .val (.long q2), .second, .val (.long q3), .second, .val (.int p4), .val (.int p5), .val (.long req), .second, .val (.long err), .second, .val (.long sock), .second, .val (.double d7), .second, .val (.ref b8), .val (.int (0 : Int32))]) rfl k) ?_
              show Go _ _ _ _ _ _ _ (T10.setTop (mkF m 108 #[.val (.long q1), .second, .val (.long q2), .second, .val (.long q3), .second, .val (.int p4), .val (.int p5), .val (.long req), .second, .val (.long err), .second, .val (.long sock), .second, .val (.double d7), .second, .val (.ref b8), .val (.int (0 : Int32))] []))
              refine Go.of (fun t k => XS.goto X10.here hx rfl (pc0 := 108) (pc' := 114) rfl (hb hby at_108) (by decide) (by decide) k) ?_
              show Go _ _ _ _ _ _ _ (T10.setTop (mkF m 114 #[.val (.long q1), .second, .val (.long q2), .second, .val (.long q3), .second, .val (.int p4), .val (.int p5), .val (.long req), .second, .val (.long err), .second, .val (.long sock), .second, .val (.double d7), .second, .val (.ref b8), .val (.int (0 : Int32))] []))
              refine Go.of (fun t k => XS.aload X10.here hx rfl (hb hby at_114) rfl rfl k) ?_
              show Go _ _ _ _ _ _ _ (T10.setTop (mkF m 116 #[.val (.long q1), .second, .val (.long q2), .second, .val (.long q3), .second, .val (.int p4), .val (.int p5), .val (.long req), .second, .val (.long err), .second, .val (.long sock), .second, .val (.double d7), .second, .val (.ref b8), .val (.int (0 : Int32))] [(.ref b8)]))
              obtain ⟨cq17, kq17, q17a, q17b, q17c⟩ := isOf hZ rfl Ex10
              obtain ⟨_, _, ⟨T17, L17, k17, n17⟩, -, X17, ⟨Lc17, hQ17, l17, y17, z17⟩, st17⟩ := X10.virtualBack hx (y := (⟨"com/example/conneg/conneg/bench/Wrk$Report", "isClean", "()Z"⟩ : MethodName)) (z := (⟨"com/example/conneg/conneg/bench/Wrk$Report", "isClean", "()Z"⟩ : MethodName)) hown (mvT hZ (hw _ (List.mem_of_getElem? (i := 23) rfl))) (mvT hZ (hw _ (List.mem_of_getElem? (i := 24) rfl))) (notFace_of_selects (args := #[]) (mvT hZ (hw _ (List.mem_of_getElem? (i := 26) rfl)))) (mvT hZ (hw _ (List.mem_of_getElem? (i := 26) rfl))) (mvT hZ (hw _ (List.mem_of_getElem? (i := 25) rfl))) (by decide) (backOf (W := 0) (rm4 l Z a0 hw [] b8 req err sock T10.heap n0 (by omega) Fa10 Fb10 Fc10) hZ (hw _ (List.mem_of_getElem? (i := 27) rfl)) (hw _ (List.mem_of_getElem? (i := 3) rfl)) (by decide) (by decide)) q17a q17c (g := (mkF m 116 #[.val (.long q1), .second, .val (.long q2), .second, .val (.long q3), .second, .val (.int p4), .val (.int p5), .val (.long req), .second, .val (.long err), .second, .val (.long sock), .second, .val (.double d7), .second, .val (.ref b8), .val (.int (0 : Int32))] [(.ref b8)])) rfl (by rw [hml]; rfl) (Steps.refl _) (argsL := []) (rest := []) (lenOf pd_2 rfl) rfl (by show 2 * 0 + _ ≤ _; exact Nat.le_of_eq rfl) (hb hby at_116) (fun _ _ => ⟨rfl, rfl, (by decide : 1 + 0 ≤ _), (by decide : 4 + 0 ≤ _)⟩)
              dsimp only [Pt.U, Pt.locs, Pt.cells, Pt.slots] at X17 l17 y17 z17 st17 hQ17
              subst l17 y17 z17
              obtain ⟨rfl, N17q, e17⟩ := hQ17
              have N17 := Fr.app N10 N17q
              refine Go.tr st17 ?_
              show Go _ _ _ _ _ _ _ (T17.setTop (mkF m 119 #[.val (.long q1), .second, .val (.long q2), .second, .val (.long q3), .second, .val (.int p4), .val (.int p5), .val (.long req), .second, .val (.long err), .second, .val (.long sock), .second, .val (.double d7), .second, .val (.ref b8), .val (.int (0 : Int32))] [(.int (if 0 < req ∧ err = 0 ∧ sock = 0 then (1 : Int32) else 0))]))
              refine Go.of (fun t k => XS.iload X17.here hx rfl (hb hby at_119) rfl k) ?_
              show Go _ _ _ _ _ _ _ (T17.setTop (mkF m 121 #[.val (.long q1), .second, .val (.long q2), .second, .val (.long q3), .second, .val (.int p4), .val (.int p5), .val (.long req), .second, .val (.long err), .second, .val (.long sock), .second, .val (.double d7), .second, .val (.ref b8), .val (.int (0 : Int32))] [(.int (0 : Int32)), (.int (if 0 < req ∧ err = 0 ∧ sock = 0 then (1 : Int32) else 0))]))
              have hc121 : (if 0 < req ∧ err = 0 ∧ sock = 0 then (1 : Int32) else 0) = (0 : Int32) := if_neg fun q => (mt (lw_eq _ _).mpr hc102_15) q.2.2
              refine Go.of (fun t k => XS.icmpNo X17.here hx rfl (hb hby at_121) rfl (teq hc121).2 k) ?_
              show Go _ _ _ _ _ _ _ (T17.setTop (mkF m 124 #[.val (.long q1), .second, .val (.long q2), .second, .val (.long q3), .second, .val (.int p4), .val (.int p5), .val (.long req), .second, .val (.long err), .second, .val (.long sock), .second, .val (.double d7), .second, .val (.ref b8), .val (.int (0 : Int32))] []))
              refine Go.of (fun t k => XS.iconst X17.here hx rfl (hb hby at_124) k) ?_
              show Go _ _ _ _ _ _ _ (T17.setTop (mkF m 125 #[.val (.long q1), .second, .val (.long q2), .second, .val (.long q3), .second, .val (.int p4), .val (.int p5), .val (.long req), .second, .val (.long err), .second, .val (.long sock), .second, .val (.double d7), .second, .val (.ref b8), .val (.int (0 : Int32))] [(.int (1 : Int32))]))
              refine Go.of (fun t k => XS.goto X17.here hx rfl (pc0 := 125) (pc' := 129) rfl (hb hby at_125) (by decide) (by decide) k) ?_
              show Go _ _ _ _ _ _ _ (T17.setTop (mkF m 129 #[.val (.long q1), .second, .val (.long q2), .second, .val (.long q3), .second, .val (.int p4), .val (.int p5), .val (.long req), .second, .val (.long err), .second, .val (.long sock), .second, .val (.double d7), .second, .val (.ref b8), .val (.int (0 : Int32))] [(.int (1 : Int32))]))
              refine Go.out X17 (v := some (.int (1 : Int32))) (fun h => by rw [Bd.returns] at h; cases h) hlk (fun fs hr => retN X17 hx (t := .boolean) Bd.returns (by simp) (hb hby at_129) hr) ?_ (by decide) (by decide)
              show Q0 Z q1 q2 q3 p4 p5 h0 n0 _ T17.heap _
              rw [e17]
              exact ⟨rfl, N17⟩
          · skip
            refine Go.of (fun t k => XS.ifNo X10.here hx rfl (hb hby at_89) rfl ((if0 _ _).trans (feq hc89_14).1) k) ?_
            show Go _ _ _ _ _ _ _ (T10.setTop (mkF m 92 #[.val (.long q1), .second, .val (.long q2), .second, .val (.long q3), .second, .val (.int p4), .val (.int p5), .val (.long req), .second, .val (.long err), .second, .val (.long sock), .second, .val (.double d7), .second, .val (.ref b8), .unset] []))
            refine Go.of (fun t k => XS.iconst X10.here hx rfl (hb hby at_92) k) ?_
            show Go _ _ _ _ _ _ _ (T10.setTop (mkF m 93 #[.val (.long q1), .second, .val (.long q2), .second, .val (.long q3), .second, .val (.int p4), .val (.int p5), .val (.long req), .second, .val (.long err), .second, .val (.long sock), .second, .val (.double d7), .second, .val (.ref b8), .unset] [(.int (0 : Int32))]))
            refine Go.of (fun t k => XS.istore X10.here hx rfl (hb hby at_93) rfl (l' := #[.val (.long q1), .second, .val (.long q2), .second, .val (.long q3), .second, .val (.int p4), .val (.int p5), .val (.long req), .second, .val (.long err), .second, .val (.long sock), .second, .val (.double d7), .second, .val (.ref b8), .val (.int (0 : Int32))]) rfl k) ?_
            show Go _ _ _ _ _ _ _ (T10.setTop (mkF m 95 #[.val (.long q1), .second, .val (.long q2), .second, .val (.long q3), .second, .val (.int p4), .val (.int p5), .val (.long req), .second, .val (.long err), .second, .val (.long sock), .second, .val (.double d7), .second, .val (.ref b8), .val (.int (0 : Int32))] []))
            refine Go.of (fun t k => XS.goto X10.here hx rfl (pc0 := 95) (pc' := 114) rfl (hb hby at_95) (by decide) (by decide) k) ?_
            show Go _ _ _ _ _ _ _ (T10.setTop (mkF m 114 #[.val (.long q1), .second, .val (.long q2), .second, .val (.long q3), .second, .val (.int p4), .val (.int p5), .val (.long req), .second, .val (.long err), .second, .val (.long sock), .second, .val (.double d7), .second, .val (.ref b8), .val (.int (0 : Int32))] []))
            refine Go.of (fun t k => XS.aload X10.here hx rfl (hb hby at_114) rfl rfl k) ?_
            show Go _ _ _ _ _ _ _ (T10.setTop (mkF m 116 #[.val (.long q1), .second, .val (.long q2), .second, .val (.long q3), .second, .val (.int p4), .val (.int p5), .val (.long req), .second, .val (.long err), .second, .val (.long sock), .second, .val (.double d7), .second, .val (.ref b8), .val (.int (0 : Int32))] [(.ref b8)]))
            obtain ⟨cq18, kq18, q18a, q18b, q18c⟩ := isOf hZ rfl Ex10
            obtain ⟨_, _, ⟨T18, L18, k18, n18⟩, -, X18, ⟨Lc18, hQ18, l18, y18, z18⟩, st18⟩ := X10.virtualBack hx (y := (⟨"com/example/conneg/conneg/bench/Wrk$Report", "isClean", "()Z"⟩ : MethodName)) (z := (⟨"com/example/conneg/conneg/bench/Wrk$Report", "isClean", "()Z"⟩ : MethodName)) hown (mvT hZ (hw _ (List.mem_of_getElem? (i := 23) rfl))) (mvT hZ (hw _ (List.mem_of_getElem? (i := 24) rfl))) (notFace_of_selects (args := #[]) (mvT hZ (hw _ (List.mem_of_getElem? (i := 26) rfl)))) (mvT hZ (hw _ (List.mem_of_getElem? (i := 26) rfl))) (mvT hZ (hw _ (List.mem_of_getElem? (i := 25) rfl))) (by decide) (backOf (W := 0) (rm4 l Z a0 hw [] b8 req err sock T10.heap n0 (by omega) Fa10 Fb10 Fc10) hZ (hw _ (List.mem_of_getElem? (i := 27) rfl)) (hw _ (List.mem_of_getElem? (i := 3) rfl)) (by decide) (by decide)) q18a q18c (g := (mkF m 116 #[.val (.long q1), .second, .val (.long q2), .second, .val (.long q3), .second, .val (.int p4), .val (.int p5), .val (.long req), .second, .val (.long err), .second, .val (.long sock), .second, .val (.double d7), .second, .val (.ref b8), .val (.int (0 : Int32))] [(.ref b8)])) rfl (by rw [hml]; rfl) (Steps.refl _) (argsL := []) (rest := []) (lenOf pd_2 rfl) rfl (by show 2 * 0 + _ ≤ _; exact Nat.le_of_eq rfl) (hb hby at_116) (fun _ _ => ⟨rfl, rfl, (by decide : 1 + 0 ≤ _), (by decide : 4 + 0 ≤ _)⟩)
            dsimp only [Pt.U, Pt.locs, Pt.cells, Pt.slots] at X18 l18 y18 z18 st18 hQ18
            subst l18 y18 z18
            obtain ⟨rfl, N18q, e18⟩ := hQ18
            have N18 := Fr.app N10 N18q
            refine Go.tr st18 ?_
            show Go _ _ _ _ _ _ _ (T18.setTop (mkF m 119 #[.val (.long q1), .second, .val (.long q2), .second, .val (.long q3), .second, .val (.int p4), .val (.int p5), .val (.long req), .second, .val (.long err), .second, .val (.long sock), .second, .val (.double d7), .second, .val (.ref b8), .val (.int (0 : Int32))] [(.int (if 0 < req ∧ err = 0 ∧ sock = 0 then (1 : Int32) else 0))]))
            refine Go.of (fun t k => XS.iload X18.here hx rfl (hb hby at_119) rfl k) ?_
            show Go _ _ _ _ _ _ _ (T18.setTop (mkF m 121 #[.val (.long q1), .second, .val (.long q2), .second, .val (.long q3), .second, .val (.int p4), .val (.int p5), .val (.long req), .second, .val (.long err), .second, .val (.long sock), .second, .val (.double d7), .second, .val (.ref b8), .val (.int (0 : Int32))] [(.int (0 : Int32)), (.int (if 0 < req ∧ err = 0 ∧ sock = 0 then (1 : Int32) else 0))]))
            have hc121 : (if 0 < req ∧ err = 0 ∧ sock = 0 then (1 : Int32) else 0) = (0 : Int32) := if_neg fun q => (mt (lw_eq _ _).mpr hc89_14) q.2.1
            refine Go.of (fun t k => XS.icmpNo X18.here hx rfl (hb hby at_121) rfl (teq hc121).2 k) ?_
            show Go _ _ _ _ _ _ _ (T18.setTop (mkF m 124 #[.val (.long q1), .second, .val (.long q2), .second, .val (.long q3), .second, .val (.int p4), .val (.int p5), .val (.long req), .second, .val (.long err), .second, .val (.long sock), .second, .val (.double d7), .second, .val (.ref b8), .val (.int (0 : Int32))] []))
            refine Go.of (fun t k => XS.iconst X18.here hx rfl (hb hby at_124) k) ?_
            show Go _ _ _ _ _ _ _ (T18.setTop (mkF m 125 #[.val (.long q1), .second, .val (.long q2), .second, .val (.long q3), .second, .val (.int p4), .val (.int p5), .val (.long req), .second, .val (.long err), .second, .val (.long sock), .second, .val (.double d7), .second, .val (.ref b8), .val (.int (0 : Int32))] [(.int (1 : Int32))]))
            refine Go.of (fun t k => XS.goto X18.here hx rfl (pc0 := 125) (pc' := 129) rfl (hb hby at_125) (by decide) (by decide) k) ?_
            show Go _ _ _ _ _ _ _ (T18.setTop (mkF m 129 #[.val (.long q1), .second, .val (.long q2), .second, .val (.long q3), .second, .val (.int p4), .val (.int p5), .val (.long req), .second, .val (.long err), .second, .val (.long sock), .second, .val (.double d7), .second, .val (.ref b8), .val (.int (0 : Int32))] [(.int (1 : Int32))]))
            refine Go.out X18 (v := some (.int (1 : Int32))) (fun h => by rw [Bd.returns] at h; cases h) hlk (fun fs hr => retN X18 hx (t := .boolean) Bd.returns (by simp) (hb hby at_129) hr) ?_ (by decide) (by decide)
            show Q0 Z q1 q2 q3 p4 p5 h0 n0 _ T18.heap _
            rw [e18]
            exact ⟨rfl, N18⟩
      by_cases hc34_5 : (p4 &&& (4 : Int32)) = (0 : Int32)
      · skip
        refine Go.of (fun t k => XS.ifYes X0.here hx rfl (pc0 := 34) (pc' := 47) rfl (hb hby at_34) rfl ((if0 _ _).trans (teq hc34_5).1) (by decide) (by decide) k) ?_
        show Go _ _ _ _ _ _ _ (s₁.setTop (mkF m 47 #[.val (.long q1), .second, .val (.long q2), .second, .val (.long q3), .second, .val (.int p4), .val (.int p5), .val (.long q1), .second, .val (.long err), .second, .val (.long sock), .second, .unset, .unset, .unset, .unset] []))
        exact k47_6 _
      · skip
        refine Go.of (fun t k => XS.ifNo X0.here hx rfl (hb hby at_34) rfl ((if0 _ _).trans (feq hc34_5).1) k) ?_
        show Go _ _ _ _ _ _ _ (s₁.setTop (mkF m 37 #[.val (.long q1), .second, .val (.long q2), .second, .val (.long q3), .second, .val (.int p4), .val (.int p5), .val (.long q1), .second, .val (.long err), .second, .val (.long sock), .second, .unset, .unset, .unset, .unset] []))
        refine Go.of (fun t k => XS.lload X0.here hx rfl (hb hby at_37) rfl k) ?_
        show Go _ _ _ _ _ _ _ (s₁.setTop (mkF m 39 #[.val (.long q1), .second, .val (.long q2), .second, .val (.long q3), .second, .val (.int p4), .val (.int p5), .val (.long q1), .second, .val (.long err), .second, .val (.long sock), .second, .unset, .unset, .unset, .unset] [(.long q1)]))
        refine Go.of (fun t k => X0.ldc2Long hx hown (mvT hZ (hw _ (List.mem_of_getElem? (i := 28) rfl))) (g := (mkF m 39 #[.val (.long q1), .second, .val (.long q2), .second, .val (.long q3), .second, .val (.int p4), .val (.int p5), .val (.long q1), .second, .val (.long err), .second, .val (.long sock), .second, .unset, .unset, .unset, .unset] [(.long q1)])) rfl (hb hby at_39) _ k) ?_
        show Go _ _ _ _ _ _ _ (s₁.setTop (mkF m 42 #[.val (.long q1), .second, .val (.long q2), .second, .val (.long q3), .second, .val (.int p4), .val (.int p5), .val (.long q1), .second, .val (.long err), .second, .val (.long sock), .second, .unset, .unset, .unset, .unset] [(.long (3 : Int64)), (.long q1)]))
        refine Go.of (fun t k => XS.land X0.here hx rfl (hb hby at_42) rfl k) ?_
        show Go _ _ _ _ _ _ _ (s₁.setTop (mkF m 43 #[.val (.long q1), .second, .val (.long q2), .second, .val (.long q3), .second, .val (.int p4), .val (.int p5), .val (.long q1), .second, .val (.long err), .second, .val (.long sock), .second, .unset, .unset, .unset, .unset] [(.long (q1 &&& (3 : Int64)))]))
        refine Go.of (fun t k => XS.lconst X0.here hx rfl (hb hby at_43) k) ?_
        show Go _ _ _ _ _ _ _ (s₁.setTop (mkF m 44 #[.val (.long q1), .second, .val (.long q2), .second, .val (.long q3), .second, .val (.int p4), .val (.int p5), .val (.long q1), .second, .val (.long err), .second, .val (.long sock), .second, .unset, .unset, .unset, .unset] [(.long (1 : Int64)), (.long (q1 &&& (3 : Int64)))]))
        refine Go.of (fun t k => XS.lsub X0.here hx rfl (hb hby at_44) rfl k) ?_
        show Go _ _ _ _ _ _ _ (s₁.setTop (mkF m 45 #[.val (.long q1), .second, .val (.long q2), .second, .val (.long q3), .second, .val (.int p4), .val (.int p5), .val (.long q1), .second, .val (.long err), .second, .val (.long sock), .second, .unset, .unset, .unset, .unset] [(.long ((q1 &&& (3 : Int64)) - (1 : Int64)))]))
        refine Go.of (fun t k => XS.lstore X0.here hx rfl (hb hby at_45) rfl (l' := #[.val (.long q1), .second, .val (.long q2), .second, .val (.long q3), .second, .val (.int p4), .val (.int p5), .val (.long ((q1 &&& (3 : Int64)) - (1 : Int64))), .second, .val (.long err), .second, .val (.long sock), .second, .unset, .unset, .unset, .unset]) rfl k) ?_
        show Go _ _ _ _ _ _ _ (s₁.setTop (mkF m 47 #[.val (.long q1), .second, .val (.long q2), .second, .val (.long q3), .second, .val (.int p4), .val (.int p5), .val (.long ((q1 &&& (3 : Int64)) - (1 : Int64))), .second, .val (.long err), .second, .val (.long sock), .second, .unset, .unset, .unset, .unset] []))
        exact k47_6 _
    by_cases hc24_3 : (p4 &&& (2 : Int32)) = (0 : Int32)
    · skip
      refine Go.of (fun t k => XS.ifYes X0.here hx rfl (pc0 := 24) (pc' := 30) rfl (hb hby at_24) rfl ((if0 _ _).trans (teq hc24_3).1) (by decide) (by decide) k) ?_
      show Go _ _ _ _ _ _ _ (s₁.setTop (mkF m 30 #[.val (.long q1), .second, .val (.long q2), .second, .val (.long q3), .second, .val (.int p4), .val (.int p5), .val (.long q1), .second, .val (.long err), .second, .val (.long q3), .second, .unset, .unset, .unset, .unset] []))
      exact k30_4 _
    · skip
      refine Go.of (fun t k => XS.ifNo X0.here hx rfl (hb hby at_24) rfl ((if0 _ _).trans (feq hc24_3).1) k) ?_
      show Go _ _ _ _ _ _ _ (s₁.setTop (mkF m 27 #[.val (.long q1), .second, .val (.long q2), .second, .val (.long q3), .second, .val (.int p4), .val (.int p5), .val (.long q1), .second, .val (.long err), .second, .val (.long q3), .second, .unset, .unset, .unset, .unset] []))
      refine Go.of (fun t k => XS.lconst X0.here hx rfl (hb hby at_27) k) ?_
      show Go _ _ _ _ _ _ _ (s₁.setTop (mkF m 28 #[.val (.long q1), .second, .val (.long q2), .second, .val (.long q3), .second, .val (.int p4), .val (.int p5), .val (.long q1), .second, .val (.long err), .second, .val (.long q3), .second, .unset, .unset, .unset, .unset] [(.long (0 : Int64))]))
      refine Go.of (fun t k => XS.lstore X0.here hx rfl (hb hby at_28) rfl (l' := #[.val (.long q1), .second, .val (.long q2), .second, .val (.long q3), .second, .val (.int p4), .val (.int p5), .val (.long q1), .second, .val (.long err), .second, .val (.long (0 : Int64)), .second, .unset, .unset, .unset, .unset]) rfl k) ?_
      show Go _ _ _ _ _ _ _ (s₁.setTop (mkF m 30 #[.val (.long q1), .second, .val (.long q2), .second, .val (.long q3), .second, .val (.int p4), .val (.int p5), .val (.long q1), .second, .val (.long err), .second, .val (.long (0 : Int64)), .second, .unset, .unset, .unset, .unset] []))
      exact k30_4 _
  by_cases hc14_1 : (p4 &&& (1 : Int32)) = (0 : Int32)
  · skip
    refine Go.of (fun t k => XS.ifYes X0.here hx rfl (pc0 := 14) (pc' := 20) rfl (hb hby at_14) rfl ((if0 _ _).trans (teq hc14_1).1) (by decide) (by decide) k) ?_
    show Go _ _ _ _ _ _ _ (s₁.setTop (mkF m 20 #[.val (.long q1), .second, .val (.long q2), .second, .val (.long q3), .second, .val (.int p4), .val (.int p5), .val (.long q1), .second, .val (.long q2), .second, .val (.long q3), .second, .unset, .unset, .unset, .unset] []))
    exact k20_2 _
  · skip
    refine Go.of (fun t k => XS.ifNo X0.here hx rfl (hb hby at_14) rfl ((if0 _ _).trans (feq hc14_1).1) k) ?_
    show Go _ _ _ _ _ _ _ (s₁.setTop (mkF m 17 #[.val (.long q1), .second, .val (.long q2), .second, .val (.long q3), .second, .val (.int p4), .val (.int p5), .val (.long q1), .second, .val (.long q2), .second, .val (.long q3), .second, .unset, .unset, .unset, .unset] []))
    refine Go.of (fun t k => XS.lconst X0.here hx rfl (hb hby at_17) k) ?_
    show Go _ _ _ _ _ _ _ (s₁.setTop (mkF m 18 #[.val (.long q1), .second, .val (.long q2), .second, .val (.long q3), .second, .val (.int p4), .val (.int p5), .val (.long q1), .second, .val (.long q2), .second, .val (.long q3), .second, .unset, .unset, .unset, .unset] [(.long (0 : Int64))]))
    refine Go.of (fun t k => XS.lstore X0.here hx rfl (hb hby at_18) rfl (l' := #[.val (.long q1), .second, .val (.long q2), .second, .val (.long q3), .second, .val (.int p4), .val (.int p5), .val (.long q1), .second, .val (.long (0 : Int64)), .second, .val (.long q3), .second, .unset, .unset, .unset, .unset]) rfl k) ?_
    show Go _ _ _ _ _ _ _ (s₁.setTop (mkF m 20 #[.val (.long q1), .second, .val (.long q2), .second, .val (.long q3), .second, .val (.int p4), .val (.int p5), .val (.long q1), .second, .val (.long (0 : Int64)), .second, .val (.long q3), .second, .unset, .unset, .unset, .unset] []))
    exact k20_2 _
set_option maxRecDepth 65536 in
set_option maxHeartbeats 40000000 in
theorem comes_1 {Post : Tables → Env → Array Value → State → Outcome → State → Prop} (hpost : ∀ tb e args s v u, (limb_1_1.after args s (.returned v) u = true ∧ limb_1_2.after args s (.returned v) u = true ∧ True) → FrameEnd s (.returned v) u (Jvm.fieldLocs frame_1_writes args s ++ Jvm.arrayLocs frame_1_arrays args s ++ Jvm.staticLocs frame_1_statics s) 16 128 → Post tb e args s (.returned v) u) :
    ArmFor flags0 classFile x code maxLocals ret World_1 tables_1 room_1 Calls_1 rest_1 Pre_1 Post := by
  intro l hfl _ _ p e ha hc hk s m args below hf hA hF happ hP
  obtain ⟨hcalls, hrest, hpre⟩ := hP
  obtain ⟨-, -, -, hnamed, -, -, -, hat⟩ := (Spec.applies_iff hf).mp happ
  obtain ⟨hg, hn⟩ := and_e (Cond.before_iff.mp (show (Jvm.Cond.and given_1 narrow_1).before args s = true from hpre))
  obtain ⟨g1a, g1b⟩ := and_e hg
  obtain ⟨g2a, g2b⟩ := and_e g1b
  obtain ⟨g3a, g3b⟩ := and_e g2b
  obtain ⟨g4a, g4b⟩ := and_e g3b
  obtain ⟨g5a, g5b⟩ := and_e g4b
  obtain ⟨w0, w1, w2, w3, w4, rfl⟩ : ∃ w0 w1 w2 w3 w4 : Value, args = #[w0, w1, w2, w3, w4] := by
    have hs : args.size = 5 := by simpa [Cond.value, given_1] using g1a
    obtain ⟨L⟩ := args
    match L, hs with
    | [w0, w1, w2, w3, w4], _ => exact ⟨w0, w1, w2, w3, w4, rfl⟩
  have hw := fun d (hd : d ∈ tables_1) => atoms_spec (ws := Jvm.Cond.code x code maxLocals ret :: tables_1) hat d (List.mem_cons_of_mem _ hd)
  have hfit : Fit s := fun {y c} hc i hi => by
    obtain ⟨ha, rfl⟩ := Array.getElem?_eq_some_iff.mp hc
    have q := List.all_eq_true.mp ((Array.all_eq_true_iff_forall_mem.mp hF) _ (Array.getElem_mem ha)) i (List.mem_range.mpr hi)
    simpa [Array.getElem?_eq_getElem hi] using q
  obtain ⟨i0, ei0⟩ := isL_v g2a
  obtain rfl : w0 = (.long i0) := Option.some.inj ei0
  obtain ⟨i1, ei1⟩ := isL_v g3a
  obtain rfl : w1 = (.long i1) := Option.some.inj ei1
  obtain ⟨i2, ei2⟩ := isL_v g4a
  obtain rfl : w2 = (.long i2) := Option.some.inj ei2
  obtain ⟨i3, ei3⟩ := is_v g5a
  obtain rfl : w3 = (.int i3) := Option.some.inj ei3
  obtain ⟨i4, ei4⟩ := is_v g5b
  obtain rfl : w4 = (.int i4) := Option.some.inj ei4
  obtain ⟨n, o, h1, h2, h3, _, L, rfl, ⟨rfl, N⟩, hq⟩ := rm0 l s _ hw tables_1 i0 i1 i2 i3 i4 s.heap s.heap.size (Nat.le_refl _)  p e ha hc hk s m _ below hf ((Spec.applies_iff_loose hf).mp happ).1 ⟨rfl, State.Warmed39.refl s, rfl⟩ trivial
  refine ⟨n, _, h1, h2, h3, hpost _ _ _ _ _ _ ⟨Cond.after_iff.mpr rfl, Cond.after_iff.mpr (eq_i res_at (Term.int_eval (1)) rfl), trivial⟩ ⟨hq.1, hq.2.1, (hq.2.2.sift fun y hy => Or.inr (N y hy)).mono (by decide) (by decide)⟩⟩
theorem main_1_1 : Claimed_1_1 := comes_1 fun _ _ _ _ _ _ h hF => ⟨h.1, hF⟩
theorem main_1_2 : Claimed_1_2 := comes_1 fun _ _ _ _ _ _ h hF => ⟨h.2.1, hF⟩
end Jvm.Pilot.@@N@@
namespace Jvm.Pilot.@@N@@
open Jvm Jvm.ClassFile Sem Op Lib Jvm.Free Jvm.Stand Jvm.Pilot.@@N@@.Jvm.D
/-! MADE BY PROGRAM (witnessworld.py) out of the Statement's table words and the real class files: 10 classes; the members and pool entries that the words name. The judged class is class 1, her method 1. -/
namespace start1
open Jvm.ClassFile
def u (s : String) : CpInfo := .utf8 (stringToUtf16 s)
/-- a pool by its gaps: so many unusable entries, then the entry; so many at the end -/
def gap : Nat → List CpInfo → List CpInfo
  | 0, r => r
  | n + 1, r => .unusable :: gap n r
def poolList (es : List (Nat × CpInfo)) (last : Nat) : List CpInfo := es.foldr (fun e r => gap e.1 (e.2 :: r)) (gap last [])
def pool (es : List (Nat × CpInfo)) (last : Nat) : Array CpInfo := ⟨poolList es last⟩
def fileOf (pool : Array CpInfo) (this : Nat) (attrs : Array Attribute := #[]) (ms : Array MethodInfo := #[]) (fl : Nat := 33) (sup : Nat := 0) (ifs : Array Nat := #[]) (fds : Array FieldInfo := #[]) : ClassFile where
  minorVersion := 0
  majorVersion := 65
  constantPool := pool
  accessFlags := fl
  thisClass := this
  superClass := sup
  interfaces := ifs
  fields := fds
  methods := ms
  attributes := attrs
def plain (name : String) (sup : Option ClassId) : Class where
  name := name
  kind := .ordinary
  loader := none
  accessFlags := 33
  super := sup
  interfaces := #[]
  cf := none
  fields := #[]
  methods := #[]
  instanceTypes := #[]
  staticTypes := #[]
  resolved := #[]
  callSites := []
  init := .initialized
  statics := none
  mirror := none

def pool0 : Array CpInfo := pool [(5, u "<init>"), (0, u "()V"), (1, .class_ 10), (1, u "java/lang/Object")] 113

def k0c0 : Code := { maxStack := 0, maxLocals := 1, code := object_method_1_code, exceptionTable := #[], attributes := #[] }
def k0m0 : Method := { name := "<init>", desc := "()V", sig := { parameters := [], returnType := none }, accessFlags := 1, code := some k0c0 }
/-- java/lang/Object -/
def k0 : Class := { plain "java/lang/Object" none with
  accessFlags := 33
  interfaces := #[]
  cf := some (fileOf pool0 8 #[] #[{ accessFlags := 1, nameIndex := 5, descriptorIndex := 6, attributes := #[] }] 33 0 #[] #[])
  fields := #[]
  methods := #[k0m0]
  instanceTypes := #[]
  staticTypes := #[]
  resolved := Array.replicate 124 none
  statics := none }

def pool1 : Array CpInfo := pool [(2, .class_ 4), (1, u "java/lang/Object"), (0, u "<init>"), (0, u "()V"), (0, .long 3), (1, .integer 65535), (0, .class_ 11), (0, u "com/example/conneg/conneg/bench/Wrk$Report"), (0, .methodref 10 13), (0, .nameAndType 5 14), (0, u "(JDJJ)V"), (0, .methodref 10 16), (0, .nameAndType 17 18), (0, u "isClean"), (0, u "()Z"), (0, .class_ 20), (0, u "com/example/conneg/conneg/bench/ReportIsCleanPinLaw"), (2, u "law"), (0, u "(JJJII)Z")] 7

def k1m0 : Method := { name := "<init>", desc := "()V", sig := { parameters := [], returnType := none }, accessFlags := 2, code := none }
def k1c1 : Code := { maxStack := 10, maxLocals := 18, code := code, exceptionTable := #[], attributes := #[] }
def k1m1 : Method := { name := "law", desc := "(JJJII)Z", sig := { parameters := [.long, .long, .long, .int, .int], returnType := some .boolean }, accessFlags := 9, code := some k1c1 }
/-- com/example/conneg/conneg/bench/ReportIsCleanPinLaw -/
def k1 : Class := { plain "com/example/conneg/conneg/bench/ReportIsCleanPinLaw" (some 0) with
  accessFlags := 49
  interfaces := #[]
  cf := some (fileOf pool1 19 #[] #[{ accessFlags := 2, nameIndex := 5, descriptorIndex := 6, attributes := #[] }, { accessFlags := 9, nameIndex := 23, descriptorIndex := 24, attributes := #[] }] 49 2 #[] #[])
  fields := #[]
  methods := #[k1m0, k1m1]
  instanceTypes := #[]
  staticTypes := #[]
  resolved := Array.replicate 32 none
  statics := none }

def pool2 : Array CpInfo := pool [(1, .methodref 2 3), (0, .class_ 4), (0, .nameAndType 5 6), (0, u "java/lang/Object"), (0, u "<init>"), (0, u "()V"), (0, .class_ 8), (0, u "java/lang/Record")] 13

def k2c0 : Code := { maxStack := 1, maxLocals := 1, code := jdk_30_method_1_code, exceptionTable := #[], attributes := #[] }
def k2m0 : Method := { name := "<init>", desc := "()V", sig := { parameters := [], returnType := none }, accessFlags := 4, code := some k2c0 }
/-- java/lang/Record -/
def k2 : Class := { plain "java/lang/Record" (some 0) with
  accessFlags := 1057
  interfaces := #[]
  cf := some (fileOf pool2 7 #[] #[{ accessFlags := 4, nameIndex := 5, descriptorIndex := 6, attributes := #[] }] 1057 2 #[] #[])
  fields := #[]
  methods := #[k2m0]
  instanceTypes := #[]
  staticTypes := #[]
  resolved := Array.replicate 22 none
  statics := none }

def pool3 : Array CpInfo := pool [(1, .methodref 2 3), (0, .class_ 4), (0, .nameAndType 5 6), (0, u "java/lang/Record"), (0, u "<init>"), (0, u "()V"), (0, .fieldref 8 9), (0, .class_ 10), (0, .nameAndType 11 12), (0, u "com/example/conneg/conneg/bench/Wrk$Report"), (0, u "requests"), (0, u "J"), (0, .fieldref 8 14), (0, .nameAndType 15 16), (0, u "requestsPerSecond"), (0, u "D"), (0, .fieldref 8 18), (0, .nameAndType 19 12), (0, u "errorAnswers"), (0, .fieldref 8 21), (0, .nameAndType 22 12), (0, u "socketErrors"), (2, u "REQUESTS"), (0, u "Ljava/util/regex/Pattern;"), (8, u "RATE"), (5, u "()Z"), (17, u "ERROR_ANSWERS"), (2, u "SOCKET_ERRORS"), (22, u "(JDJJ)V"), (31, u "isClean"), (7, .class_ 126), (0, u "com/example/conneg/conneg/bench/Wrk")] 30

def k3c0 : Code := { maxStack := 3, maxLocals := 9, code := prog_3_method_1_code, exceptionTable := #[], attributes := #[] }
def k3m0 : Method := { name := "<init>", desc := "(JDJJ)V", sig := { parameters := [.long, .double, .long, .long], returnType := none }, accessFlags := 0, code := some k3c0 }
def k3c1 : Code := { maxStack := 4, maxLocals := 1, code := prog_3_method_3_code, exceptionTable := #[], attributes := #[] }
def k3m1 : Method := { name := "isClean", desc := "()Z", sig := { parameters := [], returnType := some .boolean }, accessFlags := 0, code := some k3c1 }
/-- com/example/conneg/conneg/bench/Wrk$Report -/
def k3 : Class := { plain "com/example/conneg/conneg/bench/Wrk$Report" (some 2) with
  accessFlags := 48
  interfaces := #[]
  cf := some (fileOf pool3 8 #[.nestHost 125] #[{ accessFlags := 0, nameIndex := 5, descriptorIndex := 85, attributes := #[] }, { accessFlags := 0, nameIndex := 117, descriptorIndex := 41, attributes := #[] }] 48 2 #[] #[{ accessFlags := 18, nameIndex := 11, descriptorIndex := 12, attributes := #[] }, { accessFlags := 18, nameIndex := 15, descriptorIndex := 16, attributes := #[] }, { accessFlags := 18, nameIndex := 19, descriptorIndex := 12, attributes := #[] }, { accessFlags := 18, nameIndex := 22, descriptorIndex := 12, attributes := #[] }, { accessFlags := 26, nameIndex := 25, descriptorIndex := 26, attributes := #[] }, { accessFlags := 26, nameIndex := 35, descriptorIndex := 26, attributes := #[] }, { accessFlags := 26, nameIndex := 59, descriptorIndex := 26, attributes := #[] }, { accessFlags := 26, nameIndex := 62, descriptorIndex := 26, attributes := #[] }])
  fields := #[{ name := "requests", type := .long, accessFlags := 18, slot := 0, constantValue := 0 }, { name := "requestsPerSecond", type := .double, accessFlags := 18, slot := 1, constantValue := 0 }, { name := "errorAnswers", type := .long, accessFlags := 18, slot := 2, constantValue := 0 }, { name := "socketErrors", type := .long, accessFlags := 18, slot := 3, constantValue := 0 }, { name := "REQUESTS", type := (.object "java/util/regex/Pattern"), accessFlags := 26, slot := 0, constantValue := 0 }, { name := "RATE", type := (.object "java/util/regex/Pattern"), accessFlags := 26, slot := 1, constantValue := 0 }, { name := "ERROR_ANSWERS", type := (.object "java/util/regex/Pattern"), accessFlags := 26, slot := 2, constantValue := 0 }, { name := "SOCKET_ERRORS", type := (.object "java/util/regex/Pattern"), accessFlags := 26, slot := 3, constantValue := 0 }]
  methods := #[k3m0, k3m1]
  instanceTypes := #[.long, .double, .long, .long]
  staticTypes := #[(.object "java/util/regex/Pattern"), (.object "java/util/regex/Pattern"), (.object "java/util/regex/Pattern"), (.object "java/util/regex/Pattern")]
  resolved := Array.replicate 157 none
  statics := none }

def pool4 : Array CpInfo := pool [(1, u "java/lang/Cloneable"), (0, .class_ 1), (0, u "java/lang/Object"), (0, .class_ 3)] 3

/-- java/lang/Cloneable -/
def k4 : Class := { plain "java/lang/Cloneable" (some 0) with
  accessFlags := 1537
  interfaces := #[]
  cf := some (fileOf pool4 2 #[] #[] 1537 4 #[] #[])
  fields := #[]
  methods := #[]
  instanceTypes := #[]
  staticTypes := #[]
  resolved := Array.replicate 8 none
  statics := none }

def pool5 : Array CpInfo := pool [(1, u "java/io/Serializable"), (0, .class_ 1), (0, u "java/lang/Object"), (0, .class_ 3)] 3

/-- java/io/Serializable -/
def k5 : Class := { plain "java/io/Serializable" (some 0) with
  accessFlags := 1537
  interfaces := #[]
  cf := some (fileOf pool5 2 #[] #[] 1537 4 #[] #[])
  fields := #[]
  methods := #[]
  instanceTypes := #[]
  staticTypes := #[]
  resolved := Array.replicate 8 none
  statics := none }

/-- the primitive byte -/
def k6 : Class := { plain "byte" none with kind := .primitive 'B', accessFlags := 0x411 }
/-- [B -/
def k7 : Class := { plain "[B" (some 0) with kind := .array 6 .byte, interfaces := #[4, 5], accessFlags := 1041 }

/-- the primitive int -/
def k8 : Class := { plain "int" none with kind := .primitive 'I', accessFlags := 0x411 }
/-- [I -/
def k9 : Class := { plain "[I" (some 0) with kind := .array 8 .int, interfaces := #[4, 5], accessFlags := 1041 }

def heap : Heap := #[]
def classes : Array Class := #[k0, k1, k2, k3, k4, k5, k6, k7, k8, k9]
def interned : List (Array UInt16 × Addr) := []
def slotsUsed : Nat := 0
def theMethod : MethodId := ⟨1, 1⟩
def args0 : Array Value := #[.long 5, .long 5, .long 5, .int 5, .int 5]
def aboutOver (below : List Frame) : State where
  vm := { classes := classes, interned := interned.toArray }
  heap := heap
  slotsUsed := slotsUsed
  threads := #[{ frames := .invoking theMethod args0 :: below }]
def below0 : List Frame := [.native { method := ⟨0, 0⟩, args := #[] }]
def about1 : State := aboutOver below0
def p0 : Program := .bare "" "" ""
def e0 : Env := launch0.env 0 0 0
theorem w_frames : about1.frames = Frame.invoking theMethod args0 :: below0 := rfl
set_option maxRecDepth 65536 in
theorem w_args : argsFit about1.vm theMethod args0 = true := by decide +kernel
set_option maxRecDepth 65536 in
theorem w_heap : heapFits about1 = true := by decide +kernel
set_option maxRecDepth 65536 in
theorem w_runnable : about1.curStatus? = some .runnable := by decide +kernel
set_option maxRecDepth 65536 in
theorem w_alone : about1.alone = true := by decide +kernel
set_option maxRecDepth 65536 in
theorem w_named : about1.methodNamed? x = some theMethod := by decide +kernel
set_option maxRecDepth 65536 in
theorem w_hears : about1.hears theMethod below0 = true := by decide +kernel
set_option maxRecDepth 65536 in
theorem w_ripe : about1.ripe theMethod args0 below0 = true := by decide +kernel
theorem w_running : about1.status = .running := rfl
set_option maxRecDepth 65536 in
theorem w_room : about1.hasRoom e0.platform room_1 = true :=
  launch0.hasRoom_least _ room_1 (by decide +kernel) (by decide +kernel) (by decide +kernel) (by decide +kernel) (by decide +kernel) (by decide +kernel)
theorem allAtoms_all (ts : List Jvm.Cond) (a : Array Jvm.Value) (st : Jvm.State) : (allAtoms ts).before a st = ts.all (fun c => c.before a st) := by
  induction ts with
  | nil => rfl
  | cons c t ih =>
    show (Jvm.Cond.and c (allAtoms t)).before a st = _
    rw [Jvm.Cond.before_and, ih, List.all_cons]
def words1 : List Jvm.Cond := Jvm.Cond.code x code maxLocals ret :: tables_1
/-- a 'code' word, met by the world's own term for the bytes: nothing is compared byte by byte -/
theorem code_word {y : MethodName} {bytes : ByteArray} {mx : Nat} {rt : Option FieldType} {a : Array Value} {s : State} {m : MethodId} {meth : Method} {c : Code} (h1 : s.methodNamed? y = some m) (h2 : s.vm.method? m = some meth) (h3 : meth.code = some c) (h4 : c.code = bytes)
    (h5 : (c.maxLocals == mx && c.exceptionTable.isEmpty && decide (c.maxStack ≤ mostOperands) && decide (meth.sig.returnType = rt) && !meth.locks && decide (parseMethodDescriptor y.desc = some meth.sig)) = true) : (Jvm.Cond.code y bytes mx rt).before a s = true := by
  simp only [Bool.and_eq_true, beq_iff_eq, Bool.not_eq_true', decide_eq_true_eq] at h5
  obtain ⟨⟨⟨⟨⟨g1, g2⟩, g3⟩, g4⟩, g5⟩, g6⟩ := h5
  simp [Cond.before, Cond.holds, Cond.value, h1, h2, h3, h4, g1, g2, g3, g4, g5, g6]
def isCode : Jvm.Cond → Bool
  | .code _ _ _ _ => true
  | _ => false
theorem all_split {L : List Jvm.Cond} {P : Jvm.Cond → Bool} (h1 : L.all (fun c => isCode c || P c) = true) (h2 : ∀ c ∈ L.filter isCode, P c = true) : L.all P = true := by
  refine List.all_eq_true.mpr fun c hc => ?_
  have h := List.all_eq_true.mp h1 c hc
  rcases Bool.eq_false_or_eq_true (isCode c) with hi | hi
  · exact h2 c (List.mem_filter.mpr ⟨hc, hi⟩)
  · simpa [hi] using h
set_option maxRecDepth 65536 in
theorem w_c0 : (Jvm.Cond.code x code maxLocals ret).before args0 about1 = true := code_word (m := ⟨1, 1⟩) (meth := k1m1) (c := k1c1) (by decide +kernel) rfl rfl rfl (by decide +kernel)
set_option maxRecDepth 65536 in
theorem w_c1 : (Jvm.Cond.code ({ cls := "com/example/conneg/conneg/bench/Wrk$Report", name := "<init>", desc := "(JDJJ)V" } : Jvm.MethodName) prog_3_method_1_code (9 : Nat) (Option.none : Option Jvm.ClassFile.FieldType)).before args0 about1 = true := code_word (m := ⟨3, 0⟩) (meth := k3m0) (c := k3c0) (by decide +kernel) rfl rfl rfl (by decide +kernel)
set_option maxRecDepth 65536 in
theorem w_c2 : (Jvm.Cond.code ({ cls := "java/lang/Record", name := "<init>", desc := "()V" } : Jvm.MethodName) jdk_30_method_1_code (1 : Nat) (Option.none : Option Jvm.ClassFile.FieldType)).before args0 about1 = true := code_word (m := ⟨2, 0⟩) (meth := k2m0) (c := k2c0) (by decide +kernel) rfl rfl rfl (by decide +kernel)
set_option maxRecDepth 65536 in
theorem w_c3 : (Jvm.Cond.code ({ cls := "java/lang/Object", name := "<init>", desc := "()V" } : Jvm.MethodName) object_method_1_code (1 : Nat) (Option.none : Option Jvm.ClassFile.FieldType)).before args0 about1 = true := code_word (m := ⟨0, 0⟩) (meth := k0m0) (c := k0c0) (by decide +kernel) rfl rfl rfl (by decide +kernel)
set_option maxRecDepth 65536 in
theorem w_c4 : (Jvm.Cond.code ({ cls := "com/example/conneg/conneg/bench/Wrk$Report", name := "isClean", desc := "()Z" } : Jvm.MethodName) prog_3_method_3_code (1 : Nat) (Option.some Jvm.ClassFile.FieldType.boolean)).before args0 about1 = true := code_word (m := ⟨3, 1⟩) (meth := k3m1) (c := k3c1) (by decide +kernel) rfl rfl rfl (by decide +kernel)
def codes1 : List Jvm.Cond := [Jvm.Cond.code x code maxLocals ret, Jvm.Cond.code ({ cls := "com/example/conneg/conneg/bench/Wrk$Report", name := "<init>", desc := "(JDJJ)V" } : Jvm.MethodName) prog_3_method_1_code (9 : Nat) (Option.none : Option Jvm.ClassFile.FieldType), Jvm.Cond.code ({ cls := "java/lang/Record", name := "<init>", desc := "()V" } : Jvm.MethodName) jdk_30_method_1_code (1 : Nat) (Option.none : Option Jvm.ClassFile.FieldType), Jvm.Cond.code ({ cls := "java/lang/Object", name := "<init>", desc := "()V" } : Jvm.MethodName) object_method_1_code (1 : Nat) (Option.none : Option Jvm.ClassFile.FieldType), Jvm.Cond.code ({ cls := "com/example/conneg/conneg/bench/Wrk$Report", name := "isClean", desc := "()Z" } : Jvm.MethodName) prog_3_method_3_code (1 : Nat) (Option.some Jvm.ClassFile.FieldType.boolean)]
set_option maxRecDepth 65536 in
theorem codes_eq : words1.filter isCode = codes1 := rfl
theorem w_codes : ∀ c ∈ words1.filter isCode, c.before args0 about1 = true := by
  rw [codes_eq]
  intro c hc
  simp only [codes1, List.mem_cons, List.not_mem_nil, or_false] at hc
  rcases hc with rfl | rfl | rfl | rfl | rfl
  · exact w_c0
  · exact w_c1
  · exact w_c2
  · exact w_c3
  · exact w_c4
set_option maxRecDepth 65536 in
theorem w_t1 : (words1.take 24).all (fun c => isCode c || c.before args0 about1) = true := by decide +kernel
set_option maxRecDepth 65536 in
theorem w_t2 : (words1.drop 24).all (fun c => isCode c || c.before args0 about1) = true := by decide +kernel
theorem w_tables : (allAtoms (Jvm.Cond.code x code maxLocals ret :: tables_1)).before args0 about1 = true := by
  rw [allAtoms_all]
  show words1.all (fun c => c.before args0 about1) = true
  refine all_split ?_ w_codes
  rw [← List.take_append_drop 24 words1, List.all_append, w_t1, w_t2]
  rfl
set_option maxRecDepth 65536 in
theorem w_case : (Jvm.Cond.and given_1 narrow_1).before args0 about1 = true := by decide +kernel
theorem w_applies : (headSpec (Jvm.Cond.code x code maxLocals ret :: tables_1) room_1).applies x e0.platform about1 = true :=
  (Spec.applies_iff w_frames).mpr ⟨w_running, w_runnable, w_alone, w_named, w_hears, w_ripe, w_room, w_tables⟩
theorem atStart : AtStart classFile x code maxLocals ret World_1 tables_1 room_1 Calls_1 rest_1 Pre_1 launch0 p0 e0 about1 theMethod args0 below0 :=
  ⟨lists_1, trivial, launch0.admits_env _ _ _, launch0.least_env, fairChoices_fair.cas, fairChoices_fair.clock, w_frames, w_args, w_heap, w_applies, trivial, trivial, w_case⟩
end start1
theorem witness_1 : WitnessClaimed_1 := ⟨start1.p0, start1.e0, start1.about1, start1.theMethod, start1.args0, start1.below0, start1.atStart⟩
end Jvm.Pilot.@@N@@
