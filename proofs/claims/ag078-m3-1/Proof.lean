import JvmDerived
import JvmDerived.Pilot.@@N@@Statement
import JvmDerived.Pilot.@@N@@Code
set_option linter.unusedVariables false
set_option linter.unusedSimpArgs false
/- laws to paste: Road.backV, Road.lenW, Road.chN, Road.eqW (cut by pick.py; bodies as the Statement names them) -/
namespace Jvm.Pilot.@@N@@
namespace StrChars
open Jvm Sem ClassFile Op Lib Jvm.Stand Jvm.Free.XT Jvm.Free.ALB Jvm.Free.JM Jvm.Free
open Jvm.Lib.Cold (StaticIs)
/-- a char array whose places are chars -/
def Ch (a : Addr) (A : Cell) (U : State) : Prop := Arr .char a A U ∧ Typed .char A
theorem Ch.mv {a : Addr} {A : Cell} {U U' : State} (h : Ch a A U) (hal : U.vm.Alike U'.vm) (hh : U'.heap = U.heap) : Ch a A U' := ⟨h.1.mv hal hh, h.2⟩
theorem Ch.keep {a : Addr} {A : Cell} {U U' : State} (h : Ch a A U) (hal : U.vm.Alike U'.vm) (hk : U'.heap[a]? = some A) : Ch a A U' := ⟨h.1.keep hal hk, h.2⟩
/-- what place i of a char[]'s cell holds -/
def cv (A : Cell) (i : Nat) : Int32 := match A.slots[i]? with | some (.int x) => x | _ => 0
theorem Ch.get {a : Addr} {A : Cell} {U : State} (h : Ch a A U) {i : Nat} (hi : i < A.slots.size) : A.slots[i]? = some (.int (cv A i)) := by
  have e := Array.getElem?_eq_getElem hi
  have f := h.2 i _ e
  unfold cv; rw [e]
  generalize A.slots[i] = v at f
  cases v <;> simp [fits] at f ⊢
/-- the byte that i2b leaves of a char -/
def lo8 (x : Int32) : Int32 := x.toInt8.toInt32
theorem fits_lo8 (y : Int32) : fits .byte (.int (lo8 y)) = true := by
  have h1 := y.toInt8.le_toInt
  have h2 := y.toInt8.toInt_lt
  simp only [lo8, fits, Bool.and_eq_true, decide_eq_true_eq, Int32.le_iff_toInt_le, Int8.toInt_toInt32, show (-128 : Int32).toInt = -128 from by decide, show (127 : Int32).toInt = 127 from by decide]
  omega
/-- A' is A but that each place j of lo .. hi - 1 holds f j -/
def Laid (A A' : Cell) (lo hi : Nat) (f : Nat → Value) : Prop := A'.cls = A.cls ∧ A'.vm = A.vm ∧ A'.slots.size = A.slots.size ∧ ∀ i, A'.slots[i]? = if lo ≤ i ∧ i < hi then some (f i) else A.slots[i]?
theorem Laid.zero (A : Cell) (lo : Nat) (f : Nat → Value) : Laid A A lo (lo + 0) f := ⟨rfl, rfl, rfl, fun i => by rw [if_neg (by omega)]⟩
theorem Laid.step {A Ak : Cell} {lo k : Nat} {f : Nat → Value} {v : Value} (h : Laid A Ak lo k f) (hlo : lo ≤ k) (hk : k < Ak.slots.size) (hv : v = f k) : Laid A (Ak.setSlot k v) lo (k + 1) f := by
  refine ⟨h.1, h.2.1, by simpa [Cell.setSlot] using h.2.2.1, fun i => ?_⟩
  by_cases e : k = i
  · subst e; rw [Cell.slots_setSlot_self v hk, if_pos (by omega), hv]
  · rw [Cell.slots_setSlot_ne v e, h.2.2.2 i]
    by_cases q : lo ≤ i ∧ i < k
    · rw [if_pos q, if_pos (by omega)]
    · rw [if_neg q, if_neg (by omega)]
def U16 : String := "java/lang/StringUTF16"
namespace Cmp5
def yN : MethodName := ⟨"java/lang/StringUTF16", "compress", "([CI[BII)I"⟩
abbrev yB : ByteArray := jdk_52_method_21_code
theorem d0 : decode yB 0 = .ok (.iconst 0, 1) := by decide +kernel
theorem d1 : decode yB 1 = .ok (.istore 5, 2) := by decide +kernel
theorem d3 : decode yB 3 = .ok (.iload 5, 2) := by decide +kernel
theorem d5 : decode yB 5 = .ok (.iload 4, 2) := by decide +kernel
theorem d7 : decode yB 7 = .ok (.if_icmp (.ge) 37, 3) := by decide +kernel
theorem d10 : decode yB 10 = .ok (.aload_n 0, 1) := by decide +kernel
theorem d11 : decode yB 11 = .ok (.iload_n 1, 1) := by decide +kernel
theorem d12 : decode yB 12 = .ok (.caload, 1) := by decide +kernel
theorem d13 : decode yB 13 = .ok (.istore 6, 2) := by decide +kernel
theorem d15 : decode yB 15 = .ok (.iload 6, 2) := by decide +kernel
theorem d17 : decode yB 17 = .ok (.sipush 255, 3) := by decide +kernel
theorem d20 : decode yB 20 = .ok (.if_icmp (.le) 6, 3) := by decide +kernel
theorem d26 : decode yB 26 = .ok (.aload_n 2, 1) := by decide +kernel
theorem d27 : decode yB 27 = .ok (.iload_n 3, 1) := by decide +kernel
theorem d28 : decode yB 28 = .ok (.iload 6, 2) := by decide +kernel
theorem d30 : decode yB 30 = .ok (.i2b, 1) := by decide +kernel
theorem d31 : decode yB 31 = .ok (.bastore, 1) := by decide +kernel
theorem d32 : decode yB 32 = .ok (.iinc 1 1, 3) := by decide +kernel
theorem d35 : decode yB 35 = .ok (.iinc 3 1, 3) := by decide +kernel
theorem d38 : decode yB 38 = .ok (.iinc 5 1, 3) := by decide +kernel
theorem d41 : decode yB 41 = .ok (.goto (-38), 3) := by decide +kernel
theorem d44 : decode yB 44 = .ok (.iload 4, 2) := by decide +kernel
theorem d46 : decode yB 46 = .ok (.ireturn, 1) := by decide +kernel
def site : List Cond := []
def tab : Cond := tabOf yN yB 7 (some .int) site
def P (b : Addr) (A : Cell) (d : Addr) (B : Cell) (o q len : Nat) (args : Array Value) (s : State) : Prop := args = #[.ref b, .int (Int32.ofNat o), .ref d, .int (Int32.ofNat q), .int (Int32.ofNat len)] ∧ Ch b A s ∧ Arr .byte d B s ∧ b ≠ d ∧ o + len ≤ A.slots.size ∧ q + len ≤ B.slots.size ∧ ∀ i, i < len → ¬ 255 < cv A (o + i)
def E (b : Addr) (A : Cell) (d : Addr) (B : Cell) (o q len : Nat) (r : Option Value) (s u : State) : Prop := r = some (.int (Int32.ofNat len)) ∧ ∃ B', Put d B' s u ∧ Laid B B' q (q + len) (fun j => Value.int (lo8 (cv A (o + (j - q)))))
/-- no char of the range above 255: len; the places written hold each char's low byte -/
theorem law (l : Launch) (b : Addr) (A : Cell) (d : Addr) (B : Cell) (o q len : Nat) : Law l yN 5 5 0 0 yB 7 (some .int) site (P b A d B o q len) (E b A d B o q len) (copyLocs d q len) 0 0 := by
  refine Law.of_walk (plainFor_of_name (by decide +kernel)) (by decide +kernel) (by decide +kernel) (by decide) (fun _ _ h => by rw [h.1]; rfl) (fun _ U U' hal hh h => ⟨h.1, h.2.1.mv hal hh, h.2.2.1.mv hal hh, h.2.2.2⟩) (fun r U U' V V' h1 hal h2 h => ⟨h.1, h.2.elim fun B' q => ⟨B', q.1.mv h1 h2, q.2⟩⟩) ?_
  intro p e s m args below meth c s₁ X0 hexec hbytes hml hret hlk hnm hown hh0 W hP
  obtain ⟨rfl, hA, hB, hne, l1, l2, hp⟩ := hP
  have c1 : Steps p.tables e below (s₁.setTop (entryFrame m #[.ref b, .int (Int32.ofNat o), .ref d, .int (Int32.ofNat q), .int (Int32.ofNat len)] 7)) (s₁.setTop (mkF m 0 #[.val (.ref b), .val (.int (Int32.ofNat o)), .val (.ref d), .val (.int (Int32.ofNat q)), .val (.int (Int32.ofNat len)), .unset, .unset] [])) := entry rfl
  have hA0 := hA.1.mv X0.warmed.alike hh0
  have hB0 := hB.mv X0.warmed.alike hh0
  have a31 := hA.1.2.2.2
  have c2 : Steps p.tables e below (s₁.setTop (entryFrame m #[.ref b, .int (Int32.ofNat o), .ref d, .int (Int32.ofNat q), .int (Int32.ofNat len)] 7)) (s₁.setTop (mkF m 3 #[.val (.ref b), .val (.int (Int32.ofNat o)), .val (.ref d), .val (.int (Int32.ofNat q)), .val (.int (Int32.ofNat len)), .val (.int 0), .unset] [])) := c1.trans (by
    refine iconstV X0.here hexec rfl 0 (hb hbytes d0) (by decide) ?_
    refine XS.istore X0.here hexec rfl (hb hbytes d1) rfl rfl ?_
    exact Steps.refl _)
  have loop : ∀ (r i : Nat), i + r = len → ∀ (z : Slot), (z = .unset ∨ ∃ w, z = .val w ∧ w.category = 1) → ∀ (Tl : State) (Bk : Cell), Stand p l e { frames := 0, locals := 0, cells := 0, slots := 0 } s m #[.ref b, .int (Int32.ofNat o), .ref d, .int (Int32.ofNat q), .int (Int32.ofNat len)] below meth c Tl ([] ++ copyLocs d q i) 0 0 → Put d Bk s₁ Tl → Laid B Bk q (q + i) (fun j => Value.int (lo8 (cv A (o + (j - q))))) →
      Steps p.tables e below (s₁.setTop (entryFrame m #[.ref b, .int (Int32.ofNat o), .ref d, .int (Int32.ofNat q), .int (Int32.ofNat len)] 7)) (Tl.setTop (mkF m 3 #[.val (.ref b), .val (.int (Int32.ofNat (o + i))), .val (.ref d), .val (.int (Int32.ofNat (q + i))), .val (.int (Int32.ofNat len)), .val (.int (Int32.ofNat i)), z] [])) → ∃ (T' : State) (B' : Cell) (z' : Slot), Stand p l e { frames := 0, locals := 0, cells := 0, slots := 0 } s m #[.ref b, .int (Int32.ofNat o), .ref d, .int (Int32.ofNat q), .int (Int32.ofNat len)] below meth c T' ([] ++ copyLocs d q len) 0 0 ∧ Put d B' s₁ T' ∧ Laid B B' q (q + len) (fun j => Value.int (lo8 (cv A (o + (j - q))))) ∧
      Steps p.tables e below (s₁.setTop (entryFrame m #[.ref b, .int (Int32.ofNat o), .ref d, .int (Int32.ofNat q), .int (Int32.ofNat len)] 7)) (T'.setTop (mkF m 3 #[.val (.ref b), .val (.int (Int32.ofNat (o + len))), .val (.ref d), .val (.int (Int32.ofNat (q + len))), .val (.int (Int32.ofNat len)), .val (.int (Int32.ofNat len)), z'] [])) := by
    intro r
    induction r with
    | zero =>
      intro i hi z hz Tl Bk Xl pl fl cl
      have hil : i = len := by omega
      rw [hil] at Xl fl cl
      exact ⟨Tl, Bk, z, Xl, pl, fl, cl⟩
    | succ r ih =>
      intro i hi z hz Tl Bk Xl pl fl cl
      have all := X0.warmed.alike.symm.trans Xl.warmed.alike
      have hAl := hA0.keep all (pl.other hne hA0.1)
      have hBk := hB0.like all pl.1 fl.1 fl.2.1 fl.2.2.1
      have hlt : q + i < Bk.slots.size := by rw [fl.2.2.1]; omega
      have c3 : Steps p.tables e below (s₁.setTop (entryFrame m #[.ref b, .int (Int32.ofNat o), .ref d, .int (Int32.ofNat q), .int (Int32.ofNat len)] 7)) (Tl.setTop (mkF m 12 #[.val (.ref b), .val (.int (Int32.ofNat (o + i))), .val (.ref d), .val (.int (Int32.ofNat (q + i))), .val (.int (Int32.ofNat len)), .val (.int (Int32.ofNat i)), z] [.int (Int32.ofNat (o + i)), .ref b])) := cl.trans (by
        refine XS.iload Xl.here hexec rfl (hb hbytes d3) rfl ?_
        refine XS.iload Xl.here hexec rfl (hb hbytes d5) rfl ?_
        refine XS.icmpNo Xl.here hexec rfl (hb hbytes d7) rfl (ii_ge_f (lt32 (by omega) (by omega))) ?_
        refine XS.aloadN Xl.here hexec rfl (hb hbytes d10) rfl rfl ?_
        refine XS.iloadN Xl.here hexec rfl (hb hbytes d11) rfl ?_
        exact Steps.refl _)
      have c4 : Steps p.tables e below (s₁.setTop (entryFrame m #[.ref b, .int (Int32.ofNat o), .ref d, .int (Int32.ofNat q), .int (Int32.ofNat len)] 7)) (Tl.setTop (mkF m 13 #[.val (.ref b), .val (.int (Int32.ofNat (o + i))), .val (.ref d), .val (.int (Int32.ofNat (q + i))), .val (.int (Int32.ofNat len)), .val (.int (Int32.ofNat i)), z] [.int (cv A (o + i))])) := c3.trans (by
        refine Xl.aget hexec hAl rfl (hA.get (i := o + i) (by omega)) rfl rfl (hb hbytes d12) ?_
        exact Steps.refl _)
      have c5 : Steps p.tables e below (s₁.setTop (entryFrame m #[.ref b, .int (Int32.ofNat o), .ref d, .int (Int32.ofNat q), .int (Int32.ofNat len)] 7)) (Tl.setTop (mkF m 15 #[.val (.ref b), .val (.int (Int32.ofNat (o + i))), .val (.ref d), .val (.int (Int32.ofNat (q + i))), .val (.int (Int32.ofNat len)), .val (.int (Int32.ofNat i)), .val (.int (cv A (o + i)))] [])) := c4.trans (by
        refine XS.istoreS Xl.here hexec rfl (hb hbytes d13) rfl rfl hz ?_
        exact Steps.refl _)
      have c6 : Steps p.tables e below (s₁.setTop (entryFrame m #[.ref b, .int (Int32.ofNat o), .ref d, .int (Int32.ofNat q), .int (Int32.ofNat len)] 7)) (Tl.setTop (mkF m 31 #[.val (.ref b), .val (.int (Int32.ofNat (o + i))), .val (.ref d), .val (.int (Int32.ofNat (q + i))), .val (.int (Int32.ofNat len)), .val (.int (Int32.ofNat i)), .val (.int (cv A (o + i)))] [.int (lo8 (cv A (o + i))), .int (Int32.ofNat (q + i)), .ref d])) := c5.trans (by
        refine XS.iload Xl.here hexec rfl (hb hbytes d15) rfl ?_
        refine sipushV Xl.here hexec rfl 255 (hb hbytes d17) (by decide) ?_
        refine XS.icmpYes Xl.here hexec rfl (pc0 := 20) rfl (hb hbytes d20) rfl (ii_le_t (hp i (by omega))) (by decide) rfl ?_
        refine XS.aloadN Xl.here hexec rfl (hb hbytes d26) rfl rfl ?_
        refine XS.iloadN Xl.here hexec rfl (hb hbytes d27) rfl ?_
        refine XS.iload Xl.here hexec rfl (hb hbytes d28) rfl ?_
        refine i2b Xl.here hexec rfl (hb hbytes d30) rfl ?_
        exact Steps.refl _)
      obtain ⟨T7, X7, p7, st7⟩ := Xl.aput hexec hBk rfl hlt rfl (fits_lo8 (cv A (o + i))) (g := (mkF m 31 #[.val (.ref b), .val (.int (Int32.ofNat (o + i))), .val (.ref d), .val (.int (Int32.ofNat (q + i))), .val (.int (Int32.ofNat len)), .val (.int (Int32.ofNat i)), .val (.int (cv A (o + i)))] [.int (lo8 (cv A (o + i))), .int (Int32.ofNat (q + i)), .ref d])) rfl (rest := []) rfl (hb hbytes d31)
      have c8 : Steps p.tables e below (s₁.setTop (entryFrame m #[.ref b, .int (Int32.ofNat o), .ref d, .int (Int32.ofNat q), .int (Int32.ofNat len)] 7)) (T7.setTop (mkF m 32 #[.val (.ref b), .val (.int (Int32.ofNat (o + i))), .val (.ref d), .val (.int (Int32.ofNat (q + i))), .val (.int (Int32.ofNat len)), .val (.int (Int32.ofNat i)), .val (.int (cv A (o + i)))] [])) := c6.trans (st7 _ (Steps.refl _))
      have c9 : Steps p.tables e below (s₁.setTop (entryFrame m #[.ref b, .int (Int32.ofNat o), .ref d, .int (Int32.ofNat q), .int (Int32.ofNat len)] 7)) (T7.setTop (mkF m 3 #[.val (.ref b), .val (.int (Int32.ofNat (o + i) + 1)), .val (.ref d), .val (.int (Int32.ofNat (q + i) + 1)), .val (.int (Int32.ofNat len)), .val (.int (Int32.ofNat i + 1)), .val (.int (cv A (o + i)))] [])) := c8.trans (by
        refine iincV X7.here hexec rfl 1 (hb hbytes d32) (by decide) rfl rfl ?_
        refine iincV X7.here hexec rfl 1 (hb hbytes d35) (by decide) rfl rfl ?_
        refine iincV X7.here hexec rfl 1 (hb hbytes d38) (by decide) rfl rfl ?_
        refine XS.goto X7.here hexec rfl (pc0 := 41) rfl (hb hbytes d41) (by decide) rfl ?_
        exact Steps.refl _)
      have c10 : Steps p.tables e below (s₁.setTop (entryFrame m #[.ref b, .int (Int32.ofNat o), .ref d, .int (Int32.ofNat q), .int (Int32.ofNat len)] 7)) (T7.setTop (mkF m 3 #[.val (.ref b), .val (.int (Int32.ofNat (o + (i + 1)))), .val (.ref d), .val (.int (Int32.ofNat (q + (i + 1)))), .val (.int (Int32.ofNat len)), .val (.int (Int32.ofNat (i + 1))), .val (.int (cv A (o + i)))] [])) := by
        have := c9
        rw [succ32, succ32, succ32] at this
        exact this
      exact ih (i + 1) (by omega) _ (Or.inr ⟨_, rfl, rfl⟩) T7 _ (by rw [copyLocs_step, ← List.append_assoc]; exact X7) (pl.trans p7) (fl.step (by omega) hlt (by simp)) c10
  obtain ⟨T9, B9, z9, X9, p9, f9, g9⟩ := loop len 0 (by omega) .unset (Or.inl rfl) s₁ B (by simpa [copyLocs] using X0) ⟨hB0.1, fun _ _ => rfl, rfl⟩ (Laid.zero _ _ _) c2
  have c11 : Steps p.tables e below (s₁.setTop (entryFrame m #[.ref b, .int (Int32.ofNat o), .ref d, .int (Int32.ofNat q), .int (Int32.ofNat len)] 7)) (T9.setTop (mkF m 46 #[.val (.ref b), .val (.int (Int32.ofNat (o + len))), .val (.ref d), .val (.int (Int32.ofNat (q + len))), .val (.int (Int32.ofNat len)), .val (.int (Int32.ofNat len)), z9] [.int (Int32.ofNat len)])) := g9.trans (by
    refine XS.iload X9.here hexec rfl (hb hbytes d3) rfl ?_
    refine XS.iload X9.here hexec rfl (hb hbytes d5) rfl ?_
    refine XS.icmpYes X9.here hexec rfl (pc0 := 7) rfl (hb hbytes d7) rfl (ii_ge_t (nlt32 (by omega) (Nat.le_refl _))) (by decide) rfl ?_
    refine XS.iload X9.here hexec rfl (hb hbytes d44) rfl ?_
    exact Steps.refl _)
  exact ⟨T9, some (.int (Int32.ofNat len)), _, _, _, X9, by simp, rfl, rfl, (fun h => by cases h), ⟨rfl, B9, p9.from hh0, f9⟩, fun fs hl => c11.trans (X9.ireturnOut hexec hret rfl (Or.inl rfl) (hb hbytes d46) hl)⟩
end Cmp5
namespace Cmp3
def yN : MethodName := ⟨"java/lang/StringUTF16", "compress", "([CII)[B"⟩
abbrev yB : ByteArray := jdk_52_method_16_code
theorem d0 : decode yB 0 = .ok (.iload_n 2, 1) := by decide +kernel
theorem d1 : decode yB 1 = .ok (.newarray .byte, 2) := by decide +kernel
theorem d3 : decode yB 3 = .ok (.astore_n 3, 1) := by decide +kernel
theorem d4 : decode yB 4 = .ok (.aload_n 0, 1) := by decide +kernel
theorem d5 : decode yB 5 = .ok (.iload_n 1, 1) := by decide +kernel
theorem d6 : decode yB 6 = .ok (.aload_n 3, 1) := by decide +kernel
theorem d7 : decode yB 7 = .ok (.iconst 0, 1) := by decide +kernel
theorem d8 : decode yB 8 = .ok (.iload_n 2, 1) := by decide +kernel
theorem d9 : decode yB 9 = .ok (.invokestatic 115, 3) := by decide +kernel
theorem d12 : decode yB 12 = .ok (.istore 4, 2) := by decide +kernel
theorem d14 : decode yB 14 = .ok (.iload 4, 2) := by decide +kernel
theorem d16 : decode yB 16 = .ok (.iload_n 2, 1) := by decide +kernel
theorem d17 : decode yB 17 = .ok (.if_icmp (.eq) 40, 3) := by decide +kernel
theorem d57 : decode yB 57 = .ok (.aload_n 3, 1) := by decide +kernel
theorem d58 : decode yB 58 = .ok (.areturn, 1) := by decide +kernel
def site : List Cond := [.arrayClass .byte, Cmp5.tab] ++ staticW U16 115 Cmp5.yN
def tab : Cond := tabOf yN yB 6 (some (.array .byte)) site
def P (b : Addr) (A : Cell) (o len : Nat) (args : Array Value) (s : State) : Prop := args = #[.ref b, .int (Int32.ofNat o), .int (Int32.ofNat len)] ∧ Ch b A s ∧ o + len ≤ A.slots.size ∧ len ≤ 536870912 ∧ ∀ i, i < len → ¬ 255 < cv A (o + i)
def E (b : Addr) (A : Cell) (o len : Nat) (r : Option Value) (s u : State) : Prop := NewArr .byte "[B" len (fun j => .int (lo8 (cv A (o + j)))) r s u ∧ u.heap.size = s.heap.size + 1
/-- no char of the range above 255: a new byte[] of their low bytes -/
theorem law (l : Launch) (b : Addr) (A : Cell) (o len : Nat) : Law l yN 3 3 1 18 yB 6 (some (.array .byte)) site (P b A o len) (E b A o len) [] 1 len := by
  refine Law.of_walk (plainFor_of_name (by decide +kernel)) (by decide +kernel) (by decide +kernel) (by decide) (fun _ _ h => by rw [h.1]; rfl) (fun _ U U' hal hh h => ⟨h.1, h.2.1.mv hal hh, h.2.2⟩) (fun r U U' V V' h1 hal h2 h => ⟨NewArr.mv r U U' V V' h1 hal h2 h.1, by rw [h1, h2]; exact h.2⟩) ?_
  intro p e s m args below meth c s₁ X0 hexec hbytes hml hret hlk hnm hown hh0 W hP
  obtain ⟨rfl, hA, l1, l2, hp⟩ := hP
  have a31 := hA.1.2.2.2
  have c1 : Steps p.tables e below (s₁.setTop (entryFrame m #[.ref b, .int (Int32.ofNat o), .int (Int32.ofNat len)] 6)) (s₁.setTop (mkF m 0 #[.val (.ref b), .val (.int (Int32.ofNat o)), .val (.int (Int32.ofNat len)), .unset, .unset, .unset] [])) := entry rfl
  have c2 : Steps p.tables e below (s₁.setTop (entryFrame m #[.ref b, .int (Int32.ofNat o), .int (Int32.ofNat len)] 6)) (s₁.setTop (mkF m 1 #[.val (.ref b), .val (.int (Int32.ofNat o)), .val (.int (Int32.ofNat len)), .unset, .unset, .unset] [.int (Int32.ofNat len)])) := c1.trans (by
    refine XS.iloadN X0.here hexec rfl (hb hbytes d0) rfl ?_
    exact Steps.refl _)
  obtain ⟨T3, B3, X3, ba3, bs3, bv3, bh3, bf3, st3⟩ := X0.anew hexec (atype := .byte) (wk W (.arrayClass .byte)) rfl (by show len * 1 ≤ _; omega) (by omega) (g := (mkF m 1 #[.val (.ref b), .val (.int (Int32.ofNat o)), .val (.int (Int32.ofNat len)), .unset, .unset, .unset] [.int (Int32.ofNat len)])) rfl (hb hbytes d1) (rest := []) rfl (Nat.le_refl _) (by show 0 + len ≤ len; omega)
  rw [hh0] at ba3 st3
  have kp3 : XT.Kept s T3 := (XT.Kept.of_eq hh0).push bh3
  have hA3 := hA.keep X3.warmed.alike (kp3 _ _ hA.1.1)
  have hne : b ≠ s.heap.size := hA.1.ne
  have c4 : Steps p.tables e below (s₁.setTop (entryFrame m #[.ref b, .int (Int32.ofNat o), .int (Int32.ofNat len)] 6)) (T3.setTop (mkF m 3 #[.val (.ref b), .val (.int (Int32.ofNat o)), .val (.int (Int32.ofNat len)), .unset, .unset, .unset] [.ref s.heap.size])) := c2.trans (st3 _ (Steps.refl _))
  have c5 : Steps p.tables e below (s₁.setTop (entryFrame m #[.ref b, .int (Int32.ofNat o), .int (Int32.ofNat len)] 6)) (T3.setTop (mkF m 9 #[.val (.ref b), .val (.int (Int32.ofNat o)), .val (.int (Int32.ofNat len)), .val (.ref s.heap.size), .unset, .unset] [.int (Int32.ofNat len), .int 0, .ref s.heap.size, .int (Int32.ofNat o), .ref b])) := c4.trans (by
    refine XS.astoreN X3.here hexec rfl (hb hbytes d3) rfl rfl rfl ?_
    refine XS.aloadN X3.here hexec rfl (hb hbytes d4) rfl rfl ?_
    refine XS.iloadN X3.here hexec rfl (hb hbytes d5) rfl ?_
    refine XS.aloadN X3.here hexec rfl (hb hbytes d6) rfl rfl ?_
    refine iconstV X3.here hexec rfl 0 (hb hbytes d7) (by decide) ?_
    refine XS.iloadN X3.here hexec rfl (hb hbytes d8) rfl ?_
    exact Steps.refl _)
  obtain ⟨v6, T6, X6, E6, g6⟩ := X3.callS hexec (Cmp5.law l b A s.heap.size B3 o 0 len) hown (wks W (staticW U16 115 Cmp5.yN)) (wk W Cmp5.tab) (W := 0) (Nat.le_of_ble_eq_true rfl) (Nat.le_of_ble_eq_true rfl) (Nat.le_refl _) (by show 0 + len + 0 ≤ len; omega) (g := (mkF m 9 #[.val (.ref b), .val (.int (Int32.ofNat o)), .val (.int (Int32.ofNat len)), .val (.ref s.heap.size), .unset, .unset] [.int (Int32.ofNat len), .int (Int32.ofNat 0), .ref s.heap.size, .int (Int32.ofNat o), .ref b])) rfl (by rw [hml]; rfl) c5 (argsL := [.ref b, .int (Int32.ofNat o), .ref s.heap.size, .int (Int32.ofNat 0), .int (Int32.ofNat len)]) (rest := []) rfl rfl (by show 2 * 0 + 0 ≤ _; decide) (hb hbytes d9) (⟨rfl, hA3, ba3, hne, l1, by rw [bs3]; simp, hp⟩)
  obtain ⟨rfl, B6, p6, f6⟩ := E6
  have c7 : Steps p.tables e below (s₁.setTop (entryFrame m #[.ref b, .int (Int32.ofNat o), .int (Int32.ofNat len)] 6)) (T6.setTop (mkF m 12 #[.val (.ref b), .val (.int (Int32.ofNat o)), .val (.int (Int32.ofNat len)), .val (.ref s.heap.size), .unset, .unset] [.int (Int32.ofNat len)])) := g6
  have c8 : Steps p.tables e below (s₁.setTop (entryFrame m #[.ref b, .int (Int32.ofNat o), .int (Int32.ofNat len)] 6)) (T6.setTop (mkF m 58 #[.val (.ref b), .val (.int (Int32.ofNat o)), .val (.int (Int32.ofNat len)), .val (.ref s.heap.size), .val (.int (Int32.ofNat len)), .unset] [.ref s.heap.size])) := c7.trans (by
    refine XS.istore X6.here hexec rfl (hb hbytes d12) rfl rfl ?_
    refine XS.iload X6.here hexec rfl (hb hbytes d14) rfl ?_
    refine XS.iloadN X6.here hexec rfl (hb hbytes d16) rfl ?_
    refine XS.icmpYes X6.here hexec rfl (pc0 := 17) rfl (hb hbytes d17) rfl (ii_eq_t rfl) (by decide) rfl ?_
    refine XS.aloadN X6.here hexec rfl (hb hbytes d57) rfl rfl ?_
    exact Steps.refl _)
  have X8 := X6.wide (L' := []) (cells' := 1) (slots' := len) (fun x hx hlt => by
    simp only [List.nil_append, copyLocs, List.mem_map, List.mem_range] at hx
    obtain ⟨i, -, rfl⟩ := hx
    exact absurd hlt (Nat.lt_irrefl _)) (Nat.le_refl _) (by omega)
  exact ⟨T6, some (.ref s.heap.size), _, _, _, X8, rfl, rfl, rfl, (fun h => by cases h), ⟨⟨rfl, B6, ba3.like (X3.warmed.alike.symm.trans X6.warmed.alike) p6.1 f6.1 f6.2.1 f6.2.2.1, f6.2.1.trans bv3, by rw [X6.warmed.alike.findClass, f6.1]; exact bf3, by rw [f6.2.2.1, bs3]; simp, fun j hj => by rw [f6.2.2.2 j, if_pos (by omega)]; rfl, kp3.put p6 (Nat.le_refl _)⟩, by rw [p6.2.2, bh3, hh0]; simp⟩, fun fs hl => c8.trans (X8.areturnOut hexec rfl hret rfl (hb hbytes d58) hl)⟩
end Cmp3
namespace CodL
def yN : MethodName := ⟨"java/lang/StringUTF16", "coderFromArrayLen", "([BI)B"⟩
abbrev yB : ByteArray := jdk_52_method_15_code
theorem d0 : decode yB 0 = .ok (.iload_n 1, 1) := by decide +kernel
theorem d1 : decode yB 1 = .ok (.aload_n 0, 1) := by decide +kernel
theorem d2 : decode yB 2 = .ok (.arraylength, 1) := by decide +kernel
theorem d3 : decode yB 3 = .ok (.isub, 1) := by decide +kernel
theorem d4 : decode yB 4 = .ok (.bipush 31, 2) := by decide +kernel
theorem d6 : decode yB 6 = .ok (.iushr, 1) := by decide +kernel
theorem d7 : decode yB 7 = .ok (.i2b, 1) := by decide +kernel
theorem d8 : decode yB 8 = .ok (.ireturn, 1) := by decide +kernel
def site : List Cond := []
def tab : Cond := tabOf yN yB 2 (some .byte) site
def P (d : Addr) (B : Cell) (args : Array Value) (s : State) : Prop := args = #[.ref d, .int (Int32.ofNat B.slots.size)] ∧ Arr .byte d B s
def E (r : Option Value) (s u : State) : Prop := XT.PureE (some (.int 0)) r s u
/-- an array as long as the number of chars: LATIN1 -/
theorem law (l : Launch) (d : Addr) (B : Cell) : Law l yN 2 2 0 0 yB 2 (some .byte) site (P d B) E [] 0 0 := by
  refine Law.of_walk (plainFor_of_name (by decide +kernel)) (by decide +kernel) (by decide +kernel) (by decide) (fun _ _ h => by rw [h.1]; rfl) (fun _ U U' hal hh h => ⟨h.1, h.2.mv hal hh⟩) (fun r U U' V V' h1 hal h2 h => XT.PureE.mv r U U' V V' h1 hal h2 h) ?_
  intro p e s m args below meth c s₁ X0 hexec hbytes hml hret hlk hnm hown hh0 W hP
  obtain ⟨rfl, hB⟩ := hP
  have hB0 := hB.mv X0.warmed.alike hh0
  have c1 : Steps p.tables e below (s₁.setTop (entryFrame m #[.ref d, .int (Int32.ofNat B.slots.size)] 2)) (s₁.setTop (mkF m 0 #[.val (.ref d), .val (.int (Int32.ofNat B.slots.size))] [])) := entry rfl
  have c2 : Steps p.tables e below (s₁.setTop (entryFrame m #[.ref d, .int (Int32.ofNat B.slots.size)] 2)) (s₁.setTop (mkF m 2 #[.val (.ref d), .val (.int (Int32.ofNat B.slots.size))] [.ref d, .int (Int32.ofNat B.slots.size)])) := c1.trans (by
    refine XS.iloadN X0.here hexec rfl (hb hbytes d0) rfl ?_
    refine XS.aloadN X0.here hexec rfl (hb hbytes d1) rfl rfl ?_
    exact Steps.refl _)
  have c3 : Steps p.tables e below (s₁.setTop (entryFrame m #[.ref d, .int (Int32.ofNat B.slots.size)] 2)) (s₁.setTop (mkF m 8 #[.val (.ref d), .val (.int (Int32.ofNat B.slots.size))] [.int (lo8 (ushr (Int32.ofNat B.slots.size - Int32.ofNat B.slots.size) 31))])) := c2.trans (by
    refine X0.alen hexec hB0 rfl rfl (hb hbytes d2) ?_
    refine XS.isub X0.here hexec rfl (hb hbytes d3) rfl ?_
    refine bipushV X0.here hexec rfl 31 (hb hbytes d4) (by decide) ?_
    refine iushr X0.here hexec rfl (hb hbytes d6) rfl ?_
    refine i2b X0.here hexec rfl (hb hbytes d7) rfl ?_
    exact Steps.refl _)
  have e0 : lo8 (ushr (Int32.ofNat B.slots.size - Int32.ofNat B.slots.size) 31) = 0 := by rw [Int32.sub_self]; decide
  rw [e0] at c3
  exact ⟨s₁, some (.int 0), _, _, _, X0, rfl, rfl, rfl, (fun h => by cases h), ⟨rfl, hh0⟩, fun fs hl => c3.trans (X0.ireturnOut hexec hret rfl (Or.inr (Or.inr (Or.inl rfl))) (hb hbytes d8) hl)⟩
end CodL
/-- the String at a is Latin-1 over a new byte[] (the heap's one new cell): the low bytes of the len chars of A from o on; every cell but a is kept -/
def Got (a : Addr) (D : Cell) (fV fC : Field) (A : Cell) (o len : Nat) (r : Option Value) (s u : State) : Prop := r = none ∧ ∃ D' V : Cell, Blank "java/lang/String" a D' u ∧ Same D D' [fV.slot, fC.slot] ∧ D'.slots[fV.slot]? = some (.ref s.heap.size) ∧ D'.slots[fC.slot]? = some (.int 0) ∧ Arr .byte s.heap.size V u ∧ V.vm = .none ∧ u.vm.findClass "[B" = some V.cls ∧ V.slots.size = len ∧ (∀ j, j < len → V.slots[j]? = some (.int (lo8 (cv A (o + j))))) ∧ (∀ (y : Addr) (c : Cell), y ≠ a → s.heap[y]? = some c → u.heap[y]? = some c) ∧ u.heap.size = s.heap.size + 1
theorem Got.mv {a : Addr} {D A : Cell} {fV fC : Field} {o len : Nat} : ∀ r (U U' V V' : State), U'.heap = U.heap → V.vm.Alike V'.vm → V'.heap = V.heap → Got a D fV fC A o len r U V → Got a D fV fC A o len r U' V' :=
  fun r U U' V V' h1 hal h2 ⟨e0, D', X, a1, a2, a3, a4, a5, a6, a7, a8, a9, a10, a11⟩ => ⟨e0, D', X, a1.mv hal h2, a2, by rw [h1]; exact a3, a4, by rw [h1]; exact a5.mv hal h2, a6, by rw [hal.findClass]; exact a7, a8, a9, by rw [h1, h2]; exact a10, by rw [h1, h2]; exact a11⟩
namespace New4
def yN : MethodName := ⟨"java/lang/String", "<init>", "([CIILjava/lang/Void;)V"⟩
abbrev yB : ByteArray := jdk_42_method_149_code
theorem d0 : decode yB 0 = .ok (.aload_n 0, 1) := by decide +kernel
theorem d1 : decode yB 1 = .ok (.invokespecial 1, 3) := by decide +kernel
theorem d4 : decode yB 4 = .ok (.iload_n 3, 1) := by decide +kernel
theorem d5 : decode yB 5 = .ok (.ifCond (.ne) 22, 3) := by decide +kernel
theorem d27 : decode yB 27 = .ok (.getstatic 38, 3) := by decide +kernel
theorem d30 : decode yB 30 = .ok (.ifCond (.eq) 28, 3) := by decide +kernel
theorem d33 : decode yB 33 = .ok (.aload_n 1, 1) := by decide +kernel
theorem d34 : decode yB 34 = .ok (.iload_n 2, 1) := by decide +kernel
theorem d35 : decode yB 35 = .ok (.iload_n 3, 1) := by decide +kernel
theorem d36 : decode yB 36 = .ok (.invokestatic 177, 3) := by decide +kernel
theorem d39 : decode yB 39 = .ok (.astore 5, 2) := by decide +kernel
theorem d41 : decode yB 41 = .ok (.aload_n 0, 1) := by decide +kernel
theorem d42 : decode yB 42 = .ok (.aload 5, 2) := by decide +kernel
theorem d44 : decode yB 44 = .ok (.iload_n 3, 1) := by decide +kernel
theorem d45 : decode yB 45 = .ok (.invokestatic 47, 3) := by decide +kernel
theorem d48 : decode yB 48 = .ok (.putfield 15, 3) := by decide +kernel
theorem d51 : decode yB 51 = .ok (.aload_n 0, 1) := by decide +kernel
theorem d52 : decode yB 52 = .ok (.aload 5, 2) := by decide +kernel
theorem d54 : decode yB 54 = .ok (.putfield 9, 3) := by decide +kernel
theorem d57 : decode yB 57 = .ok (.return_, 1) := by decide +kernel
def site : List Cond := [.fieldLink "java/lang/String" 38 "java/lang/String" "COMPACT_STRINGS" "Z", Cmp3.tab, CodL.tab, .laysFinal "java/lang/String" "java/lang/String" "value" "[B", .fieldLink "java/lang/String" 9 "java/lang/String" "value" "[B", .laysFinal "java/lang/String" "java/lang/String" "coder" "B", .fieldLink "java/lang/String" 15 "java/lang/String" "coder" "B"] ++ objW "java/lang/String" 1 ++ staticW "java/lang/String" 177 Cmp3.yN ++ staticW "java/lang/String" 47 CodL.yN
def tab : Cond := tabOf yN yB 6 none site
def P (a : Addr) (D : Cell) (fV fC : Field) (b : Addr) (A : Cell) (z : Int32) (o len : Nat) (args : Array Value) (s : State) : Prop := args = #[.ref a, .ref b, .int (Int32.ofNat o), .int (Int32.ofNat len), .null] ∧ Blank "java/lang/String" a D s ∧ Found "java/lang/String" "value" "[B" fV s ∧ Found "java/lang/String" "coder" "B" fC s ∧ Ch b A s ∧ StaticIs s "java/lang/String" "COMPACT_STRINGS" "Z" (.int z) ∧ ¬ z = 0 ∧ 0 < len ∧ o + len ≤ A.slots.size ∧ len ≤ 536870912 ∧ ∀ i, i < len → ¬ 255 < cv A (o + i)
def E (a : Addr) (D : Cell) (fV fC : Field) (A : Cell) (o len : Nat) (r : Option Value) (s u : State) : Prop := Got a D fV fC A o len r s u
/-- len > 0, no char of the range above 255: a Latin-1 String of their low bytes -/
theorem law (l : Launch) (a : Addr) (D : Cell) (fV fC : Field) (b : Addr) (A : Cell) (z : Int32) (o len : Nat) : Law l yN 5 4 2 35 yB 6 none site (P a D fV fC b A z o len) (E a D fV fC A o len) [⟨a, fC.slot⟩, ⟨a, fV.slot⟩] 1 len := by
  refine Law.of_walk (plainFor_of_name (by decide +kernel)) (by decide +kernel) (by decide +kernel) (by decide) (fun _ _ h => by rw [h.1]; rfl) (fun _ U U' hal hh h => ⟨h.1, h.2.1.mv hal hh, h.2.2.1.al hal, h.2.2.2.1.al hal, h.2.2.2.2.1.mv hal hh, h.2.2.2.2.2.1.there hal hh, h.2.2.2.2.2.2⟩) (fun r U U' V V' h1 hal h2 h => Got.mv r U U' V V' h1 hal h2 h) ?_
  intro p e s m args below meth c s₁ X0 hexec hbytes hml hret hlk hnm hown hh0 W hP
  obtain ⟨rfl, hB, f1, f2, hA, s1, hz, l0, l1, l2, hp⟩ := hP
  have a31 := hA.1.2.2.2
  have c1 : Steps p.tables e below (s₁.setTop (entryFrame m #[.ref a, .ref b, .int (Int32.ofNat o), .int (Int32.ofNat len), .null] 6)) (s₁.setTop (mkF m 0 #[.val (.ref a), .val (.ref b), .val (.int (Int32.ofNat o)), .val (.int (Int32.ofNat len)), .val .null, .unset] [])) := entry rfl
  have c2 : Steps p.tables e below (s₁.setTop (entryFrame m #[.ref a, .ref b, .int (Int32.ofNat o), .int (Int32.ofNat len), .null] 6)) (s₁.setTop (mkF m 1 #[.val (.ref a), .val (.ref b), .val (.int (Int32.ofNat o)), .val (.int (Int32.ofNat len)), .val .null, .unset] [.ref a])) := c1.trans (by
    refine XS.aloadN X0.here hexec rfl (hb hbytes d0) rfl rfl ?_
    exact Steps.refl _)
  obtain ⟨T3, X3, q3, st3⟩ := X0.oinit hexec hown (wks W (objW "java/lang/String" 1)) (g := (mkF m 1 #[.val (.ref a), .val (.ref b), .val (.int (Int32.ofNat o)), .val (.int (Int32.ofNat len)), .val .null, .unset] [.ref a])) rfl (by rw [hml]; rfl) (rest := []) rfl (hb hbytes d1) (W := 0) (by show 2 * 0 + 0 ≤ _; decide) (Nat.le_of_ble_eq_true rfl) (Nat.le_of_ble_eq_true rfl)
  have hh3 := q3.trans hh0
  have c4 : Steps p.tables e below (s₁.setTop (entryFrame m #[.ref a, .ref b, .int (Int32.ofNat o), .int (Int32.ofNat len), .null] 6)) (T3.setTop (mkF m 27 #[.val (.ref a), .val (.ref b), .val (.int (Int32.ofNat o)), .val (.int (Int32.ofNat len)), .val .null, .unset] [])) := (c2.trans (st3 _ (Steps.refl _))).trans (by
    refine XS.iloadN X3.here hexec rfl (hb hbytes d4) rfl ?_
    refine XS.ifYes X3.here hexec rfl (pc0 := 5) rfl (hb hbytes d5) rfl (i0_ne_t (nz32 (by omega) l0)) (by decide) rfl ?_
    exact Steps.refl _)
  obtain ⟨T5, X5, q5, st5⟩ := X3.sget hexec hown (wk W (.fieldLink "java/lang/String" 38 "java/lang/String" "COMPACT_STRINGS" "Z")) s1 (fun _ _ h => by rw [hh3]; exact h) (g := (mkF m 27 #[.val (.ref a), .val (.ref b), .val (.int (Int32.ofNat o)), .val (.int (Int32.ofNat len)), .val .null, .unset] [])) rfl (hb hbytes d27)
  have hh5 := q5.trans hh3
  have c6 : Steps p.tables e below (s₁.setTop (entryFrame m #[.ref a, .ref b, .int (Int32.ofNat o), .int (Int32.ofNat len), .null] 6)) (T5.setTop (mkF m 30 #[.val (.ref a), .val (.ref b), .val (.int (Int32.ofNat o)), .val (.int (Int32.ofNat len)), .val .null, .unset] [.int z])) := c4.trans (st5 _ (Steps.refl _))
  have c7 : Steps p.tables e below (s₁.setTop (entryFrame m #[.ref a, .ref b, .int (Int32.ofNat o), .int (Int32.ofNat len), .null] 6)) (T5.setTop (mkF m 36 #[.val (.ref a), .val (.ref b), .val (.int (Int32.ofNat o)), .val (.int (Int32.ofNat len)), .val .null, .unset] [.int (Int32.ofNat len), .int (Int32.ofNat o), .ref b])) := c6.trans (by
    refine XS.ifNo X5.here hexec rfl (hb hbytes d30) rfl (i0_eq_f hz) ?_
    refine XS.aloadN X5.here hexec rfl (hb hbytes d33) rfl rfl ?_
    refine XS.iloadN X5.here hexec rfl (hb hbytes d34) rfl ?_
    refine XS.iloadN X5.here hexec rfl (hb hbytes d35) rfl ?_
    exact Steps.refl _)
  obtain ⟨v8, T8, X8, E8, g8⟩ := X5.callS hexec (Cmp3.law l b A o len) hown (wks W (staticW "java/lang/String" 177 Cmp3.yN)) (wk W Cmp3.tab) (W := 0) (Nat.le_of_ble_eq_true rfl) (Nat.le_of_ble_eq_true rfl) (Nat.le_refl _) (by show 0 + len ≤ len; omega) (g := (mkF m 36 #[.val (.ref a), .val (.ref b), .val (.int (Int32.ofNat o)), .val (.int (Int32.ofNat len)), .val .null, .unset] [.int (Int32.ofNat len), .int (Int32.ofNat o), .ref b])) rfl (by rw [hml]; rfl) c7 (argsL := [.ref b, .int (Int32.ofNat o), .int (Int32.ofNat len)]) (rest := []) rfl rfl (by show 2 * 0 + 0 ≤ _; decide) (hb hbytes d36) (⟨rfl, hA.mv X5.warmed.alike hh5, l1, l2, hp⟩)
  obtain ⟨e8, z8⟩ := E8
  obtain ⟨rfl, N, n1, n2, n3, n4, n5, n6⟩ := NewArr.mv _ T5 s _ _ hh5.symm (Vm.Alike.refl _) rfl e8
  rw [hh5] at z8
  have hB1 := hB.keep X8.warmed.alike (n6 _ _ hB.1)
  have hne : s.heap.size ≠ a := (Nat.ne_of_lt (Array.getElem?_eq_some_iff.mp hB.1).1).symm
  have c9 : Steps p.tables e below (s₁.setTop (entryFrame m #[.ref a, .ref b, .int (Int32.ofNat o), .int (Int32.ofNat len), .null] 6)) (T8.setTop (mkF m 39 #[.val (.ref a), .val (.ref b), .val (.int (Int32.ofNat o)), .val (.int (Int32.ofNat len)), .val .null, .unset] [.ref s.heap.size])) := g8
  have c10 : Steps p.tables e below (s₁.setTop (entryFrame m #[.ref a, .ref b, .int (Int32.ofNat o), .int (Int32.ofNat len), .null] 6)) (T8.setTop (mkF m 45 #[.val (.ref a), .val (.ref b), .val (.int (Int32.ofNat o)), .val (.int (Int32.ofNat len)), .val .null, .val (.ref s.heap.size)] [.int (Int32.ofNat N.slots.size), .ref s.heap.size, .ref a])) := by
    have hc : Steps p.tables e below (s₁.setTop (entryFrame m #[.ref a, .ref b, .int (Int32.ofNat o), .int (Int32.ofNat len), .null] 6)) (T8.setTop (mkF m 45 #[.val (.ref a), .val (.ref b), .val (.int (Int32.ofNat o)), .val (.int (Int32.ofNat len)), .val .null, .val (.ref s.heap.size)] [.int (Int32.ofNat len), .ref s.heap.size, .ref a])) := c9.trans (by
      refine XS.astore X8.here hexec rfl (hb hbytes d39) rfl rfl rfl ?_
      refine XS.aloadN X8.here hexec rfl (hb hbytes d41) rfl rfl ?_
      refine XS.aload X8.here hexec rfl (hb hbytes d42) rfl rfl ?_
      refine XS.iloadN X8.here hexec rfl (hb hbytes d44) rfl ?_
      exact Steps.refl _)
    rw [n4]; exact hc
  obtain ⟨v11, T11, X11, E11, g11⟩ := X8.callS hexec (CodL.law l s.heap.size N) hown (wks W (staticW "java/lang/String" 47 CodL.yN)) (wk W CodL.tab) (W := 1) (Nat.le_of_ble_eq_true rfl) (Nat.le_of_ble_eq_true rfl) (Nat.le_refl _) (by show 0 + len + 0 ≤ len; omega) (g := (mkF m 45 #[.val (.ref a), .val (.ref b), .val (.int (Int32.ofNat o)), .val (.int (Int32.ofNat len)), .val .null, .val (.ref s.heap.size)] [.int (Int32.ofNat N.slots.size), .ref s.heap.size, .ref a])) rfl (by rw [hml]; rfl) c10 (argsL := [.ref s.heap.size, .int (Int32.ofNat N.slots.size)]) (rest := [.ref a]) rfl rfl (by show 2 * 0 + (1 + 0) ≤ _; decide) (hb hbytes d45) (⟨rfl, n1⟩)
  obtain ⟨rfl, q11⟩ := E11
  have hB11 := hB1.mv (X8.warmed.alike.symm.trans X11.warmed.alike) q11
  have c12 : Steps p.tables e below (s₁.setTop (entryFrame m #[.ref a, .ref b, .int (Int32.ofNat o), .int (Int32.ofNat len), .null] 6)) (T11.setTop (mkF m 48 #[.val (.ref a), .val (.ref b), .val (.int (Int32.ofNat o)), .val (.int (Int32.ofNat len)), .val .null, .val (.ref s.heap.size)] [.int 0, .ref a])) := g11
  obtain ⟨T13, X13, p13, bl13, sl13, st13⟩ := X11.finit hexec hown (wk W (.fieldLink "java/lang/String" 15 "java/lang/String" "coder" "B")) (Or.inr ⟨_, (wk W (.laysFinal "java/lang/String" "java/lang/String" "coder" "B"))⟩) (Or.inl ⟨rfl, hnm⟩) f2 (Or.inl rfl) hB11 (t := .byte) (by decide +kernel) rfl (g := (mkF m 48 #[.val (.ref a), .val (.ref b), .val (.int (Int32.ofNat o)), .val (.int (Int32.ofNat len)), .val .null, .val (.ref s.heap.size)] [.int 0, .ref a])) rfl (rest := []) rfl (hb hbytes d48)
  have c14 : Steps p.tables e below (s₁.setTop (entryFrame m #[.ref a, .ref b, .int (Int32.ofNat o), .int (Int32.ofNat len), .null] 6)) (T13.setTop (mkF m 54 #[.val (.ref a), .val (.ref b), .val (.int (Int32.ofNat o)), .val (.int (Int32.ofNat len)), .val .null, .val (.ref s.heap.size)] [.ref s.heap.size, .ref a])) := (c12.trans (st13 _ (Steps.refl _))).trans (by
    refine XS.aloadN X13.here hexec rfl (hb hbytes d51) rfl rfl ?_
    refine XS.aload X13.here hexec rfl (hb hbytes d52) rfl rfl ?_
    exact Steps.refl _)
  obtain ⟨T15, X15, p15, bl15, sl15, st15⟩ := X13.finit hexec hown (wk W (.fieldLink "java/lang/String" 9 "java/lang/String" "value" "[B")) (Or.inr ⟨_, (wk W (.laysFinal "java/lang/String" "java/lang/String" "value" "[B"))⟩) (Or.inl ⟨rfl, hnm⟩) f1 (Or.inl rfl) bl13 (t := (.array .byte)) (by decide +kernel) rfl (g := (mkF m 54 #[.val (.ref a), .val (.ref b), .val (.int (Int32.ofNat o)), .val (.int (Int32.ofNat len)), .val .null, .val (.ref s.heap.size)] [.ref s.heap.size, .ref a])) rfl (rest := []) rfl (hb hbytes d54)
  have c16 : Steps p.tables e below (s₁.setTop (entryFrame m #[.ref a, .ref b, .int (Int32.ofNat o), .int (Int32.ofNat len), .null] 6)) (T15.setTop (mkF m 57 #[.val (.ref a), .val (.ref b), .val (.int (Int32.ofNat o)), .val (.int (Int32.ofNat len)), .val .null, .val (.ref s.heap.size)] [])) := c14.trans (st15 _ (Steps.refl _))
  have ap := apart (Or.inr ⟨_, (wk W (.laysFinal "java/lang/String" "java/lang/String" "value" "[B"))⟩) (Or.inr ⟨_, (wk W (.laysFinal "java/lang/String" "java/lang/String" "coder" "B"))⟩) f1 f2 (t₁ := .array .byte) (t₂ := .byte) (by decide +kernel) (by decide +kernel) (by decide)
  have al := X8.warmed.alike.symm.trans X15.warmed.alike
  have n7 : T11.heap[s.heap.size]? = some N := by rw [q11]; exact n1.1
  exact ⟨T15, none, _, _, _, X15, by simp, rfl, by omega, (fun _ => rfl), ⟨rfl, _, N, bl15, ((Same.refl D _).set _ (by simp)).set _ (by simp), sl15, (Cell.slots_setSlot_ne _ ap).trans sl13, n1.keep al (p15.other hne (p13.other hne n7)), n2, by rw [al.findClass]; exact n3, n4, n5, fun y c h1 h2 => p15.other h1 (p13.other h1 (by rw [q11]; exact n6 y c h2)), by rw [p15.2.2, p13.2.2, q11]; exact z8⟩, fun fs hl => c16.trans (X15.returnOut hexec hret (hb hbytes d57) hl)⟩
end New4
namespace New1
def yN : MethodName := ⟨"java/lang/String", "<init>", "([C)V"⟩
abbrev yB : ByteArray := jdk_42_method_3_code
theorem d0 : decode yB 0 = .ok (.aload_n 0, 1) := by decide +kernel
theorem d1 : decode yB 1 = .ok (.aload_n 1, 1) := by decide +kernel
theorem d2 : decode yB 2 = .ok (.iconst 0, 1) := by decide +kernel
theorem d3 : decode yB 3 = .ok (.aload_n 1, 1) := by decide +kernel
theorem d4 : decode yB 4 = .ok (.arraylength, 1) := by decide +kernel
theorem d5 : decode yB 5 = .ok (.aconst_null, 1) := by decide +kernel
theorem d6 : decode yB 6 = .ok (.invokespecial 27, 3) := by decide +kernel
theorem d9 : decode yB 9 = .ok (.return_, 1) := by decide +kernel
def site : List Cond := [New4.tab] ++ initW "java/lang/String" 27 New4.yN
def tab : Cond := tabOf yN yB 2 none site
def P (a : Addr) (D : Cell) (fV fC : Field) (b : Addr) (A : Cell) (z : Int32) (args : Array Value) (s : State) : Prop := args = #[.ref a, .ref b] ∧ Blank "java/lang/String" a D s ∧ Found "java/lang/String" "value" "[B" fV s ∧ Found "java/lang/String" "coder" "B" fC s ∧ Ch b A s ∧ StaticIs s "java/lang/String" "COMPACT_STRINGS" "Z" (.int z) ∧ ¬ z = 0 ∧ 0 < A.slots.size ∧ A.slots.size ≤ 536870912 ∧ ∀ i, i < A.slots.size → ¬ 255 < cv A i
def E (a : Addr) (D : Cell) (fV fC : Field) (A : Cell) (r : Option Value) (s u : State) : Prop := Got a D fV fC A 0 A.slots.size r s u
/-- new String(chars), not empty, no char above 255: a Latin-1 String of their low bytes -/
theorem law (l : Launch) (a : Addr) (D : Cell) (fV fC : Field) (b : Addr) (A : Cell) (z : Int32) : Law l yN 2 1 3 52 yB 2 none site (P a D fV fC b A z) (E a D fV fC A) [⟨a, fC.slot⟩, ⟨a, fV.slot⟩] 1 A.slots.size := by
  refine Law.of_walk (plainFor_of_name (by decide +kernel)) (by decide +kernel) (by decide +kernel) (by decide) (fun _ _ h => by rw [h.1]; rfl) (fun _ U U' hal hh h => ⟨h.1, h.2.1.mv hal hh, h.2.2.1.al hal, h.2.2.2.1.al hal, h.2.2.2.2.1.mv hal hh, h.2.2.2.2.2.1.there hal hh, h.2.2.2.2.2.2⟩) (fun r U U' V V' h1 hal h2 h => Got.mv r U U' V V' h1 hal h2 h) ?_
  intro p e s m args below meth c s₁ X0 hexec hbytes hml hret hlk hnm hown hh0 W hP
  obtain ⟨rfl, hB, f1, f2, hA, s1, hz, l0, l2, hp⟩ := hP
  have c1 : Steps p.tables e below (s₁.setTop (entryFrame m #[.ref a, .ref b] 2)) (s₁.setTop (mkF m 0 #[.val (.ref a), .val (.ref b)] [])) := entry rfl
  have c2 : Steps p.tables e below (s₁.setTop (entryFrame m #[.ref a, .ref b] 2)) (s₁.setTop (mkF m 6 #[.val (.ref a), .val (.ref b)] [.null, .int (Int32.ofNat A.slots.size), .int 0, .ref b, .ref a])) := c1.trans (by
    refine XS.aloadN X0.here hexec rfl (hb hbytes d0) rfl rfl ?_
    refine XS.aloadN X0.here hexec rfl (hb hbytes d1) rfl rfl ?_
    refine iconstV X0.here hexec rfl 0 (hb hbytes d2) (by decide) ?_
    refine XS.aloadN X0.here hexec rfl (hb hbytes d3) rfl rfl ?_
    refine X0.alen hexec (hA.1.mv X0.warmed.alike hh0) rfl rfl (hb hbytes d4) ?_
    refine XS.aconstNull X0.here hexec rfl (hb hbytes d5) ?_
    exact Steps.refl _)
  obtain ⟨v3, T3, X3, E3, g3⟩ := X0.callN hexec (New4.law l a D fV fC b A z 0 A.slots.size) rfl hown (wks W (initW "java/lang/String" 27 New4.yN)) (W New4.tab (by simp only [site, List.mem_cons, List.mem_append, true_or, or_true])) (W := 0) (Nat.le_of_ble_eq_true rfl) (Nat.le_of_ble_eq_true rfl) (Nat.le_refl _) (by show 0 + A.slots.size ≤ A.slots.size; omega) (g := (mkF m 6 #[.val (.ref a), .val (.ref b)] [.null, .int (Int32.ofNat A.slots.size), .int (Int32.ofNat 0), .ref b, .ref a])) rfl (by rw [hml]; rfl) c2 (argsL := [.ref b, .int (Int32.ofNat 0), .int (Int32.ofNat A.slots.size), .null]) (rest := []) rfl rfl (by show 2 * 0 + 0 ≤ _; decide) (hb hbytes d6) (⟨rfl, hB.mv X0.warmed.alike hh0, f1.al X0.warmed.alike, f2.al X0.warmed.alike, hA.mv X0.warmed.alike hh0, s1.there X0.warmed.alike hh0, hz, l0, by omega, l2, fun i hi => by rw [Nat.zero_add]; exact hp i hi⟩)
  have e0 := Got.mv _ s₁ s _ _ hh0.symm (Vm.Alike.refl _) rfl E3
  obtain rfl := e0.1
  have c4 : Steps p.tables e below (s₁.setTop (entryFrame m #[.ref a, .ref b] 2)) (T3.setTop (mkF m 9 #[.val (.ref a), .val (.ref b)] [])) := g3
  exact ⟨T3, none, _, _, _, X3, by simp, rfl, by omega, (fun _ => rfl), e0, fun fs hl => c4.trans (X3.returnOut hexec hret (hb hbytes d9) hl)⟩
theorem pays {l : Launch} {R : Room} {p : Program} {e : Env} {below : List Frame} {s : State} {sargs : Array Value} {len W : Nat} (a : Addr) (D : Cell) (fV fC : Field) (b : Addr) (A : Cell) (z : Int32) (htab : tab.before sargs s = true) (hfr : 4 ≤ R.frames) (hlo : W + 65 ≤ R.locals) :
    Back l R p e below s sargs yN len W (fun A₁ a₁ => A₁.cells + 1 ≤ R.cells ∧ A₁.slots + A.slots.size ≤ R.slots ∧ P a D fV fC b A z a₁ A₁.U) (fun A₁ _ v₁ B₁ => E a D fV fC A v₁ A₁.U B₁.U ∧ B₁.locs = A₁.locs ++ [⟨a, fC.slot⟩, ⟨a, fV.slot⟩] ∧ B₁.cells = A₁.cells + 1 ∧ B₁.slots = A₁.slots + A.slots.size) :=
  (law l a D fV fC b A z).pays htab hfr (by omega)
end New1
/-- the byte, read back as charAt reads it, is the char -/
theorem lo8_mask {x : Int32} (h0 : ¬ x < 0) (h1 : ¬ 255 < x) : lo8 x &&& 255 = x := by
  have t : ∀ k : Fin 256, lo8 (Int32.ofNat k.val) &&& 255 = Int32.ofNat k.val := by decide +kernel
  rw [Int32.lt_iff_toInt_lt] at h0 h1
  have e0 : (0 : Int32).toInt = 0 := rfl
  have e1 : (255 : Int32).toInt = 255 := rfl
  obtain ⟨k, hk⟩ : ∃ k : Nat, x.toInt = k := ⟨x.toInt.toNat, by omega⟩
  have hx : x = Int32.ofNat k := Int32.toInt_inj.mp (by rw [hk, Int32.toInt_ofNat_small (by omega)])
  rw [hx]
  exact t ⟨k, by omega⟩
end StrChars
namespace StrChars.Road
open Jvm Sem ClassFile Op Lib Jvm.Stand Jvm.Free Jvm.Free.XT
open Jvm.Lib.Cold (StaticIs)
abbrev ST : String := "java/lang/String"
/-- every table word that New1's law asks, flat -/
abbrev words : List Jvm.Cond := [.code New1.yN New1.yB 2 none, .initialized ST, .methodLink ST 27 New4.yN, .instanceMethod New4.yN,
  .code New4.yN New4.yB 6 none, .fieldLink ST 38 ST "COMPACT_STRINGS" "Z", .laysFinal ST ST "value" "[B", .fieldLink ST 9 ST "value" "[B", .laysFinal ST ST "coder" "B", .fieldLink ST 15 ST "coder" "B",
  .methodLink ST 1 Lib.objectInit, .instanceMethod Lib.objectInit, .code Lib.objectInit ⟨#[0xb1]⟩ 1 none, .methodLink ST 177 Cmp3.yN, .static Cmp3.yN, .methodLink ST 47 CodL.yN, .static CodL.yN,
  .code Cmp3.yN Cmp3.yB 6 (some (.array .byte)), .initialized U16, .arrayClass .byte, .methodLink U16 115 Cmp5.yN, .static Cmp5.yN, .code Cmp5.yN Cmp5.yB 7 (some .int), .code CodL.yN CodL.yB 2 (some .byte)]
theorem tab_of {a : Array Value} {s : State} (h : ∀ w ∈ words, w.before a s = true) : New1.tab.before a s = true := by
  have h5 : Cmp5.tab.before a s = true := unparts (wk h (.code Cmp5.yN Cmp5.yB 7 (some .int))) (wks h (.initialized Cmp5.yN.cls :: Cmp5.site))
  have hc : CodL.tab.before a s = true := unparts (wk h (.code CodL.yN CodL.yB 2 (some .byte))) (wks h (.initialized CodL.yN.cls :: CodL.site))
  have q5 : ∀ w ∈ Cmp5.tab :: words, w.before a s = true := fun w hw => (List.mem_cons.mp hw).elim (fun e => e ▸ h5) (h w)
  have h3 : Cmp3.tab.before a s = true := unparts (wk q5 (.code Cmp3.yN Cmp3.yB 6 (some (.array .byte)))) (wks q5 (.initialized Cmp3.yN.cls :: Cmp3.site))
  have q3 : ∀ w ∈ Cmp3.tab :: CodL.tab :: words, w.before a s = true := fun w hw => (List.mem_cons.mp hw).elim (fun e => e ▸ h3) fun hw => (List.mem_cons.mp hw).elim (fun e => e ▸ hc) (h w)
  have h4 : New4.tab.before a s = true := unparts (wk q3 (.code New4.yN New4.yB 6 none)) (wks q3 (.initialized New4.yN.cls :: New4.site))
  have q4 : ∀ w ∈ New4.tab :: words, w.before a s = true := fun w hw => (List.mem_cons.mp hw).elim (fun e => e ▸ h4) (h w)
  exact unparts (wk q4 (.code New1.yN New1.yB 2 none)) (wks q4 (.initialized New1.yN.cls :: New1.site))
/-- the words ride from the start Z to the walk's own state -/
theorem moved {Z s : State} {a0 args : Array Value} (hZ : Z.Warmed39 s.vm) (hw : ∀ d ∈ words, d.before a0 Z = true) : ∀ d ∈ words, d.before args s = true := fun d hd => by
  have q := hw d hd
  have t : ∀ d ∈ words, d = .arrayClass .byte ∨ (d.onTables && d.keepsFace) = true := by decide +kernel
  rcases t d hd with rfl | t
  · exact RoadKit.mvA hZ q
  · exact RoadKit.mv hZ q t
/-- WHAT COMES BACK, over the tables of the start Z: h the heap at the call, h' behind it -/
def Q (Z : State) (x : Addr) (A : Cell) (h : Heap) (v : Option Value) (h' : Heap) (L : List Loc) : Prop := v = none ∧ (∀ y ∈ L, y.base = x) ∧ RoadKit.Keep h h' [x] ∧ h'.size = h.size + 1 ∧ RoadKit.Exa Z h' x ST ∧ RoadKit.Fld Z h' x ST "value" "[B" (.ref h.size) ∧ RoadKit.Fld Z h' x ST "coder" "B" (.int 0) ∧
  (∃ V : Cell, RoadKit.Arr Z h' h.size V .byte ∧ V.vm = .none ∧ Z.vm.findClass "[B" = some V.cls ∧ V.slots.size = A.slots.size ∧ ∀ j, j < A.slots.size → V.slots[j]? = some (.int (lo8 (cv A j)))) ∧
  ∀ (O n d : String) (w : Value), RoadKit.Fld Z h x O n d w → RoadKit.slotOf Z O n d ≠ RoadKit.slotOf Z ST "value" "[B" → RoadKit.slotOf Z O n d ≠ RoadKit.slotOf Z ST "coder" "B" → RoadKit.Fld Z h' x O n d w
/-- **new String(chars) AT A CALL, IN THE ROAD'S FORM**: for specialBack behind newO: x the fresh String, b the char[] with the cell A -/
theorem back {p : Program} {l : Launch} {e : Env} {R : Room} {s : State} {args : Array Value} {below : List Frame} {len W : Nat} {Z : State} {a0 : Array Value} {h : Heap} (hZ : Z.Warmed39 s.vm) (hw : ∀ d ∈ words, d.before a0 Z = true) {kI : Nat} (wi : (Jvm.Cond.instantiable ST kI).before a0 Z = true)
    {x b : Addr} {A : Cell} {z : Int32} {v0 c0 : Value} (E : RoadKit.Exa Z h x ST) (V : RoadKit.Fld Z h x ST "value" "[B" v0) (C : RoadKit.Fld Z h x ST "coder" "B" c0) (K : RoadKit.Arr Z h b A .char) (hty : Typed .char A) (S : RoadKit.Sta Z h ST "COMPACT_STRINGS" "Z" (.int z)) (hz : ¬ z = 0)
    (l0 : 0 < A.slots.size) (l2 : A.slots.size ≤ 536870912) (hp : ∀ i, i < A.slots.size → ¬ 255 < cv A i) (hfr : 4 ≤ R.frames) (hlo : W + 65 ≤ R.locals) :
    Back l R p e below s args New1.yN len W (fun P a => a = #[.ref x, .ref b] ∧ P.U.heap = h ∧ P.cells + 1 ≤ R.cells ∧ P.slots + A.slots.size ≤ R.slots)
      (fun P _ v B => ∃ L, Q Z x A h v B.U.heap L ∧ B.locs = P.locs ++ L ∧ B.cells = P.cells + 1 ∧ B.slots = P.slots + A.slots.size) := by
  intro m meth c P g ig mk a X hg hsize hdg hW hn hp'
  obtain ⟨rfl, rfl, r1, r2⟩ := hp'
  have al : Z.vm.Alike P.U.vm := hZ.alike.trans X.warmed.alike
  obtain ⟨D, cfV, kV, iV, fV, hD, gV, stV, knV, obV, asV, slV⟩ := id V
  obtain ⟨D', cfC, kC, iC, fC, hD', gC, stC, -, -, asC, slC⟩ := id C
  cases hD.symm.trans hD'
  obtain ⟨D2, kD, e1, e2, e3, e4, e5⟩ := id E
  cases hD.symm.trans e1
  obtain ⟨c2, k2, i1, i2, i3, -⟩ := Cond.instantiable_spec wi
  cases e2.symm.trans i1
  cases e3.symm.trans i2
  obtain ⟨kU, u1, u2⟩ := al.2.2 _ _ e3
  have hB : Blank ST x D P.U := ⟨hD, ⟨knV, fun q hq => by rw [hq] at obV; cases obV⟩, by rw [al.findClass]; exact e2, kU, u1, by rw [u2]; exact i3, by rw [u2]; exact e5 i3⟩
  have F1 : Found ST "value" "[B" fV P.U := ⟨SBG.found_only al ⟨cfV, kV, iV, gV⟩, stV⟩
  have F2 : Found ST "coder" "B" fC P.U := ⟨SBG.found_only al ⟨cfC, kC, iC, gC⟩, stC⟩
  have hA : Ch b A P.U := ⟨⟨K.1, State.isArrayOf_alike al K.2.1, K.2.2, by omega⟩, hty⟩
  have hS : StaticIs P.U ST "COMPACT_STRINGS" "Z" (.int z) := by
    obtain ⟨cfS, iS, kS, fS, st, cS, t1, t2, t3, t4, t5, t6, t7⟩ := S
    exact StaticIs.there (s := { Z with heap := P.U.heap }) ⟨cfS, iS, kS, fS, st, cS, t1, t2, t3, t4, t5, (fun q => by rw [q] at t6; cases t6), t7⟩ al rfl
  obtain ⟨v, B, X', ⟨⟨hv, E', V', q1, q2, q3, q4, q5, q6, q7, q8, q9, q10, q11⟩, hl, hc, hs⟩, st⟩ := New1.pays x D fV fC b A z (tab_of (moved hZ hw)) hfr hlo m meth c P g ig mk _ X hg hsize hdg hW hn ⟨r1, r2, rfl, hB, F1, F2, hA, hS, hz, l0, l2, hp⟩
  have al' : Z.vm.Alike B.U.vm := hZ.alike.trans X'.warmed.alike
  have hsz : E'.slots.size = D.slots.size := by
    obtain ⟨-, -, -, kB, w1, w2, w3⟩ := q1
    obtain ⟨kB', y1, y2⟩ := al'.2.2 _ _ e3
    rw [q2.2.1] at w1
    cases w1.symm.trans y1
    rw [w3, e5 i3, y2]
  refine ⟨v, B, X', ⟨_, ⟨hv, ?_, ⟨by omega, fun y cy hy hn' => q10 y cy (by simpa using hn') hy, fun y cy hy => ?_⟩, q11, ⟨E', _, q1.1, by rw [q2.2.1]; exact e2, by rw [q2.2.1]; exact e3, by rw [q2.1]; exact obV, fun _ => by rw [hsz]; exact e5 i3⟩,
    ⟨E', cfV, kV, iV, fV, q1.1, gV, stV, by rw [q2.1]; exact knV, by rw [q2.1]; exact obV, by rw [q2.2.1]; exact asV, q3⟩, ⟨E', cfC, kC, iC, fC, q1.1, gC, stC, by rw [q2.1]; exact knV, by rw [q2.1]; exact obV, by rw [q2.2.1]; exact asC, q4⟩,
    ⟨V', ⟨q5.1, State.isArrayOf_alike al'.symm q5.2.1, q5.2.2.1⟩, q6, by rw [← al'.findClass]; exact q7, q8, fun j hj => by have := q9 j hj; rwa [Nat.zero_add] at this⟩, fun O n d w F n1 n2 => ?_⟩, hl, hc, hs⟩, st⟩
  · intro y hy
    simp only [List.mem_cons, List.not_mem_nil, or_false] at hy
    rcases hy with rfl | rfl <;> rfl
  · by_cases q : y = x
    · subst q
      cases hD.symm.trans hy
      exact ⟨E', q1.1, q2.2.1, q2.1, hsz⟩
    · exact ⟨cy, q10 y cy q hy, rfl, rfl, rfl⟩
  · obtain ⟨D3, cf, k, i, f, g1, g2, g3, g4, g5, g6, g7⟩ := F
    cases hD.symm.trans g1
    simp only [RoadKit.slotOf, g2, gV, gC, Option.map_some, Option.getD_some] at n1 n2
    exact ⟨E', cf, k, i, f, q1.1, g2, g3, by rw [q2.1]; exact g4, by rw [q2.1]; exact g5, by rw [q2.2.1]; exact g6, by rw [q2.2.2 f.slot (by simp [n1, n2])]; exact g7⟩
end StrChars.Road
namespace StrChars.Road
open Jvm Sem ClassFile Op Lib Jvm.Stand Jvm.Free Jvm.Free.XT
/-- WHAT COMES BACK, the byte[] as a list of values -/
def QA (Z : State) (x : Addr) (zn : Int32) (cs : List Int32) (h : Heap) (v : Option Value) (h' : Heap) (L : List Loc) : Prop := v = none ∧ (∀ y ∈ L, y.base = x) ∧ RoadKit.Keep h h' [x] ∧ h'.size = h.size + 1 ∧ RoadKit.Exa Z h' x ST ∧ RoadKit.Fld Z h' x ST "value" "[B" (.ref h.size) ∧ RoadKit.Fld Z h' x ST "coder" "B" (.int 0) ∧
  (∃ kb, Z.vm.findClass "[B" = some kb ∧ RoadKit.Arv Z h' h.size kb .byte zn (cs.map fun c => .int (lo8 c)) (.int 0)) ∧
  ∀ (O n d : String) (w : Value), RoadKit.Fld Z h x O n d w → RoadKit.slotOf Z O n d ≠ RoadKit.slotOf Z ST "value" "[B" → RoadKit.slotOf Z O n d ≠ RoadKit.slotOf Z ST "coder" "B" → RoadKit.Fld Z h' x O n d w
/-- **new String(chars) AT A CALL, THE ARRAYS AS LISTS**: the char[] at b holds cs, not empty, no char above 255 -/
theorem backArv {p : Program} {l : Launch} {e : Env} {R : Room} {s : State} {args : Array Value} {below : List Frame} {len W : Nat} {Z : State} {a0 : Array Value} {h : Heap} (hZ : Z.Warmed39 s.vm) (hw : ∀ d ∈ words, d.before a0 Z = true) {kI : Nat} (wi : (Jvm.Cond.instantiable ST kI).before a0 Z = true)
    {x b : Addr} {k : ClassId} {zn z : Int32} {cs : List Int32} {dv v0 c0 : Value} (E : RoadKit.Exa Z h x ST) (V : RoadKit.Fld Z h x ST "value" "[B" v0) (C : RoadKit.Fld Z h x ST "coder" "B" c0) (K : RoadKit.Arv Z h b k .char zn (cs.map Value.int) dv) (S : RoadKit.Sta Z h ST "COMPACT_STRINGS" "Z" (.int z)) (hz : ¬ z = 0)
    (hlen : zn.toNatClampNeg = cs.length) (h0 : 0 < cs.length) (hbig : cs.length ≤ 536870912) (hall : ∀ c ∈ cs, ¬ 255 < c) (hfr : 4 ≤ R.frames) (hlo : W + 65 ≤ R.locals) :
    Back l R p e below s args New1.yN len W (fun P a => a = #[.ref x, .ref b] ∧ P.U.heap = h ∧ P.cells + 1 ≤ R.cells ∧ P.slots + cs.length ≤ R.slots)
      (fun P _ v B => ∃ L, QA Z x zn cs h v B.U.heap L ∧ B.locs = P.locs ++ L ∧ B.cells = P.cells + 1 ∧ B.slots = P.slots + cs.length) := by
  obtain ⟨A, K1, K2, K3, K4, K5, K6⟩ := K
  have e : A.slots.size = cs.length := K3.trans hlen
  have hat : ∀ (i : Nat) (hi : i < cs.length), A.slots[i]? = some (.int cs[i]) := fun i hi => by rw [K5 i (by omega)]; simp [List.getD_eq_getElem?_getD, hi]
  have hcv : ∀ (i : Nat) (hi : i < cs.length), cv A i = cs[i] := fun i hi => by unfold cv; rw [hat i hi]
  have hty : Typed .char A := fun i v hv => by
    have hi : i < A.slots.size := (Array.getElem?_eq_some_iff.mp hv).1
    have q := K5 i hi
    rw [hv] at q
    rw [Option.some.inj q]
    exact K6 i hi
  refine Back.mono (back hZ hw wi E V C K1 hty S hz (by omega) (by omega) (fun i hi => by rw [hcv i (by omega)]; exact hall _ (List.getElem_mem _)) hfr hlo) (fun P a hp => ⟨hp.1, hp.2.1, hp.2.2.1, by rw [e]; exact hp.2.2.2⟩) (fun P a v B hp hq => ?_)
  obtain ⟨L, ⟨q1, q2, q3, q4, q5, q6, q7, ⟨V', v1, v2, v3, v4, v5⟩, q9⟩, hl, hc, hs⟩ := hq
  refine ⟨L, ⟨q1, q2, q3, q4, q5, q6, q7, ⟨V'.cls, v3, V', v1, rfl, by rw [v4, e, hlen], K4, fun i hi => ?_, fun i hi => ?_⟩, q9⟩, hl, hc, by rw [hs, e]⟩
  · have hi' : i < cs.length := by omega
    rw [v5 i (by omega), hcv i hi']; simp [List.getD_eq_getElem?_getD, hi']
  · have hi' : i < cs.length := by omega
    simp only [List.getD_eq_getElem?_getD, List.getElem?_map, List.getElem?_eq_getElem hi', Option.map_some, Option.getD_some]
    exact fits_lo8 _
end StrChars.Road
namespace StrChars.Road
open Jvm Sem ClassFile Op Lib Jvm.Stand Jvm.Free Jvm.Free.XT
/-- WHAT COMES BACK, in the writer's own shape -/
def QV (Z : State) (x : Addr) (N : Int32) (bs : List Int32) (h : Heap) (n0 : Nat) (v : Option Value) (h' : Heap) (L : List Loc) : Prop := v = none ∧ RoadKit.Fr n0 L ∧ RoadKit.Keep h h' [x] ∧ RoadKit.Exa Z h' x ST ∧ RoadKit.Fld Z h' x ST "coder" "B" (.int 0) ∧
  ∃ (t : Addr) (kb : ClassId), n0 ≤ t ∧ h.size ≤ t ∧ ¬ t = x ∧ RoadKit.Fld Z h' x ST "value" "[B" (.ref t) ∧ RoadKit.Arv Z h' t kb .byte N (bs.map Value.int) (.int 0)
/-- **new String(chars) AT A CALL, FOR THE WRITER**: a char[] of n known ints, each 0 to 255 -/
theorem backV {p : Program} {l : Launch} {e : Env} {R : Room} {s : State} {args : Array Value} {below : List Frame} {len W : Nat} {Z : State} {a0 : Array Value} {h : Heap} (hZ : Z.Warmed39 s.vm) (hw : ∀ d ∈ words, d.before a0 Z = true) {kI : Nat} (wi : (Jvm.Cond.instantiable ST kI).before a0 Z = true)
    {x b : Addr} {kC : ClassId} {cs bs : List Int32} {d v0 c0 : Value} {z N : Int32} {n n0 : Nat} (hx0 : n0 ≤ x) (hh0 : n0 ≤ h.size) (E : RoadKit.Exa Z h x ST) (V : RoadKit.Fld Z h x ST "value" "[B" v0) (C : RoadKit.Fld Z h x ST "coder" "B" c0) (K : RoadKit.Arv Z h b kC .char N (cs.map Value.int) d) (S : RoadKit.Sta Z h ST "COMPACT_STRINGS" "Z" (.int z)) (hz : ¬ z = 0)
    (hn : cs.length = n) (hN : N = Int32.ofNat n) (l0 : 0 < n) (l2 : n ≤ 4000) (hp : ∀ c ∈ cs, ¬ c < 0 ∧ ¬ (255 : Int32) < c) (hb : bs = cs.map (fun c => c.toInt8.toInt32)) (hfr : 4 ≤ R.frames) (hlo : W + 65 ≤ R.locals) :
    Back l R p e below s args (⟨"java/lang/String", "<init>", "([C)V"⟩ : MethodName) len W (fun P a => a = #[.ref x, .ref b] ∧ P.U.heap = h ∧ P.cells + 1 ≤ R.cells ∧ P.slots + n ≤ R.slots)
      (fun P _ v B => ∃ L, QV Z x N bs h n0 v B.U.heap L ∧ B.locs = P.locs ++ L ∧ B.cells = P.cells + 1 ∧ B.slots = P.slots + n) := by
  subst hn hN hb
  refine Back.mono (backArv hZ hw wi E V C K S hz (n32 (by omega)) l0 (by omega) (fun c hc => (hp c hc).2) hfr hlo) (fun P a hp => hp) (fun P a v B hp hq => ?_)
  obtain ⟨L, ⟨q1, q2, q3, q4, q5, q6, q7, ⟨kb, v1, v2⟩, q9⟩, hl, hc, hs⟩ := hq
  exact ⟨L, ⟨q1, fun y hy => by rw [q2 y hy]; exact hx0, q3, q5, q7, h.size, kb, hh0, Nat.le_refl _, Nat.ne_of_gt E.lt, q6, by rw [List.map_map]; exact v2⟩, hl, hc, hs⟩
end StrChars.Road
namespace StrChars
open Jvm Sem ClassFile Op Lib Jvm.Stand Jvm.Free.XT Jvm.Free.ALB Jvm.Free.JM Jvm.Free
open Jvm.Lib.Cold (StaticIs)
def hi8 (x : Int32) : Int32 := lo8 (x >>> ((8 : Int32) &&& 31))
/-- what StringUTF16.getChar makes of two bytes -/
def pairCh (u v : Int32) : Int32 := (((u &&& 255) <<< ((0 : Int32) &&& 31)) ||| ((v &&& 255) <<< ((8 : Int32) &&& 31))).toUInt32.toUInt16.toUInt32.toInt32
theorem shr0 (c : Int32) : c >>> ((0 : Int32) &&& 31) = c := by
  have e : ((0 : Int32) &&& 31) = 0 := by decide
  rw [e]
  apply Int32.toBitVec_inj.mp
  rw [Int32.toBitVec_shiftRight]
  have e1 : ((0 : Int32).toBitVec.smod 32) = 0#32 := by decide
  rw [e1, BitVec.sshiftRight_eq']
  exact BitVec.sshiftRight_zero
theorem lo8_and (x : Int32) : (lo8 x &&& 255).toBitVec.toNat = x.toBitVec.toNat % 256 := by
  have h : (lo8 x).toBitVec = (x.toBitVec.signExtend 8).signExtend 32 := by rw [lo8, Int8.toBitVec_toInt32, Int32.toBitVec_toInt8]
  rw [Int32.toBitVec_and, BitVec.toNat_and, h]
  have e : ((x.toBitVec.signExtend 8).signExtend 32).toNat % 256 = x.toBitVec.toNat % 256 := by
    rw [BitVec.toNat_signExtend]
    have hlt := x.toBitVec.isLt
    simp only [BitVec.toNat_setWidth, BitVec.toNat_signExtend]
    split <;> split <;> omega
  rw [← e]
  exact Nat.and_two_pow_sub_one_eq_mod _ 8
theorem pair_says {c : Int32} (h0 : ¬ c < 0) (h1 : ¬ 65535 < c) : pairCh (lo8 c) (hi8 c) = c := by
  rw [Int32.lt_iff_toInt_lt] at h0 h1
  have e0 : (0 : Int32).toInt = 0 := rfl
  have e1 : (65535 : Int32).toInt = 65535 := rfl
  have hc : c.toInt = c.toBitVec.toNat := by
    have := c.toBitVec.isLt
    have e : c.toInt = c.toBitVec.toInt := rfl
    rw [e] at h0 h1
    rw [e]
    rw [BitVec.toInt_eq_toNat_cond] at h0 h1 ⊢
    split at h0 <;> split <;> omega
  have hn : c.toBitVec.toNat < 65536 := by omega
  have a1 := lo8_and c
  have a2 : (hi8 c &&& 255).toBitVec.toNat = c.toBitVec.toNat / 256 := by
    rw [hi8, lo8_and]
    have e : ((8 : Int32) &&& 31) = 8 := by decide
    rw [e, Int32.toBitVec_shiftRight]
    have e2 : ((8 : Int32).toBitVec.smod 32) = 8#32 := by decide
    rw [e2, BitVec.sshiftRight_eq', BitVec.toNat_sshiftRight_of_msb_false (by rw [BitVec.msb_eq_false_iff_two_mul_lt]; omega)]
    show c.toBitVec.toNat >>> 8 % 256 = _
    rw [Nat.shiftRight_eq_div_pow]
    omega
  unfold pairCh
  apply Int32.toBitVec_inj.mp
  apply BitVec.eq_of_toNat_eq
  have f0 : ((0 : Int32) &&& 31) = 0 := by decide
  have f8 : ((8 : Int32) &&& 31) = 8 := by decide
  rw [f0, f8]
  have g : (((lo8 c &&& 255) <<< (0 : Int32)) ||| ((hi8 c &&& 255) <<< (8 : Int32))).toBitVec.toNat = c.toBitVec.toNat := by
    rw [Int32.toBitVec_or, Int32.toBitVec_shiftLeft, Int32.toBitVec_shiftLeft]
    have s0 : ((0 : Int32).toBitVec.smod 32) = 0#32 := by decide
    have s8 : ((8 : Int32).toBitVec.smod 32) = 8#32 := by decide
    rw [s0, s8, BitVec.toNat_or]
    simp only [BitVec.shiftLeft_eq', BitVec.toNat_shiftLeft, a1, a2]
    show (c.toBitVec.toNat % 256) <<< 0 % 2 ^ 32 ||| (c.toBitVec.toNat / 256) <<< 8 % 2 ^ 32 = _
    rw [Nat.shiftLeft_zero, Nat.mod_eq_of_lt (show c.toBitVec.toNat % 256 < 2 ^ 32 by omega), Nat.mod_eq_of_lt (show (c.toBitVec.toNat / 256) <<< 8 < 2 ^ 32 by rw [Nat.shiftLeft_eq]; omega), Nat.or_comm, ← Nat.shiftLeft_add_eq_or_of_lt (by omega), Nat.shiftLeft_eq]
    omega
  show BitVec.toNat (((((lo8 c &&& 255) <<< (0 : Int32)) ||| ((hi8 c &&& 255) <<< (8 : Int32))).toBitVec.setWidth 16).setWidth 32) = _
  rw [BitVec.toNat_setWidth, BitVec.toNat_setWidth, g]
  omega
end StrChars
namespace StrChars
open Jvm Sem ClassFile Op Lib Jvm.Stand Jvm.Free.XT Jvm.Free.ALB Jvm.Free.JM Jvm.Free
open Jvm.Lib.Cold (StaticIs)
theorem shr1 {n : Nat} (h : 2 * n < 2 ^ 31) : Int32.ofNat (2 * n) >>> ((1 : Int32) &&& 31) = Int32.ofNat n := by
  have e : ((1 : Int32) &&& 31) = 1 := by decide
  rw [e]
  apply Int32.toBitVec_inj.mp
  rw [Int32.toBitVec_shiftRight]
  have e1 : ((1 : Int32).toBitVec.smod 32) = 1#32 := by decide
  have hm : (BitVec.ofNat 32 (2 * n)).toNat = 2 * n := by rw [BitVec.toNat_ofNat, Nat.mod_eq_of_lt (by omega)]
  rw [e1, BitVec.sshiftRight_eq']
  apply BitVec.eq_of_toNat_eq
  show ((BitVec.ofNat 32 (2 * n)).sshiftRight 1).toNat = (BitVec.ofNat 32 n).toNat
  rw [BitVec.toNat_sshiftRight_of_msb_false (by rw [BitVec.msb_eq_false_iff_two_mul_lt, hm]; omega), hm, BitVec.toNat_ofNat, Nat.shiftRight_eq_div_pow]
  omega
/-- charAt's cast of a byte read back -/
def chr8 (u : Int32) : Int32 := (u &&& 255).toUInt32.toUInt16.toUInt32.toInt32
theorem chr8_lo8 {c : Int32} (h0 : ¬ c < 0) (h1 : ¬ 255 < c) : chr8 (lo8 c) = c := by
  have t : ∀ k : Fin 256, (Int32.ofNat k.val).toUInt32.toUInt16.toUInt32.toInt32 = Int32.ofNat k.val := by decide +kernel
  unfold chr8
  rw [lo8_mask h0 h1]
  rw [Int32.lt_iff_toInt_lt] at h0 h1
  have e0 : (0 : Int32).toInt = 0 := rfl
  have e1 : (255 : Int32).toInt = 255 := rfl
  obtain ⟨k, hk⟩ : ∃ k : Nat, c.toInt = k := ⟨c.toInt.toNat, by omega⟩
  have hx : c = Int32.ofNat k := Int32.toInt_inj.mp (by rw [hk, Int32.toInt_ofNat_small (by omega)])
  rw [hx]
  exact t ⟨k, by omega⟩
theorem narrow_ch {c : Int32} (h0 : ¬ c < 0) (h1 : ¬ 65535 < c) : narrow .char (.int c) = .int c := by
  have q : narrow .char (.int (pairCh (lo8 c) (hi8 c))) = .int (pairCh (lo8 c) (hi8 c)) := narrow_c _
  rwa [pair_says h0 h1] at q
/-- the array's cell V codes the n chars f 0 .. f (n - 1) by the coder cd, as the JDK does: coder 1 just where some char is above 255 -/
def Cod (cd : Int32) (n : Nat) (f : Nat → Int32) (V : Cell) : Prop := (cd = 0 ∧ V.slots.size = n ∧ ∀ j, j < n → V.slots[j]? = some (.int (lo8 (f j))) ∧ ¬ 255 < f j) ∨ (cd = 1 ∧ V.slots.size = 2 * n ∧ (∀ j, j < n → V.slots[2 * j]? = some (.int (lo8 (f j))) ∧ V.slots[2 * j + 1]? = some (.int (hi8 (f j)))) ∧ ∃ j, j < n ∧ 255 < f j)
theorem Cod.cd {cd : Int32} {n : Nat} {f : Nat → Int32} {V : Cell} (h : Cod cd n f V) : cd = 0 ∨ cd = 1 := h.imp (fun q => q.1) fun q => q.1
theorem Cod.len {cd : Int32} {n : Nat} {f : Nat → Int32} {V : Cell} (h : Cod cd n f V) (hs : V.slots.size < 2 ^ 31) : Int32.ofNat V.slots.size >>> (cd &&& 31) = Int32.ofNat n := by
  rcases h with ⟨rfl, h, -⟩ | ⟨rfl, h, -⟩
  · rw [shr0, h]
  · rw [h, shr1 (by omega)]
/-- **x is a String of the n chars f 0 .. f (n - 1)**, Latin-1 or UTF-16; its array at t has the cell V -/
def Txt (x t : Addr) (V : Cell) (cd : Int32) (n : Nat) (f : Nat → Int32) (U : State) : Prop := Exact "java/lang/String" x U ∧ Has x "java/lang/String" "value" "[B" (.ref t) U ∧ Has x "java/lang/String" "coder" "B" (.int cd) U ∧ XT.Arr .byte t V U ∧ Cod cd n f V ∧ ∀ j, j < n → ¬ f j < 0 ∧ ¬ 65535 < f j
theorem Txt.mv {x t : Addr} {V : Cell} {cd : Int32} {n : Nat} {f : Nat → Int32} {U U' : State} (h : Txt x t V cd n f U) (hal : U.vm.Alike U'.vm) (hh : U'.heap = U.heap) : Txt x t V cd n f U' := ⟨h.1.mv hal hh, h.2.1.mv hal hh, h.2.2.1.mv hal hh, h.2.2.2.1.mv hal hh, h.2.2.2.2⟩
namespace Cdr
def yN : MethodName := ⟨"java/lang/String", "coder", "()B"⟩
abbrev yB : ByteArray := jdk_42_method_152_code
theorem d0 : decode yB 0 = .ok (.getstatic 38, 3) := by decide +kernel
theorem d3 : decode yB 3 = .ok (.ifCond (.eq) 10, 3) := by decide +kernel
theorem d6 : decode yB 6 = .ok (.aload_n 0, 1) := by decide +kernel
theorem d7 : decode yB 7 = .ok (.getfield 15, 3) := by decide +kernel
theorem d10 : decode yB 10 = .ok (.goto 4, 3) := by decide +kernel
theorem d14 : decode yB 14 = .ok (.ireturn, 1) := by decide +kernel
def site : List Cond := [.fieldLink "java/lang/String" 38 "java/lang/String" "COMPACT_STRINGS" "Z", .fieldLink "java/lang/String" 15 "java/lang/String" "coder" "B"]
def tab : Cond := tabOf yN yB 1 (some .byte) site
def P (x : Addr) (cd z : Int32) (args : Array Value) (s : State) : Prop := args = #[.ref x] ∧ Has x "java/lang/String" "coder" "B" (.int cd) s ∧ (cd = 0 ∨ cd = 1) ∧ StaticIs s "java/lang/String" "COMPACT_STRINGS" "Z" (.int z) ∧ ¬ z = 0
def E (cd : Int32) (r : Option Value) (s u : State) : Prop := XT.PureE (some (.int cd)) r s u
theorem law (l : Launch) (x : Addr) (cd z : Int32) : Law l yN 1 0 0 0 yB 1 (some .byte) site (P x cd z) (E cd) [] 0 0 := by
  refine Law.of_walk (plainFor_of_name (by decide +kernel)) (by decide +kernel) (by decide +kernel) (by decide) (fun _ _ h => by rw [h.1]; rfl) (fun _ U U' hal hh h => ⟨h.1, h.2.1.mv hal hh, h.2.2.1, h.2.2.2.1.there hal hh, h.2.2.2.2⟩) (fun r U U' V V' h1 hal h2 h => XT.PureE.mv r U U' V V' h1 hal h2 h) ?_
  intro p e s m args below meth c s₁ X0 hexec hbytes hml hret hlk hnm hown hh0 W hP
  obtain ⟨rfl, hx, hc, s1, hz⟩ := hP
  have c1 : Steps p.tables e below (s₁.setTop (entryFrame m #[.ref x] 1)) (s₁.setTop (mkF m 0 #[.val (.ref x)] [])) := entry rfl
  obtain ⟨T2, X2, q2, st2⟩ := X0.sget hexec hown (wk W (.fieldLink "java/lang/String" 38 "java/lang/String" "COMPACT_STRINGS" "Z")) s1 (fun _ _ h => by rw [hh0]; exact h) (g := (mkF m 0 #[.val (.ref x)] [])) rfl (hb hbytes d0)
  have hh2 := q2.trans hh0
  have c3 : Steps p.tables e below (s₁.setTop (entryFrame m #[.ref x] 1)) (T2.setTop (mkF m 7 #[.val (.ref x)] [.ref x])) := (c1.trans (st2 _ (Steps.refl _))).trans (by
    refine XS.ifNo X2.here hexec rfl (hb hbytes d3) rfl (i0_eq_f hz) ?_
    refine XS.aloadN X2.here hexec rfl (hb hbytes d6) rfl rfl ?_
    exact Steps.refl _)
  obtain ⟨T4, X4, q4, st4⟩ := X2.hget hexec hown (wk W (.fieldLink "java/lang/String" 15 "java/lang/String" "coder" "B")) (hx.mv X2.warmed.alike hh2) (g := (mkF m 7 #[.val (.ref x)] [.ref x])) rfl (rest := []) rfl (hb hbytes d7)
  have c5 : Steps p.tables e below (s₁.setTop (entryFrame m #[.ref x] 1)) (T4.setTop (mkF m 14 #[.val (.ref x)] [.int cd])) := (c3.trans (st4 _ (Steps.refl _))).trans (by
    refine XS.goto X4.here hexec rfl (pc0 := 10) rfl (hb hbytes d10) (by decide) rfl ?_
    exact Steps.refl _)
  exact ⟨T4, some (.int cd), _, _, _, X4, rfl, rfl, rfl, (fun h => by cases h), ⟨rfl, q4.trans hh2⟩, fun fs hl => c5.trans (X4.ireturnOut hexec hret (by rcases hc with rfl | rfl <;> rfl) (Or.inr (Or.inr (Or.inl rfl))) (hb hbytes d14) hl)⟩
end Cdr
namespace Len
def yN : MethodName := ⟨"java/lang/String", "length", "()I"⟩
abbrev yB : ByteArray := jdk_42_method_54_code
theorem d0 : decode yB 0 = .ok (.aload_n 0, 1) := by decide +kernel
theorem d1 : decode yB 1 = .ok (.getfield 9, 3) := by decide +kernel
theorem d4 : decode yB 4 = .ok (.arraylength, 1) := by decide +kernel
theorem d5 : decode yB 5 = .ok (.aload_n 0, 1) := by decide +kernel
theorem d6 : decode yB 6 = .ok (.invokevirtual 335, 3) := by decide +kernel
theorem d9 : decode yB 9 = .ok (.ishr, 1) := by decide +kernel
theorem d10 : decode yB 10 = .ok (.ireturn, 1) := by decide +kernel
def site : List Cond := [.fieldLink "java/lang/String" 9 "java/lang/String" "value" "[B", Cdr.tab] ++ virtW "java/lang/String" 335 "java/lang/String" Cdr.yN Cdr.yN
def tab : Cond := tabOf yN yB 1 (some .int) site
def P (x t : Addr) (V : Cell) (cd : Int32) (n : Nat) (f : Nat → Int32) (z : Int32) (args : Array Value) (s : State) : Prop := args = #[.ref x] ∧ Txt x t V cd n f s ∧ StaticIs s "java/lang/String" "COMPACT_STRINGS" "Z" (.int z) ∧ ¬ z = 0
def E (n : Nat) (r : Option Value) (s u : State) : Prop := XT.PureE (some (.int (Int32.ofNat n))) r s u
/-- length() of a String of n chars, in either coding -/
theorem law (l : Launch) (x t : Addr) (V : Cell) (cd : Int32) (n : Nat) (f : Nat → Int32) (z : Int32) : Law l yN 1 0 1 13 yB 1 (some .int) site (P x t V cd n f z) (E n) [] 0 0 := by
  refine Law.of_walk (plainFor_of_name (by decide +kernel)) (by decide +kernel) (by decide +kernel) (by decide) (fun _ _ h => by rw [h.1]; rfl) (fun _ U U' hal hh h => ⟨h.1, h.2.1.mv hal hh, h.2.2.1.there hal hh, h.2.2.2⟩) (fun r U U' V V' h1 hal h2 h => XT.PureE.mv r U U' V V' h1 hal h2 h) ?_
  intro p e s m args below meth c s₁ X0 hexec hbytes hml hret hlk hnm hown hh0 W hP
  obtain ⟨rfl, hx, s1, hz⟩ := hP
  have v31 := hx.2.2.2.1.2.2.2
  have c1 : Steps p.tables e below (s₁.setTop (entryFrame m #[.ref x] 1)) (s₁.setTop (mkF m 1 #[.val (.ref x)] [.ref x])) := Steps.trans (entry rfl) (by
    show Steps p.tables e below (s₁.setTop (mkF m 0 #[.val (.ref x)] [])) _
    refine XS.aloadN X0.here hexec rfl (hb hbytes d0) rfl rfl ?_
    exact Steps.refl _)
  obtain ⟨T2, X2, q2, st2⟩ := X0.hget hexec hown (wk W (.fieldLink "java/lang/String" 9 "java/lang/String" "value" "[B")) (hx.mv X0.warmed.alike hh0).2.1 (g := (mkF m 1 #[.val (.ref x)] [.ref x])) rfl (rest := []) rfl (hb hbytes d1)
  have hh2 := q2.trans hh0
  have hx2 := hx.mv X2.warmed.alike hh2
  have c3 : Steps p.tables e below (s₁.setTop (entryFrame m #[.ref x] 1)) (T2.setTop (mkF m 6 #[.val (.ref x)] [.ref x, .int (Int32.ofNat V.slots.size)])) := (c1.trans (st2 _ (Steps.refl _))).trans (by
    refine X2.alen hexec hx2.2.2.2.1 rfl rfl (hb hbytes d4) ?_
    refine XS.aloadN X2.here hexec rfl (hb hbytes d5) rfl rfl ?_
    exact Steps.refl _)
  obtain ⟨v4, T4, X4, E4, g4⟩ := X2.callV hexec (Cdr.law l x cd z) hown (wks W (virtW "java/lang/String" 335 "java/lang/String" Cdr.yN Cdr.yN)) rfl (by decide) (wk W Cdr.tab) (W := 1) (Nat.le_of_ble_eq_true rfl) (Nat.le_of_ble_eq_true rfl) (Nat.le_refl _) (Nat.le_refl _) (hx2.1.fc X2.warmed.alike) hx2.1.is (g := (mkF m 6 #[.val (.ref x)] [.ref x, .int (Int32.ofNat V.slots.size)])) rfl (by rw [hml]; rfl) c3 (argsL := []) (rest := [.int (Int32.ofNat V.slots.size)]) rfl rfl (by show 2 * 0 + (1 + 0) ≤ _; decide) (hb hbytes d6) (⟨rfl, hx2.2.2.1, hx.2.2.2.2.1.cd, s1.there X2.warmed.alike hh2, hz⟩)
  obtain ⟨rfl, q4⟩ := E4
  have c5 : Steps p.tables e below (s₁.setTop (entryFrame m #[.ref x] 1)) (T4.setTop (mkF m 10 #[.val (.ref x)] [.int (Int32.ofNat V.slots.size >>> (cd &&& 31))])) := Steps.trans g4 (by
    refine ishr X4.here hexec rfl (hb hbytes d9) rfl ?_
    exact Steps.refl _)
  rw [hx.2.2.2.2.1.len v31] at c5
  exact ⟨T4, some (.int (Int32.ofNat n)), _, _, _, X4, rfl, rfl, rfl, (fun h => by cases h), ⟨rfl, q4.trans hh2⟩, fun fs hl => c5.trans (X4.ireturnOut hexec hret rfl (Or.inl rfl) (hb hbytes d10) hl)⟩
theorem pays {l : Launch} {R : Room} {p : Program} {e : Env} {below : List Frame} {s : State} {sargs : Array Value} {len W : Nat} (x t : Addr) (V : Cell) (cd : Int32) (n : Nat) (f : Nat → Int32) (z : Int32) (htab : tab.before sargs s = true) (hfr : 2 ≤ R.frames) (hlo : W + 25 ≤ R.locals) :
    Back l R p e below s sargs yN len W (fun A₁ a₁ => A₁.cells + 0 ≤ R.cells ∧ A₁.slots + 0 ≤ R.slots ∧ P x t V cd n f z a₁ A₁.U) (fun A₁ _ v₁ B₁ => E n v₁ A₁.U B₁.U ∧ B₁.locs = A₁.locs ++ [] ∧ B₁.cells = A₁.cells + 0 ∧ B₁.slots = A₁.slots + 0) :=
  (law l x t V cd n f z).pays htab hfr (by omega)
end Len
namespace IsL
def yN : MethodName := ⟨"java/lang/String", "isLatin1", "()Z"⟩
abbrev yB : ByteArray := jdk_42_method_154_code
theorem d0 : decode yB 0 = .ok (.getstatic 38, 3) := by decide +kernel
theorem d3 : decode yB 3 = .ok (.ifCond (.eq) 14, 3) := by decide +kernel
theorem d6 : decode yB 6 = .ok (.aload_n 0, 1) := by decide +kernel
theorem d7 : decode yB 7 = .ok (.getfield 15, 3) := by decide +kernel
theorem d10 : decode yB 10 = .ok (.ifCond (.ne) 7, 3) := by decide +kernel
theorem d13 : decode yB 13 = .ok (.iconst 1, 1) := by decide +kernel
theorem d14 : decode yB 14 = .ok (.goto 4, 3) := by decide +kernel
theorem d17 : decode yB 17 = .ok (.iconst 0, 1) := by decide +kernel
theorem d18 : decode yB 18 = .ok (.ireturn, 1) := by decide +kernel
def site : List Cond := [.fieldLink "java/lang/String" 38 "java/lang/String" "COMPACT_STRINGS" "Z", .fieldLink "java/lang/String" 15 "java/lang/String" "coder" "B"]
def tab : Cond := tabOf yN yB 1 (some .boolean) site
def P (x : Addr) (cd z : Int32) (args : Array Value) (s : State) : Prop := args = #[.ref x] ∧ Has x "java/lang/String" "coder" "B" (.int cd) s ∧ (cd = 0 ∨ cd = 1) ∧ StaticIs s "java/lang/String" "COMPACT_STRINGS" "Z" (.int z) ∧ ¬ z = 0
def E (cd : Int32) (r : Option Value) (s u : State) : Prop := XT.PureE (some (.int (1 - cd))) r s u
theorem law (l : Launch) (x : Addr) (cd z : Int32) : Law l yN 1 0 0 0 yB 1 (some .boolean) site (P x cd z) (E cd) [] 0 0 := by
  refine Law.of_walk (plainFor_of_name (by decide +kernel)) (by decide +kernel) (by decide +kernel) (by decide) (fun _ _ h => by rw [h.1]; rfl) (fun _ U U' hal hh h => ⟨h.1, h.2.1.mv hal hh, h.2.2.1, h.2.2.2.1.there hal hh, h.2.2.2.2⟩) (fun r U U' V V' h1 hal h2 h => XT.PureE.mv r U U' V V' h1 hal h2 h) ?_
  intro p e s m args below meth c s₁ X0 hexec hbytes hml hret hlk hnm hown hh0 W hP
  obtain ⟨rfl, hx, hc, s1, hz⟩ := hP
  have c1 : Steps p.tables e below (s₁.setTop (entryFrame m #[.ref x] 1)) (s₁.setTop (mkF m 0 #[.val (.ref x)] [])) := entry rfl
  obtain ⟨T2, X2, q2, st2⟩ := X0.sget hexec hown (wk W (.fieldLink "java/lang/String" 38 "java/lang/String" "COMPACT_STRINGS" "Z")) s1 (fun _ _ h => by rw [hh0]; exact h) (g := (mkF m 0 #[.val (.ref x)] [])) rfl (hb hbytes d0)
  have hh2 := q2.trans hh0
  have c3 : Steps p.tables e below (s₁.setTop (entryFrame m #[.ref x] 1)) (T2.setTop (mkF m 7 #[.val (.ref x)] [.ref x])) := (c1.trans (st2 _ (Steps.refl _))).trans (by
    refine XS.ifNo X2.here hexec rfl (hb hbytes d3) rfl (i0_eq_f hz) ?_
    refine XS.aloadN X2.here hexec rfl (hb hbytes d6) rfl rfl ?_
    exact Steps.refl _)
  obtain ⟨T4, X4, q4, st4⟩ := X2.hget hexec hown (wk W (.fieldLink "java/lang/String" 15 "java/lang/String" "coder" "B")) (hx.mv X2.warmed.alike hh2) (g := (mkF m 7 #[.val (.ref x)] [.ref x])) rfl (rest := []) rfl (hb hbytes d7)
  have c5 : Steps p.tables e below (s₁.setTop (entryFrame m #[.ref x] 1)) (T4.setTop (mkF m 10 #[.val (.ref x)] [.int cd])) := c3.trans (st4 _ (Steps.refl _))
  have c6 : Steps p.tables e below (s₁.setTop (entryFrame m #[.ref x] 1)) (T4.setTop (mkF m 18 #[.val (.ref x)] [.int (1 - cd)])) := by
    rcases hc with rfl | rfl
    · exact c5.trans (by
        refine XS.ifNo X4.here hexec rfl (hb hbytes d10) rfl (i0_ne_f rfl) ?_
        refine iconstV X4.here hexec rfl 1 (hb hbytes d13) (by decide) ?_
        refine XS.goto X4.here hexec rfl (pc0 := 14) rfl (hb hbytes d14) (by decide) rfl ?_
        exact Steps.refl _)
    · exact c5.trans (by
        refine XS.ifYes X4.here hexec rfl (pc0 := 10) rfl (hb hbytes d10) rfl (i0_ne_t (by decide)) (by decide) rfl ?_
        refine iconstV X4.here hexec rfl 0 (hb hbytes d17) (by decide) ?_
        exact Steps.refl _)
  exact ⟨T4, some (.int (1 - cd)), _, _, _, X4, rfl, rfl, rfl, (fun h => by cases h), ⟨rfl, q4.trans hh2⟩, fun fs hl => c6.trans (X4.ireturnOut hexec hret (by rcases hc with rfl | rfl <;> rfl) (Or.inr (Or.inl rfl)) (hb hbytes d18) hl)⟩
end IsL
namespace LChA
def yN : MethodName := ⟨"java/lang/StringLatin1", "charAt", "([BI)C"⟩
abbrev yB : ByteArray := jdk_43_method_2_code
theorem d0 : decode yB 0 = .ok (.iload_n 1, 1) := by decide +kernel
theorem d1 : decode yB 1 = .ok (.aload_n 0, 1) := by decide +kernel
theorem d2 : decode yB 2 = .ok (.arraylength, 1) := by decide +kernel
theorem d3 : decode yB 3 = .ok (.invokestatic 9, 3) := by decide +kernel
theorem d6 : decode yB 6 = .ok (.aload_n 0, 1) := by decide +kernel
theorem d7 : decode yB 7 = .ok (.iload_n 1, 1) := by decide +kernel
theorem d8 : decode yB 8 = .ok (.baload, 1) := by decide +kernel
theorem d9 : decode yB 9 = .ok (.sipush 255, 3) := by decide +kernel
theorem d12 : decode yB 12 = .ok (.iand, 1) := by decide +kernel
theorem d13 : decode yB 13 = .ok (.i2c, 1) := by decide +kernel
theorem d14 : decode yB 14 = .ok (.ireturn, 1) := by decide +kernel
def site : List Cond := [JO.Str_checkIndex.tab] ++ staticW "java/lang/StringLatin1" 9 JO.Str_checkIndex.yN
def tab : Cond := tabOf yN yB 2 (some .char) site
def P (t : Addr) (V : Cell) (i : Nat) (u : Int32) (fm : Value) (args : Array Value) (s : State) : Prop := args = #[.ref t, .int (Int32.ofNat i)] ∧ XT.Arr .byte t V s ∧ V.slots[i]? = some (.int u) ∧ (StaticIs s "jdk/internal/util/Preconditions" "SIOOBE_FORMATTER" "Ljava/util/function/BiFunction;" fm ∧ fm.isRef = true)
def E (u : Int32) (r : Option Value) (s w : State) : Prop := XT.PureE (some (.int (chr8 u))) r s w
theorem law (l : Launch) (t : Addr) (V : Cell) (i : Nat) (u : Int32) (fm : Value) : Law l yN 2 2 2 27 yB 2 (some .char) site (P t V i u fm) (E u) [] 0 0 := by
  refine Law.of_walk (plainFor_of_name (by decide +kernel)) (by decide +kernel) (by decide +kernel) (by decide) (fun _ _ h => by rw [h.1]; rfl) (fun _ U U' hal hh h => ⟨h.1, h.2.1.mv hal hh, h.2.2.1, h.2.2.2.1.there hal hh, h.2.2.2.2⟩) (fun r U U' V V' h1 hal h2 h => XT.PureE.mv r U U' V V' h1 hal h2 h) ?_
  intro p e s m args below meth c s₁ X0 hexec hbytes hml hret hlk hnm hown hh0 W hP
  obtain ⟨rfl, hV, hu, s1, rf⟩ := hP
  have v31 := hV.2.2.2
  have hi : i < V.slots.size := (Array.getElem?_eq_some_iff.mp hu).1
  have c1 : Steps p.tables e below (s₁.setTop (entryFrame m #[.ref t, .int (Int32.ofNat i)] 2)) (s₁.setTop (mkF m 0 #[.val (.ref t), .val (.int (Int32.ofNat i))] [])) := entry rfl
  have c2 : Steps p.tables e below (s₁.setTop (entryFrame m #[.ref t, .int (Int32.ofNat i)] 2)) (s₁.setTop (mkF m 3 #[.val (.ref t), .val (.int (Int32.ofNat i))] [.int (Int32.ofNat V.slots.size), .int (Int32.ofNat i)])) := c1.trans (by
    refine XS.iloadN X0.here hexec rfl (hb hbytes d0) rfl ?_
    refine XS.aloadN X0.here hexec rfl (hb hbytes d1) rfl rfl ?_
    refine X0.alen hexec (hV.mv X0.warmed.alike hh0) rfl rfl (hb hbytes d2) ?_
    exact Steps.refl _)
  obtain ⟨v3, T3, X3, E3, g3⟩ := X0.callS hexec (JO.Str_checkIndex.law l (Int32.ofNat i) (Int32.ofNat V.slots.size) fm) hown (wks W (staticW "java/lang/StringLatin1" 9 JO.Str_checkIndex.yN)) (wk W JO.Str_checkIndex.tab) (W := 0) (Nat.le_of_ble_eq_true rfl) (Nat.le_of_ble_eq_true rfl) (Nat.le_refl _) (Nat.le_refl _) (g := (mkF m 3 #[.val (.ref t), .val (.int (Int32.ofNat i))] [.int (Int32.ofNat V.slots.size), .int (Int32.ofNat i)])) rfl (by rw [hml]; rfl) c2 (argsL := [.int (Int32.ofNat i), .int (Int32.ofNat V.slots.size)]) (rest := []) rfl rfl (by show 2 * 0 + 0 ≤ _; decide) (hb hbytes d3) (⟨rfl, rf, s1.there X0.warmed.alike hh0, Int32.ofNat_not_neg (by omega), lt32 v31 hi⟩)
  obtain ⟨rfl, q3⟩ := E3
  have hh3 := q3.trans hh0
  have c4 : Steps p.tables e below (s₁.setTop (entryFrame m #[.ref t, .int (Int32.ofNat i)] 2)) (T3.setTop (mkF m 14 #[.val (.ref t), .val (.int (Int32.ofNat i))] [.int (chr8 u)])) := Steps.trans g3 (by
    refine XS.aloadN X3.here hexec rfl (hb hbytes d6) rfl rfl ?_
    refine XS.iloadN X3.here hexec rfl (hb hbytes d7) rfl ?_
    refine X3.aget hexec (hV.mv X3.warmed.alike hh3) rfl hu rfl rfl (hb hbytes d8) ?_
    refine sipushV X3.here hexec rfl 255 (hb hbytes d9) (by decide) ?_
    refine XS.iand X3.here hexec rfl (hb hbytes d12) rfl ?_
    refine i2c X3.here hexec rfl (hb hbytes d13) rfl ?_
    exact Steps.refl _)
  exact ⟨T3, some (.int (chr8 u)), _, _, _, X3, rfl, rfl, rfl, (fun h => by cases h), ⟨rfl, hh3⟩, fun fs hl => c4.trans (X3.ireturnOut hexec hret (narrow_c _) (Or.inr (Or.inr (Or.inr (Or.inl rfl)))) (hb hbytes d14) hl)⟩
end LChA
end StrChars
namespace StrChars.Road
open Jvm Sem ClassFile Op Lib Jvm.Stand Jvm.Free Jvm.Free.XT
open Jvm.Lib.Cold (StaticIs)
theorem consq {a : Array Value} {s : State} {c : Jvm.Cond} {L : List Jvm.Cond} (h0 : c.before a s = true) (h : ∀ w ∈ L, w.before a s = true) : ∀ w ∈ c :: L, w.before a s = true := fun w hw => (List.mem_cons.mp hw).elim (fun e => e ▸ h0) (h w)
/-- the words of String.length(), either coding -/
abbrev wordsLen : List Jvm.Cond := [.code Len.yN Len.yB 1 (some .int), .initialized ST, .fieldLink ST 9 ST "value" "[B", .fieldLink ST 38 ST "COMPACT_STRINGS" "Z", .fieldLink ST 15 ST "coder" "B", .code Cdr.yN Cdr.yB 1 (some .byte), .methodLink ST 335 Cdr.yN, .declares Cdr.yN, .selects ST Cdr.yN Cdr.yN, .instanceMethod Cdr.yN]
theorem tabLen_of {a : Array Value} {s : State} (h : ∀ w ∈ wordsLen, w.before a s = true) : Len.tab.before a s = true := by
  have hc : Cdr.tab.before a s = true := unparts (wk h (.code Cdr.yN Cdr.yB 1 (some .byte))) (wks h (.initialized Cdr.yN.cls :: Cdr.site))
  have q := consq hc h
  exact unparts (wk q (.code Len.yN Len.yB 1 (some .int))) (wks q (.initialized Len.yN.cls :: Len.site))
theorem movedLen {Z s : State} {a0 args : Array Value} (hZ : Z.Warmed39 s.vm) (hw : ∀ d ∈ wordsLen, d.before a0 Z = true) : ∀ d ∈ wordsLen, d.before args s = true := fun d hd => by
  have q := hw d hd
  have t : ∀ d ∈ wordsLen, d = .arrayClass .byte ∨ (d.onTables && d.keepsFace) = true := by decide +kernel
  rcases t d hd with rfl | t
  · exact RoadKit.mvA hZ q
  · exact RoadKit.mv hZ q t
/-- the bytes of the chars cs, low before high -/
def wideBytes : List Int32 → List Value
  | [] => []
  | c :: cs => .int (lo8 c) :: .int (hi8 c) :: wideBytes cs
theorem wide_lo (d : Value) : ∀ (cs : List Int32) (j : Nat), j < cs.length → (wideBytes cs).getD (2 * j) d = .int (lo8 (cs.getD j 0))
  | [], j, h => absurd h (Nat.not_lt_zero j)
  | c :: cs, 0, _ => rfl
  | c :: cs, j + 1, h => by
    have q := wide_lo d cs j (by simpa using h)
    rw [show 2 * (j + 1) = 2 * j + 1 + 1 from by omega]
    simpa [wideBytes] using q
theorem wide_hi (d : Value) : ∀ (cs : List Int32) (j : Nat), j < cs.length → (wideBytes cs).getD (2 * j + 1) d = .int (hi8 (cs.getD j 0))
  | [], j, h => absurd h (Nat.not_lt_zero j)
  | c :: cs, 0, _ => rfl
  | c :: cs, j + 1, h => by
    have q := wide_hi d cs j (by simpa using h)
    rw [show 2 * (j + 1) + 1 = 2 * j + 1 + 1 + 1 from by omega]
    simpa [wideBytes] using q
theorem low_at (d : Value) (cs : List Int32) (j : Nat) (h : j < cs.length) : (cs.map fun c => Value.int (lo8 c)).getD j d = .int (lo8 (cs.getD j 0)) := by
  simp [List.getD_eq_getElem?_getD, h]
/-- an array of N2 bytes vs codes the chars cs by the coder cd -/
def CodA (cs : List Int32) (cd N2 : Int32) (vs : List Value) : Prop := (cd = 0 ∧ N2 = Int32.ofNat cs.length ∧ vs = (cs.map fun c => Value.int (lo8 c)) ∧ ∀ c ∈ cs, ¬ 255 < c) ∨ (cd = 1 ∧ N2 = Int32.ofNat (2 * cs.length) ∧ vs = wideBytes cs ∧ ∃ c ∈ cs, 255 < c)
theorem CodA.cod {cs : List Int32} {cd N2 : Int32} {vs : List Value} {V : Cell} (h : CodA cs cd N2 vs) (hn : 2 * cs.length < 2 ^ 31) (hs : V.slots.size = N2.toNatClampNeg) (hv : RoadKit.Has V vs (.int 0)) : Cod cd cs.length (fun j => cs.getD j 0) V := by
  rcases h with ⟨rfl, rfl, rfl, h⟩ | ⟨rfl, rfl, rfl, c, hc, hw⟩
  · rw [n32 (by omega)] at hs
    exact Or.inl ⟨rfl, hs, fun j hj => ⟨by rw [hv j (by omega), low_at _ _ _ hj], by
      have e : cs.getD j 0 = cs[j] := by simp [List.getD_eq_getElem?_getD, hj]
      show ¬ 255 < cs.getD j 0
      rw [e]; exact h _ (List.getElem_mem _)⟩⟩
  · rw [n32 (by omega)] at hs
    obtain ⟨j, hj, rfl⟩ := List.getElem_of_mem hc
    exact Or.inr ⟨rfl, hs, fun j hj => ⟨by rw [hv _ (by omega), wide_lo _ _ _ hj], by rw [hv _ (by omega), wide_hi _ _ _ hj]⟩, j, hj, by
      have e : cs.getD j 0 = cs[j] := by simp [List.getD_eq_getElem?_getD, hj]
      show 255 < cs.getD j 0
      rw [e]; exact hw⟩
/-- an object of exactly java/lang/String, its two fields found: as the laws ask it -/
theorem strObj {Z U : State} {a0 : Array Value} {kI : Nat} (wi : (Jvm.Cond.instantiable ST kI).before a0 Z = true) (al : Z.vm.Alike U.vm) {x : Addr} {v0 c0 : Value} (E : RoadKit.Exa Z U.heap x ST) (V : RoadKit.Fld Z U.heap x ST "value" "[B" v0) (C : RoadKit.Fld Z U.heap x ST "coder" "B" c0) :
    ∃ (D : Cell) (fV fC : Field), Blank ST x D U ∧ Found ST "value" "[B" fV U ∧ Found ST "coder" "B" fC U ∧ D.slots[fV.slot]? = some v0 ∧ D.slots[fC.slot]? = some c0 ∧ RoadKit.slotOf Z ST "value" "[B" = fV.slot ∧ RoadKit.slotOf Z ST "coder" "B" = fC.slot := by
  obtain ⟨D, cfV, kV, iV, fV, hD, gV, stV, knV, obV, asV, slV⟩ := V
  obtain ⟨D', cfC, kC, iC, fC, hD', gC, stC, -, -, asC, slC⟩ := C
  cases hD.symm.trans hD'
  obtain ⟨D2, kD, e1, e2, e3, e4, e5⟩ := E
  cases hD.symm.trans e1
  obtain ⟨c2, k2, i1, i2, i3, -⟩ := Cond.instantiable_spec wi
  cases e2.symm.trans i1
  cases e3.symm.trans i2
  obtain ⟨kU, u1, u2⟩ := al.2.2 _ _ e3
  exact ⟨D, fV, fC, ⟨hD, ⟨knV, fun q hq => by rw [hq] at obV; cases obV⟩, by rw [al.findClass]; exact e2, kU, u1, by rw [u2]; exact i3, by rw [u2]; exact e5 i3⟩, ⟨SBG.found_only al ⟨cfV, kV, iV, gV⟩, stV⟩, ⟨SBG.found_only al ⟨cfC, kC, iC, gC⟩, stC⟩, slV, slC, by simp [RoadKit.slotOf, gV], by simp [RoadKit.slotOf, gC]⟩
theorem sta_is {Z U : State} (al : Z.vm.Alike U.vm) {C n d : String} {v : Value} (S : RoadKit.Sta Z U.heap C n d v) : StaticIs U C n d v := by
  obtain ⟨cfS, iS, kS, fS, st, cS, t1, t2, t3, t4, t5, t6, t7⟩ := S
  exact StaticIs.there (s := { Z with heap := U.heap }) ⟨cfS, iS, kS, fS, st, cS, t1, t2, t3, t4, t5, (fun q => by rw [q] at t6; cases t6), t7⟩ al rfl
/-- **length() OF SUCH A STRING** -/
theorem lenW {p : Program} {l : Launch} {e : Env} {R : Room} {s : State} {args : Array Value} {below : List Frame} {len W : Nat} {Z : State} {a0 : Array Value} {h : Heap} (hZ : Z.Warmed39 s.vm) (hw : ∀ d ∈ wordsLen, d.before a0 Z = true) {kI : Nat} (wi : (Jvm.Cond.instantiable ST kI).before a0 Z = true)
    {x t : Addr} {kb : ClassId} {cs : List Int32} {cd N2 z : Int32} {vs : List Value} (E : RoadKit.Exa Z h x ST) (V : RoadKit.Fld Z h x ST "value" "[B" (.ref t)) (C : RoadKit.Fld Z h x ST "coder" "B" (.int cd)) (K : RoadKit.Arv Z h t kb .byte N2 vs (.int 0)) (hc : CodA cs cd N2 vs) (hb : ∀ c ∈ cs, ¬ c < 0 ∧ ¬ (65535 : Int32) < c)
    (S : RoadKit.Sta Z h ST "COMPACT_STRINGS" "Z" (.int z)) (hz : ¬ z = 0) (l2 : cs.length ≤ 4000) (hfr : 2 ≤ R.frames) (hlo : W + 25 ≤ R.locals) :
    Back l R p e below s args (⟨"java/lang/String", "length", "()I"⟩ : MethodName) len W (fun P a => a = #[.ref x] ∧ P.U.heap = h ∧ P.cells + 0 ≤ R.cells ∧ P.slots + 0 ≤ R.slots)
      (fun P _ v B => ∃ L, (v = some (.int (Int32.ofNat cs.length)) ∧ L = [] ∧ B.U.heap = h) ∧ B.locs = P.locs ++ L ∧ B.cells = P.cells + 0 ∧ B.slots = P.slots + 0) := by
  obtain ⟨A, K1, K2, K3, K4, K5, K6⟩ := K
  have hcod := hc.cod (by omega) K3 K5
  intro m meth c P g ig mk a X hg hsize hdg hW hn hp'
  obtain ⟨rfl, rfl, r1, r2⟩ := hp'
  have al : Z.vm.Alike P.U.vm := hZ.alike.trans X.warmed.alike
  obtain ⟨D, fV, fC, hB, F1, F2, g1, g2, -, -⟩ := strObj wi al E V C
  have hx : Txt x t A cd cs.length (fun j => cs.getD j 0) P.U := ⟨⟨_, hB.2.2.1, D, hB.1, rfl, by cases q : D.vm <;> first | rfl | exact absurd q (hB.2.1.2 _)⟩, Has.of hB F1 g1, Has.of hB F2 g2, ⟨K1.1, State.isArrayOf_alike al K1.2.1, K1.2.2, by rcases hcod with ⟨-, q, -⟩ | ⟨-, q, -⟩ <;> omega⟩, hcod, fun j hj => by
    have e : cs.getD j 0 = cs[j] := by simp [List.getD_eq_getElem?_getD, hj]
    show ¬ cs.getD j 0 < 0 ∧ ¬ 65535 < cs.getD j 0
    rw [e]; exact hb _ (List.getElem_mem _)⟩
  obtain ⟨v, B, X', ⟨⟨hv, hh⟩, hl, hk, hs⟩, st⟩ := Len.pays x t A cd cs.length (fun j => cs.getD j 0) z (tabLen_of (movedLen hZ hw)) hfr hlo m meth c P g ig mk _ X hg hsize hdg hW hn ⟨r1, r2, rfl, hx, sta_is al S, hz⟩
  exact ⟨v, B, X', ⟨[], ⟨hv, rfl, hh⟩, hl, hk, hs⟩, st⟩
end StrChars.Road
namespace StrChars
open Jvm Sem ClassFile Op Lib Jvm.Stand Jvm.Free.XT Jvm.Free.ALB Jvm.Free.JM Jvm.Free
open Jvm.Lib.Cold (StaticIs)
/-- what place i of a byte[]'s cell holds -/
def yv (A : Cell) (i : Nat) : Int32 := match A.slots[i]? with | some (.int x) => x | _ => 0
theorem yv_get {a : Addr} {A : Cell} {U : State} (h : XT.Arr .byte a A U) (ht : Typed .byte A) {i : Nat} (hi : i < A.slots.size) : A.slots[i]? = some (.int (yv A i)) := by
  have e := Array.getElem?_eq_getElem hi
  have f := ht i _ e
  unfold yv; rw [e]
  generalize A.slots[i] = v at f
  cases v <;> simp [fits] at f ⊢
/-- the two arrays are equal, place for place -/
def EqC (A B : Cell) : Prop := A.slots.size = B.slots.size ∧ ∀ i, i < A.slots.size → yv A i = yv B i
/-- a boolean that says whether p -/
def Says01 (q : Prop) (r : Option Value) (s u : State) : Prop := ∃ v : Int32, r = some (.int v) ∧ u.heap = s.heap ∧ ((v = 1 ∧ q) ∨ (v = 0 ∧ ¬ q))
theorem Says01.mv {q : Prop} : ∀ r (U U' V V' : State), U'.heap = U.heap → V.vm.Alike V'.vm → V'.heap = V.heap → Says01 q r U V → Says01 q r U' V' :=
  fun r U U' V V' h1 _ h2 ⟨v, a, b, c⟩ => ⟨v, a, by rw [h1, h2]; exact b, c⟩
namespace LEq
def yN : MethodName := ⟨"java/lang/StringLatin1", "equals", "([B[B)Z"⟩
abbrev yB : ByteArray := jdk_43_method_13_code
theorem d0 : decode yB 0 = .ok (.aload_n 0, 1) := by decide +kernel
theorem d1 : decode yB 1 = .ok (.arraylength, 1) := by decide +kernel
theorem d2 : decode yB 2 = .ok (.aload_n 1, 1) := by decide +kernel
theorem d3 : decode yB 3 = .ok (.arraylength, 1) := by decide +kernel
theorem d4 : decode yB 4 = .ok (.if_icmp (.ne) 30, 3) := by decide +kernel
theorem d7 : decode yB 7 = .ok (.iconst 0, 1) := by decide +kernel
theorem d8 : decode yB 8 = .ok (.istore_n 2, 1) := by decide +kernel
theorem d9 : decode yB 9 = .ok (.iload_n 2, 1) := by decide +kernel
theorem d10 : decode yB 10 = .ok (.aload_n 0, 1) := by decide +kernel
theorem d11 : decode yB 11 = .ok (.arraylength, 1) := by decide +kernel
theorem d12 : decode yB 12 = .ok (.if_icmp (.ge) 20, 3) := by decide +kernel
theorem d15 : decode yB 15 = .ok (.aload_n 0, 1) := by decide +kernel
theorem d16 : decode yB 16 = .ok (.iload_n 2, 1) := by decide +kernel
theorem d17 : decode yB 17 = .ok (.baload, 1) := by decide +kernel
theorem d18 : decode yB 18 = .ok (.aload_n 1, 1) := by decide +kernel
theorem d19 : decode yB 19 = .ok (.iload_n 2, 1) := by decide +kernel
theorem d20 : decode yB 20 = .ok (.baload, 1) := by decide +kernel
theorem d21 : decode yB 21 = .ok (.if_icmp (.eq) 5, 3) := by decide +kernel
theorem d24 : decode yB 24 = .ok (.iconst 0, 1) := by decide +kernel
theorem d25 : decode yB 25 = .ok (.ireturn, 1) := by decide +kernel
theorem d26 : decode yB 26 = .ok (.iinc 2 1, 3) := by decide +kernel
theorem d29 : decode yB 29 = .ok (.goto (-20), 3) := by decide +kernel
theorem d32 : decode yB 32 = .ok (.iconst 1, 1) := by decide +kernel
theorem d33 : decode yB 33 = .ok (.ireturn, 1) := by decide +kernel
theorem d34 : decode yB 34 = .ok (.iconst 0, 1) := by decide +kernel
theorem d35 : decode yB 35 = .ok (.ireturn, 1) := by decide +kernel
def site : List Cond := []
def tab : Cond := tabOf yN yB 3 (some .boolean) site
def P (a : Addr) (A : Cell) (b : Addr) (B : Cell) (args : Array Value) (s : State) : Prop := args = #[.ref a, .ref b] ∧ XT.Arr .byte a A s ∧ Typed .byte A ∧ XT.Arr .byte b B s ∧ Typed .byte B
/-- whether two byte[] are equal, place for place -/
theorem law (l : Launch) (a : Addr) (A : Cell) (b : Addr) (B : Cell) : Law l yN 2 2 0 0 yB 3 (some .boolean) site (P a A b B) (Says01 (EqC A B)) [] 0 0 := by
  refine Law.of_walk (plainFor_of_name (by decide +kernel)) (by decide +kernel) (by decide +kernel) (by decide) (fun _ _ h => by rw [h.1]; rfl) (fun _ U U' hal hh h => ⟨h.1, h.2.1.mv hal hh, h.2.2.1, h.2.2.2.1.mv hal hh, h.2.2.2.2⟩) (fun r U U' V V' h1 hal h2 h => Says01.mv r U U' V V' h1 hal h2 h) ?_
  intro p e s m args below meth c s₁ X0 hexec hbytes hml hret hlk hnm hown hh0 W hP
  obtain ⟨rfl, hA, tA, hB, tB⟩ := hP
  have a31 := hA.2.2.2
  have b31 := hB.2.2.2
  have hA0 := hA.mv X0.warmed.alike hh0
  have hB0 := hB.mv X0.warmed.alike hh0
  have c1 : Steps p.tables e below (s₁.setTop (entryFrame m #[.ref a, .ref b] 3)) (s₁.setTop (mkF m 0 #[.val (.ref a), .val (.ref b), .unset] [])) := entry rfl
  have c2 : Steps p.tables e below (s₁.setTop (entryFrame m #[.ref a, .ref b] 3)) (s₁.setTop (mkF m 4 #[.val (.ref a), .val (.ref b), .unset] [.int (Int32.ofNat B.slots.size), .int (Int32.ofNat A.slots.size)])) := c1.trans (by
    refine XS.aloadN X0.here hexec rfl (hb hbytes d0) rfl rfl ?_
    refine X0.alen hexec hA0 rfl rfl (hb hbytes d1) ?_
    refine XS.aloadN X0.here hexec rfl (hb hbytes d2) rfl rfl ?_
    refine X0.alen hexec hB0 rfl rfl (hb hbytes d3) ?_
    exact Steps.refl _)
  by_cases hs : A.slots.size = B.slots.size
  · have c3 : Steps p.tables e below (s₁.setTop (entryFrame m #[.ref a, .ref b] 3)) (s₁.setTop (mkF m 9 #[.val (.ref a), .val (.ref b), .val (.int 0)] [])) := c2.trans (by
      refine XS.icmpNo X0.here hexec rfl (hb hbytes d4) rfl (ii_ne_f (by rw [hs])) ?_
      refine iconstV X0.here hexec rfl 0 (hb hbytes d7) (by decide) ?_
      refine XS.istoreN X0.here hexec rfl (hb hbytes d8) rfl rfl ?_
      exact Steps.refl _)
    have loop : ∀ (r i : Nat), i + r = A.slots.size → (∀ j, j < i → yv A j = yv B j) → Steps p.tables e below (s₁.setTop (entryFrame m #[.ref a, .ref b] 3)) (s₁.setTop (mkF m 9 #[.val (.ref a), .val (.ref b), .val (.int (Int32.ofNat i))] [])) → ∃ (pc : Nat) (Ls : Array Slot) (v : Int32), (pc = 25 ∨ pc = 33) ∧ ((v = 1 ∧ EqC A B) ∨ (v = 0 ∧ ¬ EqC A B)) ∧ Steps p.tables e below (s₁.setTop (entryFrame m #[.ref a, .ref b] 3)) (s₁.setTop (mkF m pc Ls [.int v])) := by
      intro r
      induction r with
      | zero =>
        intro i hi he cl
        exact ⟨33, _, 1, Or.inr rfl, Or.inl ⟨rfl, hs, fun j hj => he j (by omega)⟩, cl.trans (by
          refine XS.iloadN X0.here hexec rfl (hb hbytes d9) rfl ?_
          refine XS.aloadN X0.here hexec rfl (hb hbytes d10) rfl rfl ?_
          refine X0.alen hexec hA0 rfl rfl (hb hbytes d11) ?_
          refine XS.icmpYes X0.here hexec rfl (pc0 := 12) rfl (hb hbytes d12) rfl (ii_ge_t (nlt32 (by omega) (by omega))) (by decide) rfl ?_
          refine iconstV X0.here hexec rfl 1 (hb hbytes d32) (by decide) ?_
          exact Steps.refl _)⟩
      | succ r ih =>
        intro i hi he cl
        have c4 : Steps p.tables e below (s₁.setTop (entryFrame m #[.ref a, .ref b] 3)) (s₁.setTop (mkF m 21 #[.val (.ref a), .val (.ref b), .val (.int (Int32.ofNat i))] [.int (yv B i), .int (yv A i)])) := cl.trans (by
          refine XS.iloadN X0.here hexec rfl (hb hbytes d9) rfl ?_
          refine XS.aloadN X0.here hexec rfl (hb hbytes d10) rfl rfl ?_
          refine X0.alen hexec hA0 rfl rfl (hb hbytes d11) ?_
          refine XS.icmpNo X0.here hexec rfl (hb hbytes d12) rfl (ii_ge_f (lt32 (by omega) (by omega))) ?_
          refine XS.aloadN X0.here hexec rfl (hb hbytes d15) rfl rfl ?_
          refine XS.iloadN X0.here hexec rfl (hb hbytes d16) rfl ?_
          refine X0.aget hexec hA0 rfl (yv_get hA tA (i := i) (by omega)) rfl rfl (hb hbytes d17) ?_
          refine XS.aloadN X0.here hexec rfl (hb hbytes d18) rfl rfl ?_
          refine XS.iloadN X0.here hexec rfl (hb hbytes d19) rfl ?_
          refine X0.aget hexec hB0 rfl (yv_get hB tB (i := i) (by omega)) rfl rfl (hb hbytes d20) ?_
          exact Steps.refl _)
        by_cases hv : yv A i = yv B i
        · have c5 : Steps p.tables e below (s₁.setTop (entryFrame m #[.ref a, .ref b] 3)) (s₁.setTop (mkF m 9 #[.val (.ref a), .val (.ref b), .val (.int (Int32.ofNat i + 1))] [])) := c4.trans (by
            refine XS.icmpYes X0.here hexec rfl (pc0 := 21) rfl (hb hbytes d21) rfl (ii_eq_t hv) (by decide) rfl ?_
            refine iincV X0.here hexec rfl 1 (hb hbytes d26) (by decide) rfl rfl ?_
            refine XS.goto X0.here hexec rfl (pc0 := 29) rfl (hb hbytes d29) (by decide) rfl ?_
            exact Steps.refl _)
          rw [succ32] at c5
          exact ih (i + 1) (by omega) (fun j hj => by
            by_cases e : j = i
            · rw [e]; exact hv
            · exact he j (by omega)) c5
        · exact ⟨25, _, 0, Or.inl rfl, Or.inr ⟨rfl, fun q => hv (q.2 i (by omega))⟩, c4.trans (by
            refine XS.icmpNo X0.here hexec rfl (hb hbytes d21) rfl (ii_eq_f hv) ?_
            refine iconstV X0.here hexec rfl 0 (hb hbytes d24) (by decide) ?_
            exact Steps.refl _)⟩
    obtain ⟨pc, Ls, v, hpc, hv, cz⟩ := loop A.slots.size 0 (by omega) (fun j hj => absurd hj (Nat.not_lt_zero j)) c3
    have nv : narrow .boolean (.int v) = .int v := by rcases hv with ⟨rfl, -⟩ | ⟨rfl, -⟩ <;> rfl
    rcases hpc with rfl | rfl
    · exact ⟨s₁, some (.int v), _, _, _, X0, rfl, rfl, rfl, (fun h => by cases h), ⟨v, rfl, hh0, hv⟩, fun fs hl => cz.trans (X0.ireturnOut hexec hret nv (Or.inr (Or.inl rfl)) (hb hbytes d25) hl)⟩
    · exact ⟨s₁, some (.int v), _, _, _, X0, rfl, rfl, rfl, (fun h => by cases h), ⟨v, rfl, hh0, hv⟩, fun fs hl => cz.trans (X0.ireturnOut hexec hret nv (Or.inr (Or.inl rfl)) (hb hbytes d33) hl)⟩
  · have c3 : Steps p.tables e below (s₁.setTop (entryFrame m #[.ref a, .ref b] 3)) (s₁.setTop (mkF m 35 #[.val (.ref a), .val (.ref b), .unset] [.int 0])) := c2.trans (by
      refine XS.icmpYes X0.here hexec rfl (pc0 := 4) rfl (hb hbytes d4) rfl (ii_ne_t (ne32 a31 b31 hs)) (by decide) rfl ?_
      refine iconstV X0.here hexec rfl 0 (hb hbytes d34) (by decide) ?_
      exact Steps.refl _)
    exact ⟨s₁, some (.int 0), _, _, _, X0, rfl, rfl, rfl, (fun h => by cases h), ⟨0, rfl, hh0, Or.inr ⟨rfl, fun q => hs q.1⟩⟩, fun fs hl => c3.trans (X0.ireturnOut hexec hret rfl (Or.inr (Or.inl rfl)) (hb hbytes d35) hl)⟩
end LEq
theorem Cod.ty {cd : Int32} {n : Nat} {f : Nat → Int32} {V : Cell} (h : Cod cd n f V) : Typed .byte V := fun i v hv => by
  have hi : i < V.slots.size := (Array.getElem?_eq_some_iff.mp hv).1
  rcases h with ⟨-, k1, k2⟩ | ⟨-, k1, k2, -⟩
  · rw [(k2 i (by omega)).1] at hv; cases hv; exact fits_lo8 _
  · rcases Nat.mod_two_eq_zero_or_one i with e | e
    · obtain ⟨j, rfl⟩ : ∃ j, i = 2 * j := ⟨i / 2, by omega⟩
      rw [(k2 j (by omega)).1] at hv; cases hv; exact fits_lo8 _
    · obtain ⟨j, rfl⟩ : ∃ j, i = 2 * j + 1 := ⟨i / 2, by omega⟩
      rw [(k2 j (by omega)).2] at hv; cases hv; exact fits_lo8 _
/-- the same text -/
def SameT (n : Nat) (f : Nat → Int32) (k : Nat) (g : Nat → Int32) : Prop := n = k ∧ ∀ j, j < n → f j = g j
theorem lo8_inj {x y : Int32} (h0 : ¬ x < 0) (h1 : ¬ 255 < x) (k0 : ¬ y < 0) (k1 : ¬ 255 < y) (h : lo8 x = lo8 y) : x = y := by
  rw [← lo8_mask h0 h1, ← lo8_mask k0 k1, h]
/-- arrays coded by one coder are equal just where the texts are -/
theorem Cod.eqv {cd : Int32} {n k : Nat} {f g : Nat → Int32} {V V' : Cell} (h : Cod cd n f V) (h' : Cod cd k g V') (hf : ∀ j, j < n → ¬ f j < 0 ∧ ¬ 65535 < f j) (hg : ∀ j, j < k → ¬ g j < 0 ∧ ¬ 65535 < g j) : EqC V V' ↔ SameT n f k g := by
  have yvv : ∀ {W : Cell} {i : Nat} {x : Int32}, W.slots[i]? = some (.int x) → yv W i = x := fun q => by unfold yv; rw [q]
  rcases h with ⟨rfl, k1, k2⟩ | ⟨rfl, k1, k2, -⟩
  · rcases h' with ⟨-, m1, m2⟩ | ⟨e, -⟩
    · constructor
      · rintro ⟨e1, e2⟩
        refine ⟨by omega, fun j hj => ?_⟩
        have q := e2 j (by omega)
        rw [yvv (k2 j hj).1, yvv (m2 j (by omega)).1] at q
        exact lo8_inj (hf j hj).1 (k2 j hj).2 (hg j (by omega)).1 (m2 j (by omega)).2 q
      · rintro ⟨rfl, e2⟩
        refine ⟨by omega, fun j hj => ?_⟩
        rw [yvv (k2 j (by omega)).1, yvv (m2 j (by omega)).1, e2 j (by omega)]
    · exact absurd e (by decide)
  · rcases h' with ⟨e, -⟩ | ⟨-, m1, m2, -⟩
    · exact absurd e (by decide)
    · constructor
      · rintro ⟨e1, e2⟩
        refine ⟨by omega, fun j hj => ?_⟩
        have q1 := e2 (2 * j) (by omega)
        have q2 := e2 (2 * j + 1) (by omega)
        rw [yvv (k2 j hj).1, yvv (m2 j (by omega)).1] at q1
        rw [yvv (k2 j hj).2, yvv (m2 j (by omega)).2] at q2
        rw [← pair_says (hf j hj).1 (hf j hj).2, ← pair_says (hg j (by omega)).1 (hg j (by omega)).2, q1, q2]
      · rintro ⟨rfl, e2⟩
        refine ⟨by omega, fun i hi => ?_⟩
        rcases Nat.mod_two_eq_zero_or_one i with e | e
        · obtain ⟨j, rfl⟩ : ∃ j, i = 2 * j := ⟨i / 2, by omega⟩
          rw [yvv (k2 j (by omega)).1, yvv (m2 j (by omega)).1, e2 j (by omega)]
        · obtain ⟨j, rfl⟩ : ∃ j, i = 2 * j + 1 := ⟨i / 2, by omega⟩
          rw [yvv (k2 j (by omega)).2, yvv (m2 j (by omega)).2, e2 j (by omega)]
/-- two codings differ: so do the texts -/
theorem Cod.dif {cd cd' : Int32} {n k : Nat} {f g : Nat → Int32} {V V' : Cell} (h : Cod cd n f V) (h' : Cod cd' k g V') (hne : ¬ cd = cd') : ¬ SameT n f k g := by
  rintro ⟨rfl, e⟩
  rcases h with ⟨rfl, -, k2⟩ | ⟨rfl, -, -, j, hj, hw⟩
  · rcases h' with ⟨rfl, -⟩ | ⟨-, -, -, j, hj, hw⟩
    · exact hne rfl
    · exact (k2 j hj).2 (by rw [e j hj]; exact hw)
  · rcases h' with ⟨-, -, m2⟩ | ⟨rfl, -⟩
    · exact (m2 j hj).2 (by rw [← e j hj]; exact hw)
    · exact hne rfl
/-- an object of exactly C is an instance of C -/
theorem cinst {p : Program} {l : Launch} {e : Env} {R : Room} {s : State} {m : MethodId} {args : Array Value} {below : List Frame} {meth : Method} {c : Code} {T : State} {locs : List Loc} {cells slots : Nat} (X : Stand p l e R s m args below meth c T locs cells slots) (hexec : p.tables.exec = Jvm.exec) {own C : String} {index : Nat} (hown : s.vm.findClass own = some m.cls) (hlink : (Cond.classLink own index C).before args s = true) {a : Addr} (hE : Exact C a T)
    {g : JFrame} (hg : g.method = m) {rest : List Value} (hstack : g.stack = .ref a :: rest) (hdg : decode c.code g.pc = .ok (.instanceof index, 3)) :
    ∃ T', Stand p l e R s m args below meth c T' locs cells slots ∧ T'.heap = T.heap ∧ ∀ target, Steps p.tables e below (T'.setTop { g with pc := g.pc + 3, stack := .int 1 :: rest }) target → Steps p.tables e below (T.setTop g) target := by
  obtain ⟨cB, h1, D, h2, h3, h4⟩ := hE
  have h1' : s.vm.findClass C = some cB := by rw [← X.warmed.alike.findClass]; exact h1
  obtain ⟨vm', X', st⟩ := X.instanceofYes hexec hown hlink h2 h4 h1' (by rw [h3]; exact Jvm.Free.SB.assignable_self _ _) hg hstack hdg
  exact ⟨_, X', rfl, st⟩
theorem cself {p : Program} {l : Launch} {e : Env} {R : Room} {s : State} {m : MethodId} {args : Array Value} {below : List Frame} {meth : Method} {c : Code} {T : State} {locs : List Loc} {cells slots : Nat} (X : Stand p l e R s m args below meth c T locs cells slots) (hexec : p.tables.exec = Jvm.exec) {own C : String} {index : Nat} (hown : s.vm.findClass own = some m.cls) (hlink : (Cond.classLink own index C).before args s = true) {a : Addr} (hE : Exact C a T)
    {g : JFrame} (hg : g.method = m) {rest : List Value} (hstack : g.stack = .ref a :: rest) (hdg : decode c.code g.pc = .ok (.checkcast index, 3)) :
    ∃ T', Stand p l e R s m args below meth c T' locs cells slots ∧ T'.heap = T.heap ∧ ∀ target, Steps p.tables e below (T'.setTop { g with pc := g.pc + 3, stack := .ref a :: rest }) target → Steps p.tables e below (T.setTop g) target := by
  obtain ⟨cB, h1, D, h2, h3, h4⟩ := hE
  have h1' : s.vm.findClass C = some cB := by rw [← X.warmed.alike.findClass]; exact h1
  obtain ⟨vm', X', st⟩ := X.checkcastYes hexec hown hlink h2 h4 h1' (by rw [h3]; exact Jvm.Free.SB.assignable_self _ _) hg hstack hdg
  exact ⟨_, X', rfl, fun t h => st t (by rw [← hstack] at h; exact h)⟩
namespace SEq
def yN : MethodName := ⟨"java/lang/String", "equals", "(Ljava/lang/Object;)Z"⟩
abbrev yB : ByteArray := jdk_42_method_66_code
theorem d0 : decode yB 0 = .ok (.aload_n 0, 1) := by decide +kernel
theorem d1 : decode yB 1 = .ok (.aload_n 1, 1) := by decide +kernel
theorem d2 : decode yB 2 = .ok (.if_acmp (.ne) 5, 3) := by decide +kernel
theorem d5 : decode yB 5 = .ok (.iconst 1, 1) := by decide +kernel
theorem d6 : decode yB 6 = .ok (.ireturn, 1) := by decide +kernel
theorem d7 : decode yB 7 = .ok (.aload_n 1, 1) := by decide +kernel
theorem d8 : decode yB 8 = .ok (.instanceof 10, 3) := by decide +kernel
theorem d11 : decode yB 11 = .ok (.ifCond (.eq) 43, 3) := by decide +kernel
theorem d14 : decode yB 14 = .ok (.aload_n 1, 1) := by decide +kernel
theorem d15 : decode yB 15 = .ok (.checkcast 10, 3) := by decide +kernel
theorem d18 : decode yB 18 = .ok (.astore_n 2, 1) := by decide +kernel
theorem d19 : decode yB 19 = .ok (.getstatic 38, 3) := by decide +kernel
theorem d22 : decode yB 22 = .ok (.ifCond (.eq) 14, 3) := by decide +kernel
theorem d25 : decode yB 25 = .ok (.aload_n 0, 1) := by decide +kernel
theorem d26 : decode yB 26 = .ok (.getfield 15, 3) := by decide +kernel
theorem d29 : decode yB 29 = .ok (.aload_n 2, 1) := by decide +kernel
theorem d30 : decode yB 30 = .ok (.getfield 15, 3) := by decide +kernel
theorem d33 : decode yB 33 = .ok (.if_icmp (.ne) 21, 3) := by decide +kernel
theorem d36 : decode yB 36 = .ok (.aload_n 0, 1) := by decide +kernel
theorem d37 : decode yB 37 = .ok (.getfield 9, 3) := by decide +kernel
theorem d40 : decode yB 40 = .ok (.aload_n 2, 1) := by decide +kernel
theorem d41 : decode yB 41 = .ok (.getfield 9, 3) := by decide +kernel
theorem d44 : decode yB 44 = .ok (.invokestatic 541, 3) := by decide +kernel
theorem d47 : decode yB 47 = .ok (.ifCond (.eq) 7, 3) := by decide +kernel
theorem d50 : decode yB 50 = .ok (.iconst 1, 1) := by decide +kernel
theorem d51 : decode yB 51 = .ok (.goto 4, 3) := by decide +kernel
theorem d54 : decode yB 54 = .ok (.iconst 0, 1) := by decide +kernel
theorem d55 : decode yB 55 = .ok (.ireturn, 1) := by decide +kernel
def site : List Cond := [.classLink "java/lang/String" 10 "java/lang/String", .fieldLink "java/lang/String" 38 "java/lang/String" "COMPACT_STRINGS" "Z", .fieldLink "java/lang/String" 15 "java/lang/String" "coder" "B", .fieldLink "java/lang/String" 9 "java/lang/String" "value" "[B", LEq.tab] ++ staticW "java/lang/String" 541 LEq.yN
def tab : Cond := tabOf yN yB 3 (some .boolean) site
def P (x t : Addr) (V : Cell) (cd : Int32) (n : Nat) (f : Nat → Int32) (y t' : Addr) (V' : Cell) (cd' : Int32) (k : Nat) (g : Nat → Int32) (z : Int32) (args : Array Value) (s : State) : Prop := args = #[.ref x, .ref y] ∧ Txt x t V cd n f s ∧ Txt y t' V' cd' k g s ∧ StaticIs s "java/lang/String" "COMPACT_STRINGS" "Z" (.int z) ∧ ¬ z = 0
/-- equals(Object) of two Strings: whether the texts are the same -/
theorem law (l : Launch) (x t : Addr) (V : Cell) (cd : Int32) (n : Nat) (f : Nat → Int32) (y t' : Addr) (V' : Cell) (cd' : Int32) (k : Nat) (g : Nat → Int32) (z : Int32) : Law l yN 2 1 1 14 yB 3 (some .boolean) site (P x t V cd n f y t' V' cd' k g z) (Says01 (SameT n f k g)) [] 0 0 := by
  refine Law.of_walk (plainFor_of_name (by decide +kernel)) (by decide +kernel) (by decide +kernel) (by decide) (fun _ _ h => by rw [h.1]; rfl) (fun _ U U' hal hh h => ⟨h.1, h.2.1.mv hal hh, h.2.2.1.mv hal hh, h.2.2.2.1.there hal hh, h.2.2.2.2⟩) (fun r U U' V V' h1 hal h2 h => Says01.mv r U U' V V' h1 hal h2 h) ?_
  intro p e s m args below meth c s₁ X0 hexec hbytes hml hret hlk hnm hown hh0 W hP
  obtain ⟨rfl, hx, hy, s1, hz⟩ := hP
  have c1 : Steps p.tables e below (s₁.setTop (entryFrame m #[.ref x, .ref y] 3)) (s₁.setTop (mkF m 2 #[.val (.ref x), .val (.ref y), .unset] [.ref y, .ref x])) := Steps.trans (entry rfl) (by
    show Steps p.tables e below (s₁.setTop (mkF m 0 #[.val (.ref x), .val (.ref y), .unset] [])) _
    refine XS.aloadN X0.here hexec rfl (hb hbytes d0) rfl rfl ?_
    refine XS.aloadN X0.here hexec rfl (hb hbytes d1) rfl rfl ?_
    exact Steps.refl _)
  by_cases hxy : x = y
  · have c2 : Steps p.tables e below (s₁.setTop (entryFrame m #[.ref x, .ref y] 3)) (s₁.setTop (mkF m 6 #[.val (.ref x), .val (.ref y), .unset] [.int 1])) := c1.trans (by
      refine acmpNo X0.here hexec rfl (hb hbytes d2) rfl rfl rfl (by simp [acmp, hxy]) ?_
      refine iconstV X0.here hexec rfl 1 (hb hbytes d5) (by decide) ?_
      exact Steps.refl _)
    subst hxy
    have ec : cd = cd' := by
      obtain ⟨D, fd, a1, a2, a3⟩ := hx.2.2.1
      obtain ⟨D', fd', b1, b2, b3⟩ := hy.2.2.1
      cases a1.symm.trans b1
      obtain ⟨q1, q2, q3, q4⟩ := a2.1
      obtain ⟨r1, r2, r3, r4⟩ := b2.1
      cases q4.symm.trans r4
      cases a3.symm.trans b3; rfl
    have et : t = t' := by
      obtain ⟨D, fd, a1, a2, a3⟩ := hx.2.1
      obtain ⟨D', fd', b1, b2, b3⟩ := hy.2.1
      cases a1.symm.trans b1
      obtain ⟨q1, q2, q3, q4⟩ := a2.1
      obtain ⟨r1, r2, r3, r4⟩ := b2.1
      cases q4.symm.trans r4
      cases a3.symm.trans b3; rfl
    subst ec et
    have ev : V = V' := by cases hx.2.2.2.1.1.symm.trans hy.2.2.2.1.1; rfl
    subst ev
    have hs : SameT n f k g := (Cod.eqv hx.2.2.2.2.1 hy.2.2.2.2.1 hx.2.2.2.2.2 hy.2.2.2.2.2).mp ⟨rfl, fun _ _ => rfl⟩
    exact ⟨s₁, some (.int 1), _, _, _, X0, rfl, rfl, rfl, (fun h => by cases h), ⟨1, rfl, hh0, Or.inl ⟨rfl, hs⟩⟩, fun fs hl => c2.trans (X0.ireturnOut hexec hret rfl (Or.inr (Or.inl rfl)) (hb hbytes d6) hl)⟩
  · have c2 : Steps p.tables e below (s₁.setTop (entryFrame m #[.ref x, .ref y] 3)) (s₁.setTop (mkF m 8 #[.val (.ref x), .val (.ref y), .unset] [.ref y])) := c1.trans (by
      refine acmpYes X0.here hexec rfl (pc0 := 2) rfl (hb hbytes d2) rfl rfl rfl (by simp [acmp, hxy]) (by decide) rfl ?_
      refine XS.aloadN X0.here hexec rfl (hb hbytes d7) rfl rfl ?_
      exact Steps.refl _)
    obtain ⟨T3, X3, q3, st3⟩ := cinst X0 hexec hown (wk W (.classLink "java/lang/String" 10 "java/lang/String")) (hy.mv X0.warmed.alike hh0).1 (g := (mkF m 8 #[.val (.ref x), .val (.ref y), .unset] [.ref y])) rfl (rest := []) rfl (hb hbytes d8)
    have hh3 := q3.trans hh0
    have c4 : Steps p.tables e below (s₁.setTop (entryFrame m #[.ref x, .ref y] 3)) (T3.setTop (mkF m 15 #[.val (.ref x), .val (.ref y), .unset] [.ref y])) := (c2.trans (st3 _ (Steps.refl _))).trans (by
      refine XS.ifNo X3.here hexec rfl (hb hbytes d11) rfl (i0_eq_f (by decide)) ?_
      refine XS.aloadN X3.here hexec rfl (hb hbytes d14) rfl rfl ?_
      exact Steps.refl _)
    obtain ⟨T5, X5, q5, st5⟩ := cself X3 hexec hown (wk W (.classLink "java/lang/String" 10 "java/lang/String")) (hy.mv X3.warmed.alike hh3).1 (g := (mkF m 15 #[.val (.ref x), .val (.ref y), .unset] [.ref y])) rfl (rest := []) rfl (hb hbytes d15)
    have hh5 := q5.trans hh3
    have c6 : Steps p.tables e below (s₁.setTop (entryFrame m #[.ref x, .ref y] 3)) (T5.setTop (mkF m 19 #[.val (.ref x), .val (.ref y), .val (.ref y)] [])) := (c4.trans (st5 _ (Steps.refl _))).trans (by
      refine XS.astoreN X5.here hexec rfl (hb hbytes d18) rfl rfl rfl ?_
      exact Steps.refl _)
    obtain ⟨T7, X7, q7, st7⟩ := X5.sget hexec hown (wk W (.fieldLink "java/lang/String" 38 "java/lang/String" "COMPACT_STRINGS" "Z")) s1 (fun _ _ h => by rw [hh5]; exact h) (g := (mkF m 19 #[.val (.ref x), .val (.ref y), .val (.ref y)] [])) rfl (hb hbytes d19)
    have hh7 := q7.trans hh5
    have c8 : Steps p.tables e below (s₁.setTop (entryFrame m #[.ref x, .ref y] 3)) (T7.setTop (mkF m 26 #[.val (.ref x), .val (.ref y), .val (.ref y)] [.ref x])) := (c6.trans (st7 _ (Steps.refl _))).trans (by
      refine XS.ifNo X7.here hexec rfl (hb hbytes d22) rfl (i0_eq_f hz) ?_
      refine XS.aloadN X7.here hexec rfl (hb hbytes d25) rfl rfl ?_
      exact Steps.refl _)
    obtain ⟨T9, X9, q9, st9⟩ := X7.hget hexec hown (wk W (.fieldLink "java/lang/String" 15 "java/lang/String" "coder" "B")) (hx.mv X7.warmed.alike hh7).2.2.1 (g := (mkF m 26 #[.val (.ref x), .val (.ref y), .val (.ref y)] [.ref x])) rfl (rest := []) rfl (hb hbytes d26)
    have hh9 := q9.trans hh7
    have c10 : Steps p.tables e below (s₁.setTop (entryFrame m #[.ref x, .ref y] 3)) (T9.setTop (mkF m 30 #[.val (.ref x), .val (.ref y), .val (.ref y)] [.ref y, .int cd])) := (c8.trans (st9 _ (Steps.refl _))).trans (by
      refine XS.aloadN X9.here hexec rfl (hb hbytes d29) rfl rfl ?_
      exact Steps.refl _)
    obtain ⟨T11, X11, q11, st11⟩ := X9.hget hexec hown (wk W (.fieldLink "java/lang/String" 15 "java/lang/String" "coder" "B")) (hy.mv X9.warmed.alike hh9).2.2.1 (g := (mkF m 30 #[.val (.ref x), .val (.ref y), .val (.ref y)] [.ref y, .int cd])) rfl (rest := [.int cd]) rfl (hb hbytes d30)
    have hh11 := q11.trans hh9
    have c12 : Steps p.tables e below (s₁.setTop (entryFrame m #[.ref x, .ref y] 3)) (T11.setTop (mkF m 33 #[.val (.ref x), .val (.ref y), .val (.ref y)] [.int cd', .int cd])) := c10.trans (st11 _ (Steps.refl _))
    by_cases hcd : cd = cd'
    · subst hcd
      have c13 : Steps p.tables e below (s₁.setTop (entryFrame m #[.ref x, .ref y] 3)) (T11.setTop (mkF m 37 #[.val (.ref x), .val (.ref y), .val (.ref y)] [.ref x])) := c12.trans (by
        refine XS.icmpNo X11.here hexec rfl (hb hbytes d33) rfl (ii_ne_f rfl) ?_
        refine XS.aloadN X11.here hexec rfl (hb hbytes d36) rfl rfl ?_
        exact Steps.refl _)
      obtain ⟨T14, X14, q14, st14⟩ := X11.hget hexec hown (wk W (.fieldLink "java/lang/String" 9 "java/lang/String" "value" "[B")) (hx.mv X11.warmed.alike hh11).2.1 (g := (mkF m 37 #[.val (.ref x), .val (.ref y), .val (.ref y)] [.ref x])) rfl (rest := []) rfl (hb hbytes d37)
      have hh14 := q14.trans hh11
      have c15 : Steps p.tables e below (s₁.setTop (entryFrame m #[.ref x, .ref y] 3)) (T14.setTop (mkF m 41 #[.val (.ref x), .val (.ref y), .val (.ref y)] [.ref y, .ref t])) := (c13.trans (st14 _ (Steps.refl _))).trans (by
        refine XS.aloadN X14.here hexec rfl (hb hbytes d40) rfl rfl ?_
        exact Steps.refl _)
      obtain ⟨T16, X16, q16, st16⟩ := X14.hget hexec hown (wk W (.fieldLink "java/lang/String" 9 "java/lang/String" "value" "[B")) (hy.mv X14.warmed.alike hh14).2.1 (g := (mkF m 41 #[.val (.ref x), .val (.ref y), .val (.ref y)] [.ref y, .ref t])) rfl (rest := [.ref t]) rfl (hb hbytes d41)
      have hh16 := q16.trans hh14
      have c17 : Steps p.tables e below (s₁.setTop (entryFrame m #[.ref x, .ref y] 3)) (T16.setTop (mkF m 44 #[.val (.ref x), .val (.ref y), .val (.ref y)] [.ref t', .ref t])) := c15.trans (st16 _ (Steps.refl _))
      obtain ⟨v18, T18, X18, E18, g18⟩ := X16.callS hexec (LEq.law l t V t' V') hown (wks W (staticW "java/lang/String" 541 LEq.yN)) (wk W LEq.tab) (W := 0) (Nat.le_of_ble_eq_true rfl) (Nat.le_of_ble_eq_true rfl) (Nat.le_refl _) (Nat.le_refl _) (g := (mkF m 44 #[.val (.ref x), .val (.ref y), .val (.ref y)] [.ref t', .ref t])) rfl (by rw [hml]; rfl) c17 (argsL := [.ref t, .ref t']) (rest := []) rfl rfl (by show 2 * 0 + 0 ≤ _; decide) (hb hbytes d44) (⟨rfl, hx.2.2.2.1.mv X16.warmed.alike hh16, hx.2.2.2.2.1.ty, hy.2.2.2.1.mv X16.warmed.alike hh16, hy.2.2.2.2.1.ty⟩)
      obtain ⟨v, rfl, q18, hv⟩ := E18
      have iff := Cod.eqv hx.2.2.2.2.1 hy.2.2.2.2.1 hx.2.2.2.2.2 hy.2.2.2.2.2
      rcases hv with ⟨rfl, he⟩ | ⟨rfl, he⟩
      · have c19 : Steps p.tables e below (s₁.setTop (entryFrame m #[.ref x, .ref y] 3)) (T18.setTop (mkF m 55 #[.val (.ref x), .val (.ref y), .val (.ref y)] [.int 1])) := Steps.trans g18 (by
          refine XS.ifNo X18.here hexec rfl (hb hbytes d47) rfl (i0_eq_f (by decide)) ?_
          refine iconstV X18.here hexec rfl 1 (hb hbytes d50) (by decide) ?_
          refine XS.goto X18.here hexec rfl (pc0 := 51) rfl (hb hbytes d51) (by decide) rfl ?_
          exact Steps.refl _)
        exact ⟨T18, some (.int 1), _, _, _, X18, rfl, rfl, rfl, (fun h => by cases h), ⟨1, rfl, q18.trans hh16, Or.inl ⟨rfl, iff.mp he⟩⟩, fun fs hl => c19.trans (X18.ireturnOut hexec hret rfl (Or.inr (Or.inl rfl)) (hb hbytes d55) hl)⟩
      · have c19 : Steps p.tables e below (s₁.setTop (entryFrame m #[.ref x, .ref y] 3)) (T18.setTop (mkF m 55 #[.val (.ref x), .val (.ref y), .val (.ref y)] [.int 0])) := Steps.trans g18 (by
          refine XS.ifYes X18.here hexec rfl (pc0 := 47) rfl (hb hbytes d47) rfl (i0_eq_t rfl) (by decide) rfl ?_
          refine iconstV X18.here hexec rfl 0 (hb hbytes d54) (by decide) ?_
          exact Steps.refl _)
        exact ⟨T18, some (.int 0), _, _, _, X18, rfl, rfl, rfl, (fun h => by cases h), ⟨0, rfl, q18.trans hh16, Or.inr ⟨rfl, fun q => he (iff.mpr q)⟩⟩, fun fs hl => c19.trans (X18.ireturnOut hexec hret rfl (Or.inr (Or.inl rfl)) (hb hbytes d55) hl)⟩
    · have c13 : Steps p.tables e below (s₁.setTop (entryFrame m #[.ref x, .ref y] 3)) (T11.setTop (mkF m 55 #[.val (.ref x), .val (.ref y), .val (.ref y)] [.int 0])) := c12.trans (by
        refine XS.icmpYes X11.here hexec rfl (pc0 := 33) rfl (hb hbytes d33) rfl (ii_ne_t hcd) (by decide) rfl ?_
        refine iconstV X11.here hexec rfl 0 (hb hbytes d54) (by decide) ?_
        exact Steps.refl _)
      exact ⟨T11, some (.int 0), _, _, _, X11, rfl, rfl, rfl, (fun h => by cases h), ⟨0, rfl, hh11, Or.inr ⟨rfl, Cod.dif hx.2.2.2.2.1 hy.2.2.2.2.1 hcd⟩⟩, fun fs hl => c13.trans (X11.ireturnOut hexec hret rfl (Or.inr (Or.inl rfl)) (hb hbytes d55) hl)⟩
theorem pays {l : Launch} {R : Room} {p : Program} {e : Env} {below : List Frame} {s : State} {sargs : Array Value} {len W : Nat} (x t : Addr) (V : Cell) (cd : Int32) (n : Nat) (f : Nat → Int32) (y t' : Addr) (V' : Cell) (cd' : Int32) (k : Nat) (g : Nat → Int32) (z : Int32) (htab : tab.before sargs s = true) (hfr : 2 ≤ R.frames) (hlo : W + 28 ≤ R.locals) :
    Back l R p e below s sargs yN len W (fun A₁ a₁ => A₁.cells + 0 ≤ R.cells ∧ A₁.slots + 0 ≤ R.slots ∧ P x t V cd n f y t' V' cd' k g z a₁ A₁.U) (fun A₁ _ v₁ B₁ => Says01 (SameT n f k g) v₁ A₁.U B₁.U ∧ B₁.locs = A₁.locs ++ [] ∧ B₁.cells = A₁.cells + 0 ∧ B₁.slots = A₁.slots + 0) :=
  (law l x t V cd n f y t' V' cd' k g z).pays htab hfr (by omega)
end SEq
end StrChars
namespace StrChars.Road
open Jvm Sem ClassFile Op Lib Jvm.Stand Jvm.Free Jvm.Free.XT
open Jvm.Lib.Cold (StaticIs)
/-- the words of String.equals(Object) -/
abbrev wordsEq : List Jvm.Cond := [.code SEq.yN SEq.yB 3 (some .boolean), .initialized ST, .classLink ST 10 ST, .fieldLink ST 38 ST "COMPACT_STRINGS" "Z", .fieldLink ST 15 ST "coder" "B", .fieldLink ST 9 ST "value" "[B", .methodLink ST 541 LEq.yN, .static LEq.yN, .code LEq.yN LEq.yB 3 (some .boolean), .initialized "java/lang/StringLatin1"]
theorem tabEq_of {a : Array Value} {s : State} (h : ∀ w ∈ wordsEq, w.before a s = true) : SEq.tab.before a s = true := by
  have hl : LEq.tab.before a s = true := unparts (wk h (.code LEq.yN LEq.yB 3 (some .boolean))) (wks h (.initialized LEq.yN.cls :: LEq.site))
  have q := consq hl h
  exact unparts (wk q (.code SEq.yN SEq.yB 3 (some .boolean))) (wks q (.initialized SEq.yN.cls :: SEq.site))
theorem movedEq {Z s : State} {a0 args : Array Value} (hZ : Z.Warmed39 s.vm) (hw : ∀ d ∈ wordsEq, d.before a0 Z = true) : ∀ d ∈ wordsEq, d.before args s = true := fun d hd => by
  have t : ∀ d ∈ wordsEq, (d.onTables && d.keepsFace) = true := by decide +kernel
  exact RoadKit.mv hZ (hw d hd) (t d hd)
/-- the road's facts of a String, as the laws ask it -/
theorem txt_of {Z U : State} {a0 : Array Value} {kI : Nat} (wi : (Jvm.Cond.instantiable ST kI).before a0 Z = true) (al : Z.vm.Alike U.vm) {x t : Addr} {kb : ClassId} {cs : List Int32} {cd N2 : Int32} {vs : List Value} (E : RoadKit.Exa Z U.heap x ST) (V : RoadKit.Fld Z U.heap x ST "value" "[B" (.ref t)) (C : RoadKit.Fld Z U.heap x ST "coder" "B" (.int cd)) (K : RoadKit.Arv Z U.heap t kb .byte N2 vs (.int 0)) (hc : CodA cs cd N2 vs) (hb : ∀ c ∈ cs, ¬ c < 0 ∧ ¬ (65535 : Int32) < c) (l2 : cs.length ≤ 4000) :
    ∃ A, Txt x t A cd cs.length (fun j => cs.getD j 0) U := by
  obtain ⟨A, K1, K2, K3, K4, K5, K6⟩ := K
  have hcod := hc.cod (by omega) K3 K5
  obtain ⟨D, fV, fC, hB, F1, F2, g1, g2, -, -⟩ := strObj wi al E V C
  exact ⟨A, ⟨_, hB.2.2.1, D, hB.1, rfl, by cases q : D.vm <;> first | rfl | exact absurd q (hB.2.1.2 _)⟩, Has.of hB F1 g1, Has.of hB F2 g2, ⟨K1.1, State.isArrayOf_alike al K1.2.1, K1.2.2, by rcases hcod with ⟨-, q, -⟩ | ⟨-, q, -⟩ <;> omega⟩, hcod, fun j hj => by
    have e : cs.getD j 0 = cs[j] := by simp [List.getD_eq_getElem?_getD, hj]
    show ¬ cs.getD j 0 < 0 ∧ ¬ 65535 < cs.getD j 0
    rw [e]; exact hb _ (List.getElem_mem _)⟩
theorem same_list (cs ds : List Int32) : SameT cs.length (fun j => cs.getD j 0) ds.length (fun j => ds.getD j 0) ↔ cs = ds := by
  constructor
  · rintro ⟨e, q⟩
    refine List.ext_getElem e fun j h1 h2 => ?_
    have := q j h1
    simpa [List.getD_eq_getElem?_getD, h1, h2] using this
  · rintro rfl
    exact ⟨rfl, fun _ _ => rfl⟩
/-- **equals(Object) OF TWO SUCH STRINGS**: 1 just where the chars are the same -/
theorem eqW {p : Program} {l : Launch} {e : Env} {R : Room} {s : State} {args : Array Value} {below : List Frame} {len W : Nat} {Z : State} {a0 : Array Value} {h : Heap} (hZ : Z.Warmed39 s.vm) (hw : ∀ d ∈ wordsEq, d.before a0 Z = true) {kI : Nat} (wi : (Jvm.Cond.instantiable ST kI).before a0 Z = true)
    {x t : Addr} {kb : ClassId} {cs : List Int32} {cd N2 : Int32} {vs : List Value} (E : RoadKit.Exa Z h x ST) (V : RoadKit.Fld Z h x ST "value" "[B" (.ref t)) (C : RoadKit.Fld Z h x ST "coder" "B" (.int cd)) (K : RoadKit.Arv Z h t kb .byte N2 vs (.int 0)) (hc : CodA cs cd N2 vs) (hb : ∀ c ∈ cs, ¬ c < 0 ∧ ¬ (65535 : Int32) < c) (l2 : cs.length ≤ 4000)
    {y t' : Addr} {kb' : ClassId} {ds : List Int32} {cd' N2' : Int32} {vs' : List Value} (E' : RoadKit.Exa Z h y ST) (V' : RoadKit.Fld Z h y ST "value" "[B" (.ref t')) (C' : RoadKit.Fld Z h y ST "coder" "B" (.int cd')) (K' : RoadKit.Arv Z h t' kb' .byte N2' vs' (.int 0)) (hc' : CodA ds cd' N2' vs') (hb' : ∀ c ∈ ds, ¬ c < 0 ∧ ¬ (65535 : Int32) < c) (l2' : ds.length ≤ 4000)
    {z : Int32} (S : RoadKit.Sta Z h ST "COMPACT_STRINGS" "Z" (.int z)) (hz : ¬ z = 0) (hfr : 2 ≤ R.frames) (hlo : W + 28 ≤ R.locals) :
    Back l R p e below s args (⟨"java/lang/String", "equals", "(Ljava/lang/Object;)Z"⟩ : MethodName) len W (fun P a => a = #[.ref x, .ref y] ∧ P.U.heap = h ∧ P.cells + 0 ≤ R.cells ∧ P.slots + 0 ≤ R.slots)
      (fun P _ v B => ∃ L, (((v = some (.int 1) ∧ cs = ds) ∨ (v = some (.int 0) ∧ ¬ cs = ds)) ∧ L = [] ∧ B.U.heap = h) ∧ B.locs = P.locs ++ L ∧ B.cells = P.cells + 0 ∧ B.slots = P.slots + 0) := by
  intro m meth c P g ig mk a X hg hsize hdg hW hn hp'
  obtain ⟨rfl, rfl, r1, r2⟩ := hp'
  have al : Z.vm.Alike P.U.vm := hZ.alike.trans X.warmed.alike
  obtain ⟨A, hx⟩ := txt_of wi al E V C K hc hb l2
  obtain ⟨A', hy⟩ := txt_of wi al E' V' C' K' hc' hb' l2'
  obtain ⟨v, B, X', ⟨⟨w, hv, hh, hq⟩, hl, hk, hs⟩, st⟩ := SEq.pays x t A cd cs.length (fun j => cs.getD j 0) y t' A' cd' ds.length (fun j => ds.getD j 0) z (tabEq_of (movedEq hZ hw)) hfr hlo m meth c P g ig mk _ X hg hsize hdg hW hn ⟨r1, r2, rfl, hx, hy, sta_is al S, hz⟩
  refine ⟨v, B, X', ⟨[], ⟨?_, rfl, hh⟩, hl, hk, hs⟩, st⟩
  rcases hq with ⟨rfl, q⟩ | ⟨rfl, q⟩
  · exact Or.inl ⟨hv, (same_list cs ds).mp q⟩
  · exact Or.inr ⟨hv, fun e => q ((same_list cs ds).mpr e)⟩
end StrChars.Road
namespace StrChars
open Jvm Sem ClassFile Op Lib Jvm.Stand Jvm.Free.XT Jvm.Free.ALB Jvm.Free.JM Jvm.Free
open Jvm.Lib.Cold (StaticIs)
namespace ChN
def yN : MethodName := ⟨"java/lang/String", "charAt", "(I)C"⟩
abbrev yB : ByteArray := jdk_42_method_56_code
theorem d0 : decode yB 0 = .ok (.aload_n 0, 1) := by decide +kernel
theorem d1 : decode yB 1 = .ok (.invokevirtual 492, 3) := by decide +kernel
theorem d4 : decode yB 4 = .ok (.ifCond (.eq) 12, 3) := by decide +kernel
theorem d7 : decode yB 7 = .ok (.aload_n 0, 1) := by decide +kernel
theorem d8 : decode yB 8 = .ok (.getfield 9, 3) := by decide +kernel
theorem d11 : decode yB 11 = .ok (.iload_n 1, 1) := by decide +kernel
theorem d12 : decode yB 12 = .ok (.invokestatic 495, 3) := by decide +kernel
theorem d15 : decode yB 15 = .ok (.ireturn, 1) := by decide +kernel
def site : List Cond := [.fieldLink "java/lang/String" 9 "java/lang/String" "value" "[B", IsL.tab, LChA.tab] ++ virtW "java/lang/String" 492 "java/lang/String" IsL.yN IsL.yN ++ staticW "java/lang/String" 495 LChA.yN
def tab : Cond := tabOf yN yB 2 (some .char) site
def P (x t : Addr) (V : Cell) (n : Nat) (f : Nat → Int32) (z : Int32) (fm : Value) (i : Nat) (args : Array Value) (s : State) : Prop := args = #[.ref x, .int (Int32.ofNat i)] ∧ Txt x t V 0 n f s ∧ i < n ∧ StaticIs s "java/lang/String" "COMPACT_STRINGS" "Z" (.int z) ∧ ¬ z = 0 ∧ StaticIs s "jdk/internal/util/Preconditions" "SIOOBE_FORMATTER" "Ljava/util/function/BiFunction;" fm ∧ fm.isRef = true
def E (f : Nat → Int32) (i : Nat) (r : Option Value) (s u : State) : Prop := XT.PureE (some (.int (f i))) r s u
/-- charAt(i) of a Latin-1 String of n chars, i < n: f i -/
theorem law (l : Launch) (x t : Addr) (V : Cell) (n : Nat) (f : Nat → Int32) (z : Int32) (fm : Value) (i : Nat) : Law l yN 2 1 3 40 yB 2 (some .char) site (P x t V n f z fm i) (E f i) [] 0 0 := by
  refine Law.of_walk (plainFor_of_name (by decide +kernel)) (by decide +kernel) (by decide +kernel) (by decide) (fun _ _ h => by rw [h.1]; rfl) (fun _ U U' hal hh h => ⟨h.1, h.2.1.mv hal hh, h.2.2.1, h.2.2.2.1.there hal hh, h.2.2.2.2.1, h.2.2.2.2.2.1.there hal hh, h.2.2.2.2.2.2⟩) (fun r U U' V V' h1 hal h2 h => XT.PureE.mv r U U' V V' h1 hal h2 h) ?_
  intro p e s m args below meth c s₁ X0 hexec hbytes hml hret hlk hnm hown hh0 W hP
  obtain ⟨rfl, hx, hi, s1, hz, s3, rf⟩ := hP
  have v31 := hx.2.2.2.1.2.2.2
  have hr := hx.2.2.2.2.2 i hi
  have hx0 := hx.mv X0.warmed.alike hh0
  have c1 : Steps p.tables e below (s₁.setTop (entryFrame m #[.ref x, .int (Int32.ofNat i)] 2)) (s₁.setTop (mkF m 1 #[.val (.ref x), .val (.int (Int32.ofNat i))] [.ref x])) := Steps.trans (entry rfl) (by
    show Steps p.tables e below (s₁.setTop (mkF m 0 #[.val (.ref x), .val (.int (Int32.ofNat i))] [])) _
    refine XS.aloadN X0.here hexec rfl (hb hbytes d0) rfl rfl ?_
    exact Steps.refl _)
  obtain ⟨v2, T2, X2, E2, g2⟩ := X0.callV hexec (IsL.law l x 0 z) hown (wks W (virtW "java/lang/String" 492 "java/lang/String" IsL.yN IsL.yN)) rfl (by decide) (wk W IsL.tab) (W := 0) (Nat.le_of_ble_eq_true rfl) (Nat.le_of_ble_eq_true rfl) (Nat.le_refl _) (Nat.le_refl _) (hx0.1.fc X0.warmed.alike) hx0.1.is (g := (mkF m 1 #[.val (.ref x), .val (.int (Int32.ofNat i))] [.ref x])) rfl (by rw [hml]; rfl) c1 (argsL := []) (rest := []) rfl rfl (by show 2 * 0 + 0 ≤ _; decide) (hb hbytes d1) (⟨rfl, hx0.2.2.1, hx.2.2.2.2.1.cd, s1.there X0.warmed.alike hh0, hz⟩)
  obtain ⟨rfl, q2⟩ := E2
  have hh2 := q2.trans hh0
  have hx2 := hx.mv X2.warmed.alike hh2
  obtain ⟨-, k1, k2⟩ | ⟨k0, -⟩ := hx.2.2.2.2.1
  · have c3 : Steps p.tables e below (s₁.setTop (entryFrame m #[.ref x, .int (Int32.ofNat i)] 2)) (T2.setTop (mkF m 8 #[.val (.ref x), .val (.int (Int32.ofNat i))] [.ref x])) := Steps.trans g2 (by
      refine XS.ifNo X2.here hexec rfl (hb hbytes d4) rfl (i0_eq_f (by decide)) ?_
      refine XS.aloadN X2.here hexec rfl (hb hbytes d7) rfl rfl ?_
      exact Steps.refl _)
    obtain ⟨T4, X4, q4, st4⟩ := X2.hget hexec hown (wk W (.fieldLink "java/lang/String" 9 "java/lang/String" "value" "[B")) hx2.2.1 (g := (mkF m 8 #[.val (.ref x), .val (.int (Int32.ofNat i))] [.ref x])) rfl (rest := []) rfl (hb hbytes d8)
    have hh4 := q4.trans hh2
    have c5 : Steps p.tables e below (s₁.setTop (entryFrame m #[.ref x, .int (Int32.ofNat i)] 2)) (T4.setTop (mkF m 12 #[.val (.ref x), .val (.int (Int32.ofNat i))] [.int (Int32.ofNat i), .ref t])) := (c3.trans (st4 _ (Steps.refl _))).trans (by
      refine XS.iloadN X4.here hexec rfl (hb hbytes d11) rfl ?_
      exact Steps.refl _)
    obtain ⟨v6, T6, X6, E6, g6⟩ := X4.callS hexec (LChA.law l t V i (lo8 (f i)) fm) hown (wks W (staticW "java/lang/String" 495 LChA.yN)) (wk W LChA.tab) (W := 0) (Nat.le_of_ble_eq_true rfl) (Nat.le_of_ble_eq_true rfl) (Nat.le_refl _) (Nat.le_refl _) (g := (mkF m 12 #[.val (.ref x), .val (.int (Int32.ofNat i))] [.int (Int32.ofNat i), .ref t])) rfl (by rw [hml]; rfl) c5 (argsL := [.ref t, .int (Int32.ofNat i)]) (rest := []) rfl rfl (by show 2 * 0 + 0 ≤ _; decide) (hb hbytes d12) (⟨rfl, hx.2.2.2.1.mv X4.warmed.alike hh4, (k2 i hi).1, s3.there X4.warmed.alike hh4, rf⟩)
    obtain ⟨rfl, q6⟩ := E6
    rw [chr8_lo8 hr.1 (k2 i hi).2] at g6
    exact ⟨T6, some (.int (f i)), _, _, _, X6, rfl, rfl, rfl, (fun h => by cases h), ⟨rfl, q6.trans hh4⟩, fun fs hl => Steps.trans g6 (X6.ireturnOut hexec hret (narrow_ch hr.1 hr.2) (Or.inr (Or.inr (Or.inr (Or.inl rfl)))) (hb hbytes d15) hl)⟩
  · exact absurd k0 (by decide)
theorem pays {l : Launch} {R : Room} {p : Program} {e : Env} {below : List Frame} {s : State} {sargs : Array Value} {len W : Nat} (x t : Addr) (V : Cell) (n : Nat) (f : Nat → Int32) (z : Int32) (fm : Value) (i : Nat) (htab : tab.before sargs s = true) (hfr : 4 ≤ R.frames) (hlo : W + 53 ≤ R.locals) :
    Back l R p e below s sargs yN len W (fun A₁ a₁ => A₁.cells + 0 ≤ R.cells ∧ A₁.slots + 0 ≤ R.slots ∧ P x t V n f z fm i a₁ A₁.U) (fun A₁ _ v₁ B₁ => E f i v₁ A₁.U B₁.U ∧ B₁.locs = A₁.locs ++ [] ∧ B₁.cells = A₁.cells + 0 ∧ B₁.slots = A₁.slots + 0) :=
  (law l x t V n f z fm i).pays htab hfr (by omega)
end ChN
end StrChars
namespace StrChars.Road
open Jvm Sem ClassFile Op Lib Jvm.Stand Jvm.Free Jvm.Free.XT
open Jvm.Lib.Cold (StaticIs)
/-- the words of String.charAt(int), the Latin-1 road alone -/
abbrev wordsChN : List Jvm.Cond := [.code ChN.yN ChN.yB 2 (some .char), .initialized ST, .fieldLink ST 9 ST "value" "[B", .fieldLink ST 38 ST "COMPACT_STRINGS" "Z", .fieldLink ST 15 ST "coder" "B", .code IsL.yN IsL.yB 1 (some .boolean), .methodLink ST 492 IsL.yN, .declares IsL.yN, .selects ST IsL.yN IsL.yN, .instanceMethod IsL.yN,
  .methodLink ST 495 LChA.yN, .static LChA.yN, .code LChA.yN LChA.yB 2 (some .char), .initialized "java/lang/StringLatin1", .methodLink "java/lang/StringLatin1" 9 JO.Str_checkIndex.yN, .static JO.Str_checkIndex.yN, .code JO.Str_checkIndex.yN JO.Str_checkIndex.yB 2 none,
  .fieldLink ST 1053 "jdk/internal/util/Preconditions" "SIOOBE_FORMATTER" "Ljava/util/function/BiFunction;", .methodLink ST 1059 JC.PreCheck.yN, .static JC.PreCheck.yN, .code JC.PreCheck.yN JC.PreCheck.yB 3 (some .int), .initialized "jdk/internal/util/Preconditions"]
theorem tabChN_of {a : Array Value} {s : State} (h : ∀ w ∈ wordsChN, w.before a s = true) : ChN.tab.before a s = true := by
  have hp : JC.PreCheck.tab.before a s = true := unparts (wk h (.code JC.PreCheck.yN JC.PreCheck.yB 3 (some .int))) (wks h (.initialized JC.PreCheck.yN.cls :: JC.PreCheck.site))
  have qk := consq hp h
  have hk : JO.Str_checkIndex.tab.before a s = true := unparts (wk qk (.code JO.Str_checkIndex.yN JO.Str_checkIndex.yB 2 none)) (wks qk (.initialized JO.Str_checkIndex.yN.cls :: JO.Str_checkIndex.site))
  have ql := consq hk h
  have hl : LChA.tab.before a s = true := unparts (wk ql (.code LChA.yN LChA.yB 2 (some .char))) (wks ql (.initialized LChA.yN.cls :: LChA.site))
  have hi : IsL.tab.before a s = true := unparts (wk h (.code IsL.yN IsL.yB 1 (some .boolean))) (wks h (.initialized IsL.yN.cls :: IsL.site))
  have q := consq hi (consq hl h)
  exact unparts (wk q (.code ChN.yN ChN.yB 2 (some .char))) (wks q (.initialized ChN.yN.cls :: ChN.site))
theorem movedChN {Z s : State} {a0 args : Array Value} (hZ : Z.Warmed39 s.vm) (hw : ∀ d ∈ wordsChN, d.before a0 Z = true) : ∀ d ∈ wordsChN, d.before args s = true := fun d hd => by
  have t : ∀ d ∈ wordsChN, (d.onTables && d.keepsFace) = true := by decide +kernel
  exact RoadKit.mv hZ (hw d hd) (t d hd)
/-- **charAt(i) OF A LATIN-1 STRING**, i < n: the char -/
theorem chN {p : Program} {l : Launch} {e : Env} {R : Room} {s : State} {args : Array Value} {below : List Frame} {len W : Nat} {Z : State} {a0 : Array Value} {h : Heap} (hZ : Z.Warmed39 s.vm) (hw : ∀ d ∈ wordsChN, d.before a0 Z = true) {kI : Nat} (wi : (Jvm.Cond.instantiable ST kI).before a0 Z = true)
    {x t : Addr} {kb : ClassId} {cs : List Int32} {N2 z : Int32} {vs : List Value} {fm : Value} {i : Nat} {j : Int32} (E : RoadKit.Exa Z h x ST) (V : RoadKit.Fld Z h x ST "value" "[B" (.ref t)) (C : RoadKit.Fld Z h x ST "coder" "B" (.int 0)) (K : RoadKit.Arv Z h t kb .byte N2 vs (.int 0)) (hc : CodA cs 0 N2 vs) (hb : ∀ c ∈ cs, ¬ c < 0 ∧ ¬ (65535 : Int32) < c)
    (S : RoadKit.Sta Z h ST "COMPACT_STRINGS" "Z" (.int z)) (hz : ¬ z = 0) (F : RoadKit.Sta Z h "jdk/internal/util/Preconditions" "SIOOBE_FORMATTER" "Ljava/util/function/BiFunction;" fm) (rf : fm.isRef = true) (l2 : cs.length ≤ 4000) (hi : i < cs.length) (hj : j = Int32.ofNat i) (hfr : 4 ≤ R.frames) (hlo : W + 53 ≤ R.locals) :
    Back l R p e below s args (⟨"java/lang/String", "charAt", "(I)C"⟩ : MethodName) len W (fun P a => a = #[.ref x, .int j] ∧ P.U.heap = h ∧ P.cells + 0 ≤ R.cells ∧ P.slots + 0 ≤ R.slots)
      (fun P _ v B => ∃ L, (v = some (.int (cs.getD i 0)) ∧ L = [] ∧ B.U.heap = h) ∧ B.locs = P.locs ++ L ∧ B.cells = P.cells + 0 ∧ B.slots = P.slots + 0) := by
  subst hj
  intro m meth c P g ig mk a X hg hsize hdg hW hn hp'
  obtain ⟨rfl, rfl, r1, r2⟩ := hp'
  have al : Z.vm.Alike P.U.vm := hZ.alike.trans X.warmed.alike
  obtain ⟨A, hx⟩ := txt_of wi al E V C K hc hb l2
  obtain ⟨v, B, X', ⟨⟨hv, hh⟩, hl, hk, hs⟩, st⟩ := ChN.pays x t A cs.length (fun j => cs.getD j 0) z fm i (tabChN_of (movedChN hZ hw)) hfr hlo m meth c P g ig mk _ X hg hsize hdg hW hn ⟨r1, r2, rfl, hx, hi, sta_is al S, hz, sta_is al F, rf⟩
  exact ⟨v, B, X', ⟨[], ⟨hv, rfl, hh⟩, hl, hk, hs⟩, st⟩
end StrChars.Road
end Jvm.Pilot.@@N@@
namespace Jvm.Pilot.@@N@@
open Jvm Jvm.ClassFile Sem Op Lib Jvm.Free Jvm.Stand Jvm.LawKit Jvm.RoadKit Bundle Jvm.Pilot.@@N@@.Jvm.D
/-- from U the run comes to a return that Q allows -/
def Go (p : Program) (e : Env) (below : List Frame) (s : State) (C S : Nat) (Q : Option Value → Heap → List Loc → Prop) (U : State) : Prop :=
  ∃ t o, Steps p.tables e below U t ∧ t.status = .running ∧ Ended t below o ∧ ∃ v L, o = .returned v ∧ Q v t.heap L ∧ FrameEnd s o t L C S
theorem own_w {a0 : Array Value} {Z : State} (hw : ∀ d ∈ tables_1, d.before a0 Z = true) (i : Nat) {d : Jvm.Cond} (h : tables_1[i]? = some d) : d.before a0 Z = true := hw d (List.mem_of_getElem? h)
section own_go
variable {p : Program} {l : Launch} {e : Env} {R : Room} {s : State} {m : MethodId} {args : Array Value} {below : List Frame} {meth : Method} {c : Code} {T U U' : State} {locs : List Loc} {cells slots C S : Nat} {Q : Option Value → Heap → List Loc → Prop}
theorem own_at {T : State} {h : Heap} {a : Addr} {c : Option Cell} (e : T.heap = h) (q : h[a]? = c) : T.heap[a]? = c := by rw [e]; exact q
theorem Go.of (h : ∀ t, Steps p.tables e below U' t → Steps p.tables e below U t) (g : Go p e below s C S Q U') : Go p e below s C S Q U := by
  obtain ⟨t, o, k, r⟩ := g
  exact ⟨t, o, h t k, r⟩
theorem Go.tr (h : Steps p.tables e below U U') (g : Go p e below s C S Q U') : Go p e below s C S Q U := by
  obtain ⟨t, o, k, r⟩ := g
  exact ⟨t, o, h.trans k, r⟩
theorem Go.out (X : Stand p l e R s m args below meth c T locs cells slots) {v : Option Value} (hv : meth.sig.returnType = none → v = none) (hlk : meth.locks = false)
    (hs : ∀ fs, (∀ (f : JFrame) (acts : List Action), f.method = m → f.locked = none → f.entered = [] → (doReturn e (T.setTop f) acts v).1 = T.setFrames fs) → Steps p.tables e below U (T.setFrames fs))
    (hQ : Q v T.heap locs) (hC : cells ≤ C) (hS : slots ≤ S) : Go p e below s C S Q U := by
  obtain ⟨fs, hr, hrun, hended, hW, hsame⟩ := X.leave (v := v) hv hlk
  exact ⟨_, _, hs fs hr, hrun, hended, _, _, rfl, hQ, ⟨_, rfl⟩, hW, hsame.mono hC hS⟩
end own_go
theorem own_lt1 {x y : Int32} {k : Int} (hy : y.toInt = k) (h : x < y) : x.toInt < k := hy ▸ Int32.lt_iff_toInt_lt.mp h
theorem own_ge1 {x y : Int32} {k : Int} (hy : y.toInt = k) (h : ¬ x < y) : k ≤ x.toInt := by rw [Int32.lt_iff_toInt_lt, hy] at h; omega
theorem own_lt2 {x y : Int32} {k : Int} (hy : y.toInt = k) (h : y < x) : k < x.toInt := hy ▸ Int32.lt_iff_toInt_lt.mp h
theorem own_ge2 {x y : Int32} {k : Int} (hy : y.toInt = k) (h : ¬ y < x) : x.toInt ≤ k := by rw [Int32.lt_iff_toInt_lt, hy] at h; omega
theorem own_eq1 {x y : Int32} {k : Int} (hy : y.toInt = k) (h : x = y) : x.toInt = k := by rw [h, hy]
theorem own_ne1 {x y : Int32} {k : Int} (hy : y.toInt = k) (h : ¬ x = y) : x.toInt ≠ k := fun q => h (Int32.toInt_inj.mp (q.trans hy.symm))
theorem own_eq2 {x y : Int32} {k : Int} (hy : y.toInt = k) (h : y = x) : x.toInt = k := by rw [← h, hy]
theorem own_ne2 {x y : Int32} {k : Int} (hy : y.toInt = k) (h : ¬ y = x) : x.toInt ≠ k := fun q => h (Int32.toInt_inj.mp (q.trans hy.symm)).symm
theorem own_eqI {args : Array Value} {first s : State} {o : Option Outcome} {idx : List Nat} {t : Term} {n : Int32} (h : (Cond.eq t (.int n)).value args first o s idx = some true) : t.eval args first o idx s = some (.int n) := by
  obtain ⟨x, y, e1, e2, k1, k2⟩ := cmp_v (Or.inl h)
  obtain rfl : y = .int n := (Option.some.inj e2).symm
  obtain ⟨z, rfl⟩ := k2
  have q := gotT (Cond.eq_ints e1 e2) h
  rw [e1, q]
theorem own_wS {Z : State} {a0 : Array Value} (hw : ∀ d ∈ tables_1, d.before a0 Z = true) : ∀ a ∈ Bundle.stringAtoms, a.before a0 Z = true := fun d hd => by
  simp only [Bundle.stringAtoms, List.mem_cons, List.not_mem_nil, or_false] at hd
  rcases hd with rfl | rfl | rfl | rfl | rfl | rfl | rfl
  · exact (own_w hw 6 rfl)
  · exact (own_w hw 7 rfl)
  · exact (own_w hw 8 rfl)
  · exact (own_w hw 9 rfl)
  · exact (own_w hw 10 rfl)
  · exact (own_w hw 11 rfl)
  · exact (own_w hw 12 rfl)
/-- from U the run comes to a return that Q allows; it may have interned -/
def GoW (p : Program) (e : Env) (below : List Frame) (s : State) (C S : Nat) (Q : Option Value → Heap → List Loc → Prop) (U : State) : Prop :=
  ∃ t o, Steps p.tables e below U t ∧ t.status = .running ∧ Ended t below o ∧ ∃ v L, o = .returned v ∧ Q v t.heap L ∧ ReturnedEndW s o t L C S
section own_gow
variable {p : Program} {l : Launch} {e : Env} {R : Room} {s : State} {m : MethodId} {args : Array Value} {below : List Frame} {meth : Method} {c : Code} {T U U' : State} {locs : List Loc} {cells slots C S : Nat} {Q : Option Value → Heap → List Loc → Prop}
theorem GoW.of (h : ∀ t, Steps p.tables e below U' t → Steps p.tables e below U t) (g : GoW p e below s C S Q U') : GoW p e below s C S Q U := by
  obtain ⟨t, o, k, r⟩ := g
  exact ⟨t, o, h t k, r⟩
theorem GoW.tr (h : Steps p.tables e below U U') (g : GoW p e below s C S Q U') : GoW p e below s C S Q U := by
  obtain ⟨t, o, k, r⟩ := g
  exact ⟨t, o, h.trans k, r⟩
theorem GoW.out {vm1 : Vm} (X : Stand p l e R (s.setVm vm1) m args below meth c T locs cells slots) {n : Nat} (hS : s.Since vm1 n) (hn : n ≤ T.heap.size) {v : Option Value} (hv : meth.sig.returnType = none → v = none) (hlk : meth.locks = false)
    (hs : ∀ fs, (∀ (f : JFrame) (acts : List Action), f.method = m → f.locked = none → f.entered = [] → (doReturn e (T.setTop f) acts v).1 = T.setFrames fs) → Steps p.tables e below U (T.setFrames fs))
    (hQ : Q v T.heap locs) (hC : cells ≤ C) (hSl : slots ≤ S) : GoW p e below s C S Q U := by
  obtain ⟨fs, hr, hrun, hended, h1, h2, h3, h4⟩ := X.leaveW hS hn (v := v) hv hlk
  exact ⟨_, _, hs fs hr, hrun, hended, _, _, rfl, hQ, h1, h2, h3, h4.mono hC hSl⟩
end own_gow
theorem own_len_of {args : Array Value} {s : State} {t : Term} {w : Addr} {cl : Cell} {n : Int32} (ev : t.eval args s none [] s = some (.ref w)) (ha : s.arrayAt? w = some cl) (h : (Term.length t).eval args s none [] s = some (.int n)) : cl.slots.size < 2 ^ 31 ∧ cl.slots.size.toInt32 = n := by
  by_cases q : cl.slots.size < 2 ^ 31
  · rw [len_f ev ha q] at h; exact ⟨q, Value.int.inj (Option.some.inj h)⟩
  · simp [Term.eval, ev, ha, q] at h
theorem own_eqR {args : Array Value} {first s : State} {o : Option Outcome} {idx : List Nat} {t u : Term} {b : Addr} (h : (Cond.eq t u).value args first o s idx = some true) (hu : u.eval args first o idx s = some (.ref b)) : t.eval args first o idx s = some (.ref b) := by
  obtain ⟨x, y, e1, e2, k1, k2⟩ := cmp_v (Or.inl h)
  cases hu.symm.trans e2
  have hx : x.isRef = true := k2.2
  have q := gotT (eq_R e1 hu hx rfl) h
  rw [e1, q]
def own_c0 : List Int32 := []
def own_c1 : List Int32 := [99, 97, 112, 116, 117, 114, 101]
def own_c2 : List Int32 := [114, 101, 108, 101, 97, 115, 101]
def own_c3 : List Int32 := [115, 104, 105, 112]
def own_c4 : List Int32 := [114, 101, 102, 117, 110, 100]
def own_c5 : List Int32 := [99, 108, 111, 115, 101]
def own_Str (Z : State) (h : Heap) (a : Addr) (cs : List Int32) : Prop := ∃ (t : Addr) (k : ClassId), Exa Z h a "java/lang/String" ∧ Fld Z h a "java/lang/String" "value" "[B" (.ref t) ∧ Fld Z h a "java/lang/String" "coder" "B" (.int (0 : Int32)) ∧ Arv Z h t k .byte (Int32.ofNat cs.length) (cs.map fun c => Value.int (StrChars.lo8 c)) (.int (0 : Int32)) ∧ cs.length ≤ 8 ∧ ∀ c ∈ cs, ¬ c < 0 ∧ ¬ (255 : Int32) < c
theorem own_Str.ext {Z : State} {h h' : Heap} {a : Addr} {cs : List Int32} (S : own_Str Z h a cs) (E : Ext h h') : own_Str Z h' a cs := by
  obtain ⟨t, k, e, v, q, r, l⟩ := S
  exact ⟨t, k, e.ext E, v.ext E, q.ext E, r.ext E, l⟩
theorem own_Str.keep {Z : State} {h h' : Heap} {a : Addr} {cs : List Int32} (S : own_Str Z h a cs) (K : Keep h h' []) : own_Str Z h' a cs := by
  obtain ⟨t, k, e, v, q, r, l⟩ := S
  exact ⟨t, k, e.keep K, v.keep K nin0, q.keep K nin0, r.keep K nin0, l⟩
theorem own_Str.keep1 {Z : State} {h h' : Heap} {a o : Addr} {cs : List Int32} {a0 : Array Value} {n : Nat} (S : own_Str Z h a cs) (K : Keep h h' [o]) (F0 : Fld Z h o "java/lang/String" "value" "[B" .null) (E0 : Exa Z h o "java/lang/String") (wi : (Cond.instantiable "java/lang/String" n).before a0 Z = true) : own_Str Z h' a cs := by
  obtain ⟨t, k, e, v, q, r, l⟩ := S
  have ne : a ≠ o := Fld.ne v F0 nofun
  have ne2 : t ≠ o := by
    obtain ⟨cl, A, -⟩ := r
    exact (ne_arr E0 wi A).symm
  exact ⟨t, k, e.keep K, v.keep K (ninS ne nin0), q.keep K (ninS ne nin0), r.keep K (ninS ne2 nin0), l⟩
theorem own_Str.cod {cs : List Int32} (h : ∀ c ∈ cs, ¬ c < 0 ∧ ¬ (255 : Int32) < c) : StrChars.Road.CodA cs 0 (Int32.ofNat cs.length) (cs.map fun c => Value.int (StrChars.lo8 c)) := Or.inl ⟨rfl, rfl, rfl, fun c hc => (h c hc).2⟩
theorem own_Str.up {cs : List Int32} (h : ∀ c ∈ cs, ¬ c < 0 ∧ ¬ (255 : Int32) < c) : ∀ c ∈ cs, ¬ c < 0 ∧ ¬ (65535 : Int32) < c := fun c hc => ⟨(h c hc).1, fun q => (h c hc).2 (by rw [Int32.lt_iff_toInt_lt] at q ⊢; have e1 : (65535 : Int32).toInt = 65535 := rfl; have e2 : (255 : Int32).toInt = 255 := rfl; omega)⟩
def own_L (Z : State) (vm : Vm) (h : Heap) (Ts : List String) (own : String) (i : Nat) (text : String) (cs : List Int32) : Prop := text ∉ Ts ∨ ∃ a : Addr, Lit (Z.setVm vm) own i a ∧ own_Str Z h a cs
/-- of the six constants: not loaded since the case's start, or loaded and what they hold -/
def own_J (Z : State) (vm : Vm) (h : Heap) : Prop := ∃ Ts, IB Z vm Ts ∧ own_L Z vm h Ts "java/lang/String" 7 "" own_c0 ∧ own_L Z vm h Ts "com/example/clearstep/clearstep/core/EventKindFromWordPinLaw" 53 "capture" own_c1 ∧ own_L Z vm h Ts "com/example/clearstep/clearstep/core/EventKindFromWordPinLaw" 55 "release" own_c2 ∧ own_L Z vm h Ts "com/example/clearstep/clearstep/core/EventKindFromWordPinLaw" 57 "ship" own_c3 ∧ own_L Z vm h Ts "com/example/clearstep/clearstep/core/EventKindFromWordPinLaw" 59 "refund" own_c4 ∧ own_L Z vm h Ts "com/example/clearstep/clearstep/core/EventKindFromWordPinLaw" 61 "close" own_c5
theorem own_L.warm {Z s : State} {vm0 vm1 : Vm} {h : Heap} {Ts : List String} {own text : String} {i : Nat} {cs : List Int32} (J : own_L Z vm0 h Ts own i text cs) (W : (s.setVm vm0).Warmed39 vm1) : own_L Z vm1 h Ts own i text cs := by
  rcases J with J | ⟨a, L, r⟩
  · exact Or.inl J
  · exact Or.inr ⟨a, State.resolvedAt?_warmed39 (s := s.setVm vm0) W L, r⟩
theorem own_L.imp {Z : State} {vm : Vm} {h h' : Heap} {Ts : List String} {own text : String} {i : Nat} {cs : List Int32} (J : own_L Z vm h Ts own i text cs) (f : ∀ a, own_Str Z h a cs → own_Str Z h' a cs) : own_L Z vm h' Ts own i text cs := by
  rcases J with J | ⟨a, L, r⟩
  · exact Or.inl J
  · exact Or.inr ⟨a, L, f a r⟩
theorem own_J.warm {Z s : State} {vm0 vm1 : Vm} {h : Heap} (J : own_J Z vm0 h) (W : (s.setVm vm0).WarmedH vm1) : own_J Z vm1 h := by
  obtain ⟨Ts, ⟨more, e, hm⟩, q0, q1, q2, q3, q4, q5⟩ := J
  exact ⟨Ts, ⟨more, W.interned_eq.trans e, hm⟩, q0.warm W.wide, q1.warm W.wide, q2.warm W.wide, q3.warm W.wide, q4.warm W.wide, q5.warm W.wide⟩
theorem own_J.keep {Z : State} {vm : Vm} {h h' : Heap} (J : own_J Z vm h) (K : Keep h h' []) : own_J Z vm h' := by
  obtain ⟨Ts, I, q0, q1, q2, q3, q4, q5⟩ := J
  exact ⟨Ts, I, q0.imp fun _ r => r.keep K, q1.imp fun _ r => r.keep K, q2.imp fun _ r => r.keep K, q3.imp fun _ r => r.keep K, q4.imp fun _ r => r.keep K, q5.imp fun _ r => r.keep K⟩
theorem own_J.keep1 {Z : State} {vm : Vm} {h h' : Heap} {o : Addr} {a0 : Array Value} {n : Nat} (J : own_J Z vm h) (K : Keep h h' [o]) (F0 : Fld Z h o "java/lang/String" "value" "[B" .null) (E0 : Exa Z h o "java/lang/String") (wi : (Cond.instantiable "java/lang/String" n).before a0 Z = true) : own_J Z vm h' := by
  obtain ⟨Ts, I, q0, q1, q2, q3, q4, q5⟩ := J
  exact ⟨Ts, I, q0.imp fun _ r => r.keep1 K F0 E0 wi, q1.imp fun _ r => r.keep1 K F0 E0 wi, q2.imp fun _ r => r.keep1 K F0 E0 wi, q3.imp fun _ r => r.keep1 K F0 E0 wi, q4.imp fun _ r => r.keep1 K F0 E0 wi, q5.imp fun _ r => r.keep1 K F0 E0 wi⟩
theorem own_J.start (Z : State) : own_J Z Z.vm Z.heap := ⟨[], IB.start, Or.inl (by simp), Or.inl (by simp), Or.inl (by simp), Or.inl (by simp), Or.inl (by simp), Or.inl (by simp)⟩
section own_ldcs
variable {p : Program} {l : Launch} {e : Env} {R : Room} {s : State} {m : MethodId} {args : Array Value} {below : List Frame} {meth : Method} {c : Code} {T : State} {locs : List Loc} {cells slots : Nat} {Z : State} {a0 : Array Value} {h : Heap} {vm0 : Vm} {own text : String} {index : Nat} {Ts : List String} {cs : List Int32}
theorem own_ldc_one (X : Stand p l e R (s.setVm vm0) m args below meth c T locs cells slots) (hx : p.tables.exec = Jvm.exec) (hZ : Z.Warmed39 vm0) (hown : vm0.findClass own = some m.cls) (w : (Cond.stringLink own index text).before a0 Z = true) (wS : ∀ a ∈ Bundle.stringAtoms, a.before a0 Z = true)
    (eT : T.heap = h) {k0 : Nat} (hS : s.Since vm0 k0) (hk : k0 ≤ h.size) (N : Fr s.heap.size locs) (hkeep : ∀ (b : Addr) (cl : Cell), Z.heap[b]? = some cl → s.heap[b]? = some cl) (I : IB Z vm0 Ts) (hL : own_L Z vm0 h Ts own index text cs) (hh : Jvm.Lit.constHeld Z own index) (hcw : Jvm.Lit.compactW.before a0 Z = true)
    (ht : (∀ c ∈ text.toList, c.toNat < 256) ∧ text.toList.map (fun c => Value.int (Jvm.Lit.byteI c.toNat.toUInt16)) = cs.map fun c => Value.int (StrChars.lo8 c)) (hz : ¬ Int32.ofNat cs.length < 0) (hl : (Int32.ofNat cs.length).toNatClampNeg = (cs.map fun c => Value.int (StrChars.lo8 c)).length) (hr : cs.length ≤ 8 ∧ ∀ c ∈ cs, ¬ c < 0 ∧ ¬ (255 : Int32) < c)
    {g : JFrame} (hg : g.method = m) (hd : decode c.code g.pc = .ok (.ldc index, 2)) {n : Nat} (hn : 4 * text.toList.length ≤ n) (hbig : n ≤ 536870912) (hc : cells + 2 ≤ R.cells) (hl' : slots + (n + 4) ≤ R.slots) :
    ∃ (a : Addr) (T' : State) (h' : Heap) (k1 : Nat) (vm1 : Vm) (Ts' : List String), Stand p l e R (s.setVm vm1) m args below meth c T' locs (cells + 2) (slots + (n + 4)) ∧ T'.heap = h' ∧ Ext h h' ∧ s.Since vm1 k1 ∧ k1 ≤ h'.size ∧ Z.Warmed39 (s.setVm vm1).vm ∧ (s.setVm vm1).vm.findClass own = some m.cls ∧
      own_Str Z h' a cs ∧ Lit (s.setVm vm1) own index a ∧ IB Z vm1 Ts' ∧ own_L Z vm1 h' Ts' own index text cs ∧ (∀ (own' : String) (i' : Nat) (text' : String) (cs' : List Int32), text' ≠ text → own_L Z vm0 h Ts own' i' text' cs' → own_L Z vm1 h' Ts' own' i' text' cs') ∧
      ∀ target, Steps p.tables e below (T'.setTop { g with pc := g.pc + 2, stack := .ref a :: g.stack }) target → Steps p.tables e below (T.setTop g) target := by
  rcases hL with hnot | ⟨a, L, S⟩
  · obtain ⟨a, T', h', k1, b, k, r1, r2, r3, r4, r5, r6, r7, r8, r9, r10, r11, r12, r13, r14, r15, st⟩ := ldcSVL (s := s.setVm vm0) X hx hZ hown w wS eT ((State.WarmedH.refl (s.setVm vm0)).since 0) (Nat.zero_le _) N hkeep I hnot hh hcw ht hz hl hg hd hn hbig hc hl'
    have S : own_Str Z h' a cs := ⟨b, k, r8, r10, r9, r11, hr⟩
    refine ⟨a, T', h', h'.size, T'.vm, text :: Ts, r1, r2, r3, ?_, Nat.le_refl _, r6, r7, S, r15, r14, Or.inr ⟨a, r15, S⟩, ?_, st⟩
    · exact hS.trans ⟨r4.1, fun j q hj hq => ⟨(r4.2 j q hj hq).1, Nat.lt_of_lt_of_le (r4.2 j q hj hq).2 r5⟩⟩ (Nat.le_trans hk r3.1)
    · intro own' i' text' cs' hne hL
      rcases hL.warm (s := s) r4.1 with q | ⟨a', L', S'⟩
      · exact Or.inl fun q' => (List.mem_cons.mp q').elim hne q
      · exact Or.inr ⟨a', L', S'.ext r3⟩
  · exact ⟨a, T, h, k0, vm0, Ts, X.more (by omega) (by omega), eT, ⟨Nat.le_refl _, fun _ _ q => q⟩, hS, hk, hZ, hown, S, L, I, Or.inr ⟨a, L, S⟩, fun _ _ _ _ _ q => q, ldcAgain X hx hZ hown w L hg hd⟩
theorem own_ldcJ_0 (X : Stand p l e R (s.setVm vm0) m args below meth c T locs cells slots) (hx : p.tables.exec = Jvm.exec) (hZ : Z.Warmed39 vm0) (hown : vm0.findClass "java/lang/String" = some m.cls) (hw : ∀ d ∈ tables_1, d.before a0 Z = true)
    (eT : T.heap = h) {k0 : Nat} (hS : s.Since vm0 k0) (hk : k0 ≤ h.size) (N : Fr s.heap.size locs) (hkeep : ∀ (b : Addr) (cl : Cell), Z.heap[b]? = some cl → s.heap[b]? = some cl) (hJ : own_J Z vm0 h) (hh : Jvm.Lit.constHeld Z "java/lang/String" 7) (hcw : Jvm.Lit.compactW.before a0 Z = true)
    {g : JFrame} (hg : g.method = m) (hd : decode c.code g.pc = .ok (.ldc 7, 2)) (hc : cells + 2 ≤ R.cells) (hl' : slots + 4 ≤ R.slots) :
    ∃ (a : Addr) (T' : State) (h' : Heap) (k1 : Nat) (vm1 : Vm), Stand p l e R (s.setVm vm1) m args below meth c T' locs (cells + 2) (slots + 4) ∧ T'.heap = h' ∧ Ext h h' ∧ s.Since vm1 k1 ∧ k1 ≤ h'.size ∧ Z.Warmed39 (s.setVm vm1).vm ∧ (s.setVm vm1).vm.findClass "java/lang/String" = some m.cls ∧
      own_Str Z h' a own_c0 ∧ Lit (s.setVm vm1) "java/lang/String" 7 a ∧ own_J Z vm1 h' ∧ ∀ target, Steps p.tables e below (T'.setTop { g with pc := g.pc + 2, stack := .ref a :: g.stack }) target → Steps p.tables e below (T.setTop g) target := by
  obtain ⟨Ts, I, q0, q1, q2, q3, q4, q5⟩ := hJ
  obtain ⟨a, T', h', k1, vm1, Ts', r1, r2, r3, r4, r5, r6, r7, S, Lt, I', q, f, st⟩ := own_ldc_one X hx hZ hown (own_w hw 146 rfl) (own_wS hw) eT hS hk N hkeep I q0 hh hcw ⟨by decide, by rfl⟩ (by decide) (by rfl) ⟨by decide, by decide⟩ hg hd (n := 0) (by decide) (by decide) hc hl'
  exact ⟨a, T', h', k1, vm1, r1, r2, r3, r4, r5, r6, r7, S, Lt, ⟨Ts', I', q, f _ _ _ _ (by decide) q1, f _ _ _ _ (by decide) q2, f _ _ _ _ (by decide) q3, f _ _ _ _ (by decide) q4, f _ _ _ _ (by decide) q5⟩, st⟩
theorem own_ldcJ_1 (X : Stand p l e R (s.setVm vm0) m args below meth c T locs cells slots) (hx : p.tables.exec = Jvm.exec) (hZ : Z.Warmed39 vm0) (hown : vm0.findClass "com/example/clearstep/clearstep/core/EventKindFromWordPinLaw" = some m.cls) (hw : ∀ d ∈ tables_1, d.before a0 Z = true)
    (eT : T.heap = h) {k0 : Nat} (hS : s.Since vm0 k0) (hk : k0 ≤ h.size) (N : Fr s.heap.size locs) (hkeep : ∀ (b : Addr) (cl : Cell), Z.heap[b]? = some cl → s.heap[b]? = some cl) (hJ : own_J Z vm0 h) (hh : Jvm.Lit.constHeld Z "com/example/clearstep/clearstep/core/EventKindFromWordPinLaw" 53) (hcw : Jvm.Lit.compactW.before a0 Z = true)
    {g : JFrame} (hg : g.method = m) (hd : decode c.code g.pc = .ok (.ldc 53, 2)) (hc : cells + 2 ≤ R.cells) (hl' : slots + 32 ≤ R.slots) :
    ∃ (a : Addr) (T' : State) (h' : Heap) (k1 : Nat) (vm1 : Vm), Stand p l e R (s.setVm vm1) m args below meth c T' locs (cells + 2) (slots + 32) ∧ T'.heap = h' ∧ Ext h h' ∧ s.Since vm1 k1 ∧ k1 ≤ h'.size ∧ Z.Warmed39 (s.setVm vm1).vm ∧ (s.setVm vm1).vm.findClass "com/example/clearstep/clearstep/core/EventKindFromWordPinLaw" = some m.cls ∧
      own_Str Z h' a own_c1 ∧ Lit (s.setVm vm1) "com/example/clearstep/clearstep/core/EventKindFromWordPinLaw" 53 a ∧ own_J Z vm1 h' ∧ ∀ target, Steps p.tables e below (T'.setTop { g with pc := g.pc + 2, stack := .ref a :: g.stack }) target → Steps p.tables e below (T.setTop g) target := by
  obtain ⟨Ts, I, q0, q1, q2, q3, q4, q5⟩ := hJ
  obtain ⟨a, T', h', k1, vm1, Ts', r1, r2, r3, r4, r5, r6, r7, S, Lt, I', q, f, st⟩ := own_ldc_one X hx hZ hown (own_w hw 79 rfl) (own_wS hw) eT hS hk N hkeep I q1 hh hcw ⟨by decide, by rfl⟩ (by decide) (by rfl) ⟨by decide, by decide⟩ hg hd (n := 28) (by decide) (by decide) hc hl'
  exact ⟨a, T', h', k1, vm1, r1, r2, r3, r4, r5, r6, r7, S, Lt, ⟨Ts', I', f _ _ _ _ (by decide) q0, q, f _ _ _ _ (by decide) q2, f _ _ _ _ (by decide) q3, f _ _ _ _ (by decide) q4, f _ _ _ _ (by decide) q5⟩, st⟩
theorem own_ldcJ_2 (X : Stand p l e R (s.setVm vm0) m args below meth c T locs cells slots) (hx : p.tables.exec = Jvm.exec) (hZ : Z.Warmed39 vm0) (hown : vm0.findClass "com/example/clearstep/clearstep/core/EventKindFromWordPinLaw" = some m.cls) (hw : ∀ d ∈ tables_1, d.before a0 Z = true)
    (eT : T.heap = h) {k0 : Nat} (hS : s.Since vm0 k0) (hk : k0 ≤ h.size) (N : Fr s.heap.size locs) (hkeep : ∀ (b : Addr) (cl : Cell), Z.heap[b]? = some cl → s.heap[b]? = some cl) (hJ : own_J Z vm0 h) (hh : Jvm.Lit.constHeld Z "com/example/clearstep/clearstep/core/EventKindFromWordPinLaw" 55) (hcw : Jvm.Lit.compactW.before a0 Z = true)
    {g : JFrame} (hg : g.method = m) (hd : decode c.code g.pc = .ok (.ldc 55, 2)) (hc : cells + 2 ≤ R.cells) (hl' : slots + 32 ≤ R.slots) :
    ∃ (a : Addr) (T' : State) (h' : Heap) (k1 : Nat) (vm1 : Vm), Stand p l e R (s.setVm vm1) m args below meth c T' locs (cells + 2) (slots + 32) ∧ T'.heap = h' ∧ Ext h h' ∧ s.Since vm1 k1 ∧ k1 ≤ h'.size ∧ Z.Warmed39 (s.setVm vm1).vm ∧ (s.setVm vm1).vm.findClass "com/example/clearstep/clearstep/core/EventKindFromWordPinLaw" = some m.cls ∧
      own_Str Z h' a own_c2 ∧ Lit (s.setVm vm1) "com/example/clearstep/clearstep/core/EventKindFromWordPinLaw" 55 a ∧ own_J Z vm1 h' ∧ ∀ target, Steps p.tables e below (T'.setTop { g with pc := g.pc + 2, stack := .ref a :: g.stack }) target → Steps p.tables e below (T.setTop g) target := by
  obtain ⟨Ts, I, q0, q1, q2, q3, q4, q5⟩ := hJ
  obtain ⟨a, T', h', k1, vm1, Ts', r1, r2, r3, r4, r5, r6, r7, S, Lt, I', q, f, st⟩ := own_ldc_one X hx hZ hown (own_w hw 89 rfl) (own_wS hw) eT hS hk N hkeep I q2 hh hcw ⟨by decide, by rfl⟩ (by decide) (by rfl) ⟨by decide, by decide⟩ hg hd (n := 28) (by decide) (by decide) hc hl'
  exact ⟨a, T', h', k1, vm1, r1, r2, r3, r4, r5, r6, r7, S, Lt, ⟨Ts', I', f _ _ _ _ (by decide) q0, f _ _ _ _ (by decide) q1, q, f _ _ _ _ (by decide) q3, f _ _ _ _ (by decide) q4, f _ _ _ _ (by decide) q5⟩, st⟩
theorem own_ldcJ_3 (X : Stand p l e R (s.setVm vm0) m args below meth c T locs cells slots) (hx : p.tables.exec = Jvm.exec) (hZ : Z.Warmed39 vm0) (hown : vm0.findClass "com/example/clearstep/clearstep/core/EventKindFromWordPinLaw" = some m.cls) (hw : ∀ d ∈ tables_1, d.before a0 Z = true)
    (eT : T.heap = h) {k0 : Nat} (hS : s.Since vm0 k0) (hk : k0 ≤ h.size) (N : Fr s.heap.size locs) (hkeep : ∀ (b : Addr) (cl : Cell), Z.heap[b]? = some cl → s.heap[b]? = some cl) (hJ : own_J Z vm0 h) (hh : Jvm.Lit.constHeld Z "com/example/clearstep/clearstep/core/EventKindFromWordPinLaw" 57) (hcw : Jvm.Lit.compactW.before a0 Z = true)
    {g : JFrame} (hg : g.method = m) (hd : decode c.code g.pc = .ok (.ldc 57, 2)) (hc : cells + 2 ≤ R.cells) (hl' : slots + 20 ≤ R.slots) :
    ∃ (a : Addr) (T' : State) (h' : Heap) (k1 : Nat) (vm1 : Vm), Stand p l e R (s.setVm vm1) m args below meth c T' locs (cells + 2) (slots + 20) ∧ T'.heap = h' ∧ Ext h h' ∧ s.Since vm1 k1 ∧ k1 ≤ h'.size ∧ Z.Warmed39 (s.setVm vm1).vm ∧ (s.setVm vm1).vm.findClass "com/example/clearstep/clearstep/core/EventKindFromWordPinLaw" = some m.cls ∧
      own_Str Z h' a own_c3 ∧ Lit (s.setVm vm1) "com/example/clearstep/clearstep/core/EventKindFromWordPinLaw" 57 a ∧ own_J Z vm1 h' ∧ ∀ target, Steps p.tables e below (T'.setTop { g with pc := g.pc + 2, stack := .ref a :: g.stack }) target → Steps p.tables e below (T.setTop g) target := by
  obtain ⟨Ts, I, q0, q1, q2, q3, q4, q5⟩ := hJ
  obtain ⟨a, T', h', k1, vm1, Ts', r1, r2, r3, r4, r5, r6, r7, S, Lt, I', q, f, st⟩ := own_ldc_one X hx hZ hown (own_w hw 90 rfl) (own_wS hw) eT hS hk N hkeep I q3 hh hcw ⟨by decide, by rfl⟩ (by decide) (by rfl) ⟨by decide, by decide⟩ hg hd (n := 16) (by decide) (by decide) hc hl'
  exact ⟨a, T', h', k1, vm1, r1, r2, r3, r4, r5, r6, r7, S, Lt, ⟨Ts', I', f _ _ _ _ (by decide) q0, f _ _ _ _ (by decide) q1, f _ _ _ _ (by decide) q2, q, f _ _ _ _ (by decide) q4, f _ _ _ _ (by decide) q5⟩, st⟩
theorem own_ldcJ_4 (X : Stand p l e R (s.setVm vm0) m args below meth c T locs cells slots) (hx : p.tables.exec = Jvm.exec) (hZ : Z.Warmed39 vm0) (hown : vm0.findClass "com/example/clearstep/clearstep/core/EventKindFromWordPinLaw" = some m.cls) (hw : ∀ d ∈ tables_1, d.before a0 Z = true)
    (eT : T.heap = h) {k0 : Nat} (hS : s.Since vm0 k0) (hk : k0 ≤ h.size) (N : Fr s.heap.size locs) (hkeep : ∀ (b : Addr) (cl : Cell), Z.heap[b]? = some cl → s.heap[b]? = some cl) (hJ : own_J Z vm0 h) (hh : Jvm.Lit.constHeld Z "com/example/clearstep/clearstep/core/EventKindFromWordPinLaw" 59) (hcw : Jvm.Lit.compactW.before a0 Z = true)
    {g : JFrame} (hg : g.method = m) (hd : decode c.code g.pc = .ok (.ldc 59, 2)) (hc : cells + 2 ≤ R.cells) (hl' : slots + 28 ≤ R.slots) :
    ∃ (a : Addr) (T' : State) (h' : Heap) (k1 : Nat) (vm1 : Vm), Stand p l e R (s.setVm vm1) m args below meth c T' locs (cells + 2) (slots + 28) ∧ T'.heap = h' ∧ Ext h h' ∧ s.Since vm1 k1 ∧ k1 ≤ h'.size ∧ Z.Warmed39 (s.setVm vm1).vm ∧ (s.setVm vm1).vm.findClass "com/example/clearstep/clearstep/core/EventKindFromWordPinLaw" = some m.cls ∧
      own_Str Z h' a own_c4 ∧ Lit (s.setVm vm1) "com/example/clearstep/clearstep/core/EventKindFromWordPinLaw" 59 a ∧ own_J Z vm1 h' ∧ ∀ target, Steps p.tables e below (T'.setTop { g with pc := g.pc + 2, stack := .ref a :: g.stack }) target → Steps p.tables e below (T.setTop g) target := by
  obtain ⟨Ts, I, q0, q1, q2, q3, q4, q5⟩ := hJ
  obtain ⟨a, T', h', k1, vm1, Ts', r1, r2, r3, r4, r5, r6, r7, S, Lt, I', q, f, st⟩ := own_ldc_one X hx hZ hown (own_w hw 5 rfl) (own_wS hw) eT hS hk N hkeep I q4 hh hcw ⟨by decide, by rfl⟩ (by decide) (by rfl) ⟨by decide, by decide⟩ hg hd (n := 24) (by decide) (by decide) hc hl'
  exact ⟨a, T', h', k1, vm1, r1, r2, r3, r4, r5, r6, r7, S, Lt, ⟨Ts', I', f _ _ _ _ (by decide) q0, f _ _ _ _ (by decide) q1, f _ _ _ _ (by decide) q2, f _ _ _ _ (by decide) q3, q, f _ _ _ _ (by decide) q5⟩, st⟩
theorem own_ldcJ_5 (X : Stand p l e R (s.setVm vm0) m args below meth c T locs cells slots) (hx : p.tables.exec = Jvm.exec) (hZ : Z.Warmed39 vm0) (hown : vm0.findClass "com/example/clearstep/clearstep/core/EventKindFromWordPinLaw" = some m.cls) (hw : ∀ d ∈ tables_1, d.before a0 Z = true)
    (eT : T.heap = h) {k0 : Nat} (hS : s.Since vm0 k0) (hk : k0 ≤ h.size) (N : Fr s.heap.size locs) (hkeep : ∀ (b : Addr) (cl : Cell), Z.heap[b]? = some cl → s.heap[b]? = some cl) (hJ : own_J Z vm0 h) (hh : Jvm.Lit.constHeld Z "com/example/clearstep/clearstep/core/EventKindFromWordPinLaw" 61) (hcw : Jvm.Lit.compactW.before a0 Z = true)
    {g : JFrame} (hg : g.method = m) (hd : decode c.code g.pc = .ok (.ldc 61, 2)) (hc : cells + 2 ≤ R.cells) (hl' : slots + 24 ≤ R.slots) :
    ∃ (a : Addr) (T' : State) (h' : Heap) (k1 : Nat) (vm1 : Vm), Stand p l e R (s.setVm vm1) m args below meth c T' locs (cells + 2) (slots + 24) ∧ T'.heap = h' ∧ Ext h h' ∧ s.Since vm1 k1 ∧ k1 ≤ h'.size ∧ Z.Warmed39 (s.setVm vm1).vm ∧ (s.setVm vm1).vm.findClass "com/example/clearstep/clearstep/core/EventKindFromWordPinLaw" = some m.cls ∧
      own_Str Z h' a own_c5 ∧ Lit (s.setVm vm1) "com/example/clearstep/clearstep/core/EventKindFromWordPinLaw" 61 a ∧ own_J Z vm1 h' ∧ ∀ target, Steps p.tables e below (T'.setTop { g with pc := g.pc + 2, stack := .ref a :: g.stack }) target → Steps p.tables e below (T.setTop g) target := by
  obtain ⟨Ts, I, q0, q1, q2, q3, q4, q5⟩ := hJ
  obtain ⟨a, T', h', k1, vm1, Ts', r1, r2, r3, r4, r5, r6, r7, S, Lt, I', q, f, st⟩ := own_ldc_one X hx hZ hown (own_w hw 147 rfl) (own_wS hw) eT hS hk N hkeep I q5 hh hcw ⟨by decide, by rfl⟩ (by decide) (by rfl) ⟨by decide, by decide⟩ hg hd (n := 20) (by decide) (by decide) hc hl'
  exact ⟨a, T', h', k1, vm1, r1, r2, r3, r4, r5, r6, r7, S, Lt, ⟨Ts', I', f _ _ _ _ (by decide) q0, f _ _ _ _ (by decide) q1, f _ _ _ _ (by decide) q2, f _ _ _ _ (by decide) q3, f _ _ _ _ (by decide) q4, q⟩, st⟩
end own_ldcs
/-- .. and of the tables own_J is known at the end -/
def GoJ (p : Program) (e : Env) (below : List Frame) (s : State) (C S : Nat) (Z : State) (Q : Option Value → Heap → List Loc → Prop) (U : State) : Prop :=
  ∃ t o, Steps p.tables e below U t ∧ t.status = .running ∧ Ended t below o ∧ ∃ v L, o = .returned v ∧ Q v t.heap L ∧ own_J Z t.vm t.heap ∧ ReturnedEndW s o t L C S
section own_goj
variable {p : Program} {l : Launch} {e : Env} {R : Room} {s : State} {m : MethodId} {args : Array Value} {below : List Frame} {meth : Method} {c : Code} {T U U' Z : State} {locs : List Loc} {cells slots C S : Nat} {Q : Option Value → Heap → List Loc → Prop} {a0 : Array Value} {h : Heap}
theorem GoJ.of (h : ∀ t, Steps p.tables e below U' t → Steps p.tables e below U t) (g : GoJ p e below s C S Z Q U') : GoJ p e below s C S Z Q U := by
  obtain ⟨t, o, k, r⟩ := g
  exact ⟨t, o, h t k, r⟩
theorem GoJ.tr (h : Steps p.tables e below U U') (g : GoJ p e below s C S Z Q U') : GoJ p e below s C S Z Q U := by
  obtain ⟨t, o, k, r⟩ := g
  exact ⟨t, o, h.trans k, r⟩
theorem GoJ.out {vm1 : Vm} (X : Stand p l e R (s.setVm vm1) m args below meth c T locs cells slots) {n : Nat} (hS : s.Since vm1 n) (hn : n ≤ T.heap.size) (hJ : own_J Z vm1 T.heap) {v : Option Value} (hv : meth.sig.returnType = none → v = none) (hlk : meth.locks = false)
    (hs : ∀ fs, (∀ (f : JFrame) (acts : List Action), f.method = m → f.locked = none → f.entered = [] → (doReturn e (T.setTop f) acts v).1 = T.setFrames fs) → Steps p.tables e below U (T.setFrames fs))
    (hQ : Q v T.heap locs) (hC : cells ≤ C) (hSl : slots ≤ S) : GoJ p e below s C S Z Q U := by
  obtain ⟨fs, hr, hrun, hended, h1, h2, h3, h4⟩ := X.leaveW hS hn (v := v) hv hlk
  exact ⟨_, _, hs fs hr, hrun, hended, _, _, rfl, hQ, own_J.warm hJ X.warmed, h1, h2, h3, h4.mono hC hSl⟩
theorem backOfJ {y : MethodName} {bytes : ByteArray} {maxL : Nat} {ret : Option FieldType} {rm : Room} {len W : Nat} {as' : Array Value} {Q : Option Value → Heap → List Loc → Prop}
    (hM : MetFree l y (head1 [Cond.code y bytes maxL ret] rm) (fun a U => a = as' ∧ Z.Warmed39 U.vm ∧ U.heap = h ∧ own_J Z U.vm h) (fun _ _ _ _ _ => True) (fun _ U o U' => ∃ v L, o = .returned v ∧ Q v U'.heap L ∧ own_J Z U'.vm U'.heap ∧ ReturnedEndW U o U' L rm.cells rm.slots))
    (hZ : Z.Warmed39 s.vm) (wc : (Cond.code y bytes maxL ret).before a0 Z = true) (wz : (Cond.initialized y.cls).before a0 Z = true) (hf : rm.frames + 1 ≤ R.frames) (hl : W + (maxL + 11) + rm.locals ≤ R.locals) :
    BackS l R p e below s args y len W (fun A a => a = as' ∧ A.U.heap = h ∧ own_J Z A.U.vm h ∧ A.cells + rm.cells ≤ R.cells ∧ A.slots + rm.slots ≤ R.slots)
      (fun A _ v B => ∃ L, Q v B.U.heap L ∧ own_J Z B.U.vm B.U.heap ∧ B.locs = A.locs ++ L ∧ B.cells = A.cells + rm.cells ∧ B.slots = A.slots + rm.slots) :=
  BackS.of_freeW (bytes := bytes) (maxL := maxL) (ret := ret) (E := fun _ _ o t L k n => k = rm.cells ∧ n = rm.slots ∧ ∃ v, o = .returned v ∧ Q v t.heap L ∧ own_J Z t.vm t.heap) hM hf hl
    (fun m meth c A a Y hp => have hU : Z.Warmed39 A.U.vm := wtrans hZ Y.warmed
      ⟨by show (Cond.and _ .tt).before a A.U = true; rw [Cond.before_and, mv hU wc]; rfl, mv hU wc, mv hU wz, hp.2.2.2.1, hp.2.2.2.2⟩)
    (fun m meth c A a g mk Y hp => ⟨hp.1, wtrans hZ Y.warmed, hp.2.1, hp.2.2.1⟩) (fun _ _ _ _ _ _ _ _ _ => trivial)
    (fun _ _ _ _ ⟨v, L, h1, h2, h3, h4⟩ => ⟨L, _, _, h4, rfl, rfl, v, h1, h2, h3⟩)
    (fun m meth c A a g mk v t L k n Y hp _ _ ⟨e1, e2, v', e3, e4, e5⟩ => by cases e3; subst e1 e2; exact ⟨L, e4, e5, rfl, rfl, rfl⟩)
end own_goj
theorem own_nar {z : Int32} (h0 : ¬ z < 0) (h1 : ¬ (255 : Int32) < z) : nar .char z = z := by
  have a := c_i2c z
  have b := own_ge1 (k := 0) (by decide) h0
  have d := own_ge2 (k := 255) (by decide) h1
  apply Int32.toInt_inj.mp
  show z.toUInt32.toUInt16.toUInt32.toInt32.toInt = z.toInt
  omega
theorem own_narr {z : Int32} (h : ¬ z < 0 ∧ ¬ (255 : Int32) < z) : ¬ nar .char z < 0 ∧ ¬ (255 : Int32) < nar .char z := by rw [own_nar h.1 h.2]; exact h
theorem own_rng {z : Int32} (h0 : 0 ≤ z.toInt) (h1 : z.toInt ≤ 255) : ¬ z < 0 ∧ ¬ (255 : Int32) < z := by
  have e0 : (0 : Int32).toInt = 0 := by decide
  have e1 : (255 : Int32).toInt = 255 := by decide
  rw [Int32.lt_iff_toInt_lt, Int32.lt_iff_toInt_lt]; omega
theorem own_chr (x : Int32) : ¬ ((x &&& (255 : Int32)).toUInt32.toUInt16.toUInt32.toInt32) < 0 ∧ ¬ (255 : Int32) < ((x &&& (255 : Int32)).toUInt32.toUInt16.toUInt32.toInt32) := by
  rw [i2c_mask]
  have h2 := c_and x 255 (by decide)
  have h3 : (255 : Int32).toInt = 255 := by decide
  exact own_rng h2.1 (by omega)
theorem own_chrL (x : Int64) : ¬ (((x &&& (255 : Int64)).toInt32).toUInt32.toUInt16.toUInt32.toInt32) < 0 ∧ ¬ (255 : Int32) < (((x &&& (255 : Int64)).toInt32).toUInt32.toUInt16.toUInt32.toInt32) := by
  have a := c_maskL x 255 8 (by decide) (by decide)
  have b := c_l2i (x &&& 255)
  have d := c_i2c (x &&& 255).toInt32
  have r := rng32 (x &&& 255).toInt32
  exact own_rng (by omega) (by omega)
theorem own_zero : ¬ (0 : Int32) < 0 ∧ ¬ (255 : Int32) < (0 : Int32) := by decide
def own_C8 (Z : State) (h : Heap) (a : Addr) : Prop := ∃ (k : ClassId) (u0 u1 u2 u3 u4 u5 u6 u7 : Int32), Arv Z h a k .char (8 : Int32) [.int u0, .int u1, .int u2, .int u3, .int u4, .int u5, .int u6, .int u7] (.int (0 : Int32)) ∧ ∀ c ∈ [u0, u1, u2, u3, u4, u5, u6, u7], ¬ c < 0 ∧ ¬ (255 : Int32) < c
theorem own_C8.of {Z : State} {h : Heap} {a : Addr} {k : ClassId} {us : List Int32} (V : Arv Z h a k .char (8 : Int32) (us.map Value.int) (.int (0 : Int32))) (hl : us.length = 8) (hr : ∀ c ∈ us, ¬ c < 0 ∧ ¬ (255 : Int32) < c) : own_C8 Z h a := by
  match us, hl with
  | [u0, u1, u2, u3, u4, u5, u6, u7], _ => exact ⟨k, u0, u1, u2, u3, u4, u5, u6, u7, V, hr⟩
theorem own_C8.lt {Z : State} {h : Heap} {a : Addr} (C : own_C8 Z h a) : a < h.size := by
  obtain ⟨k, u0, u1, u2, u3, u4, u5, u6, u7, V, -⟩ := C; exact V.lt
theorem own_C8.set {Z : State} {h h' : Heap} {a : Addr} {k : ClassId} {cl : Cell} {us : List Int32} {j x : Int32} (A : Arr Z h a cl .char) (q1 : cl.cls = k) (S : cl.slots.size = (8 : Int32).toNatClampNeg) (H : Has cl (us.map Value.int) (.int (0 : Int32))) (G : ∀ i, i < cl.slots.size → fits .char ((us.map Value.int).getD i (.int (0 : Int32))) = true) (hl : us.length = 8) (hr : ∀ c ∈ us, ¬ c < 0 ∧ ¬ (255 : Int32) < c) (hx : ¬ x < 0 ∧ ¬ (255 : Int32) < x) (hj : ¬ j < 0 ∧ j < 8) (W : Wr h h' a j.toNatClampNeg (.int (nar .char x))) : own_C8 Z h' a := by
  have b := own_ge1 (k := 0) (by decide) hj.1
  have d := own_lt1 (k := 8) (by decide) hj.2
  have hi : j.toNatClampNeg < us.length := by rw [hl]; simp only [Int32.toNatClampNeg]; omega
  have V := Arv.set A q1 S (by decide) H G (fits_nar_char x) W j.toNatClampNeg rfl (by rw [List.length_map]; exact hi)
  rw [← List.map_set] at V
  refine own_C8.of V (by rw [List.length_set]; exact hl) fun c hc => ?_
  rcases List.mem_or_eq_of_mem_set hc with q | rfl
  · exact hr c q
  · exact own_narr hx
def own_ev (cs : List Int32) (w0 w1 w2 w3 w4 : Addr) : Value := if cs = own_c1 then .ref w0 else if cs = own_c2 then .ref w1 else if cs = own_c3 then .ref w2 else if cs = own_c4 then .ref w3 else if cs = own_c5 then .ref w4 else .null
theorem own_ev_ref (cs : List Int32) (w0 w1 w2 w3 w4 : Addr) : (own_ev cs w0 w1 w2 w3 w4).isRef = true := by
  unfold own_ev
  repeat' split
  all_goals rfl
theorem own_lenp {n : Nat} (h0 : 0 < n) (h1 : n ≤ 8) : (Int32.ofNat n).toInt = n ∧ Int32.ofNat n ≠ 0 := by
  have e : (Int32.ofNat n).toInt = n := Int32.toInt_ofNat_small (by omega)
  exact ⟨e, fun q => by rw [q] at e; have z : (0 : Int32).toInt = 0 := (by decide); omega⟩
theorem own_mod {x : Int32} {n : Nat} (h0 : 0 < n) (h1 : n ≤ 8) : ¬ ((x &&& (2147483647 : Int32)) % Int32.ofNat n) < 0 ∧ ((x &&& (2147483647 : Int32)) % Int32.ofNat n) < 8 := by
  have e := (own_lenp h0 h1).1
  have a := c_mask x (2147483647 : Int32) 31 (by decide) (by decide)
  have b : 0 ≤ (x &&& (2147483647 : Int32)).toInt := by rw [a]; exact Int.emod_nonneg _ (by decide)
  have q := (c_iremV (x &&& (2147483647 : Int32)) (Int32.ofNat n)).1 b (by omega)
  have e0 : (0 : Int32).toInt = 0 := by decide
  have e8 : (8 : Int32).toInt = 8 := by decide
  rw [Int32.lt_iff_toInt_lt, Int32.lt_iff_toInt_lt]; omega
theorem own_ofnat {n : Nat} (h1 : n ≤ 7) : ¬ Int32.ofNat n < 0 ∧ Int32.ofNat n < 8 := by
  have e : (Int32.ofNat n).toInt = n := Int32.toInt_ofNat_small (by omega)
  have e0 : (0 : Int32).toInt = 0 := by decide
  have e8 : (8 : Int32).toInt = 8 := by decide
  rw [Int32.lt_iff_toInt_lt, Int32.lt_iff_toInt_lt]; omega
theorem own_ltn {i n : Nat} (hi : i ≤ 7) (hn : n ≤ 8) (h : Int32.ofNat i < Int32.ofNat n) : i < n := by
  have e : (Int32.ofNat n).toInt = n := Int32.toInt_ofNat_small (by omega)
  have e' : (Int32.ofNat i).toInt = i := Int32.toInt_ofNat_small (by omega)
  rw [Int32.lt_iff_toInt_lt] at h; omega
theorem own_getD {cs : List Int32} {i : Nat} (h : ∀ c ∈ cs, ¬ c < 0 ∧ ¬ (255 : Int32) < c) (hi : i < cs.length) : ¬ cs.getD i 0 < 0 ∧ ¬ (255 : Int32) < cs.getD i 0 := by
  have e : cs.getD i 0 = cs[i] := by simp [List.getD_eq_getElem?_getD, hi]
  rw [e]; exact h _ (List.getElem_mem _)
theorem own_words {Z : State} {a0 : Array Value} (hw : ∀ d ∈ tables_1, d.before a0 Z = true) : ∀ d ∈ StrChars.Road.words, d.before a0 Z = true := fun d hd => by
  simp only [StrChars.Road.words, List.mem_cons, List.not_mem_nil, or_false] at hd
  rcases hd with rfl | rfl | rfl | rfl | rfl | rfl | rfl | rfl | rfl | rfl | rfl | rfl | rfl | rfl | rfl | rfl | rfl | rfl | rfl | rfl | rfl | rfl | rfl | rfl
  · exact (own_w hw 58 rfl)
  · exact (own_w hw 6 rfl)
  · exact (own_w hw 59 rfl)
  · exact (own_w hw 60 rfl)
  · exact (own_w hw 62 rfl)
  · exact (own_w hw 24 rfl)
  · exact (own_w hw 9 rfl)
  · exact (own_w hw 18 rfl)
  · exact (own_w hw 10 rfl)
  · exact (own_w hw 25 rfl)
  · exact (own_w hw 63 rfl)
  · exact (own_w hw 64 rfl)
  · exact (own_w hw 65 rfl)
  · exact (own_w hw 66 rfl)
  · exact (own_w hw 67 rfl)
  · exact (own_w hw 73 rfl)
  · exact (own_w hw 74 rfl)
  · exact (own_w hw 69 rfl)
  · exact (own_w hw 68 rfl)
  · exact (own_w hw 8 rfl)
  · exact (own_w hw 70 rfl)
  · exact (own_w hw 71 rfl)
  · exact (own_w hw 72 rfl)
  · exact (own_w hw 75 rfl)
theorem own_wordsLen {Z : State} {a0 : Array Value} (hw : ∀ d ∈ tables_1, d.before a0 Z = true) : ∀ d ∈ StrChars.Road.wordsLen, d.before a0 Z = true := fun d hd => by
  simp only [StrChars.Road.wordsLen, List.mem_cons, List.not_mem_nil, or_false] at hd
  rcases hd with rfl | rfl | rfl | rfl | rfl | rfl | rfl | rfl | rfl | rfl
  · exact (own_w hw 17 rfl)
  · exact (own_w hw 6 rfl)
  · exact (own_w hw 18 rfl)
  · exact (own_w hw 24 rfl)
  · exact (own_w hw 25 rfl)
  · exact (own_w hw 23 rfl)
  · exact (own_w hw 19 rfl)
  · exact (own_w hw 20 rfl)
  · exact (own_w hw 22 rfl)
  · exact (own_w hw 21 rfl)
theorem own_wordsEq {Z : State} {a0 : Array Value} (hw : ∀ d ∈ tables_1, d.before a0 Z = true) : ∀ d ∈ StrChars.Road.wordsEq, d.before a0 Z = true := fun d hd => by
  simp only [StrChars.Road.wordsEq, List.mem_cons, List.not_mem_nil, or_false] at hd
  rcases hd with rfl | rfl | rfl | rfl | rfl | rfl | rfl | rfl | rfl | rfl
  · exact (own_w hw 84 rfl)
  · exact (own_w hw 6 rfl)
  · exact (own_w hw 85 rfl)
  · exact (own_w hw 24 rfl)
  · exact (own_w hw 25 rfl)
  · exact (own_w hw 18 rfl)
  · exact (own_w hw 86 rfl)
  · exact (own_w hw 87 rfl)
  · exact (own_w hw 88 rfl)
  · exact (own_w hw 42 rfl)
theorem own_wordsChN {Z : State} {a0 : Array Value} (hw : ∀ d ∈ tables_1, d.before a0 Z = true) : ∀ d ∈ StrChars.Road.wordsChN, d.before a0 Z = true := fun d hd => by
  simp only [StrChars.Road.wordsChN, List.mem_cons, List.not_mem_nil, or_false] at hd
  rcases hd with rfl | rfl | rfl | rfl | rfl | rfl | rfl | rfl | rfl | rfl | rfl | rfl | rfl | rfl | rfl | rfl | rfl | rfl | rfl | rfl | rfl | rfl
  · exact (own_w hw 34 rfl)
  · exact (own_w hw 6 rfl)
  · exact (own_w hw 18 rfl)
  · exact (own_w hw 24 rfl)
  · exact (own_w hw 25 rfl)
  · exact (own_w hw 39 rfl)
  · exact (own_w hw 35 rfl)
  · exact (own_w hw 36 rfl)
  · exact (own_w hw 38 rfl)
  · exact (own_w hw 37 rfl)
  · exact (own_w hw 40 rfl)
  · exact (own_w hw 41 rfl)
  · exact (own_w hw 43 rfl)
  · exact (own_w hw 42 rfl)
  · exact (own_w hw 44 rfl)
  · exact (own_w hw 45 rfl)
  · exact (own_w hw 46 rfl)
  · exact (own_w hw 47 rfl)
  · exact (own_w hw 49 rfl)
  · exact (own_w hw 50 rfl)
  · exact (own_w hw 51 rfl)
  · exact (own_w hw 48 rfl)
theorem pn_0 : plainName "java/lang/String" = true := by first | (simp [plainName, overriddenIn]; done) | decide +kernel
theorem d18_0 : decode jdk_42_method_66_code 0 = .ok (.aload_n 0, 1) := by decide +kernel
theorem d18_1 : decode jdk_42_method_66_code 1 = .ok (.aload_n 1, 1) := by decide +kernel
theorem d18_2 : decode jdk_42_method_66_code 2 = .ok (.if_acmp .ne 5, 3) := by decide +kernel
theorem d18_7 : decode jdk_42_method_66_code 7 = .ok (.aload_n 1, 1) := by decide +kernel
theorem d18_8 : decode jdk_42_method_66_code 8 = .ok (.instanceof 10, 3) := by decide +kernel
theorem d18_11 : decode jdk_42_method_66_code 11 = .ok (.ifCond .eq 43, 3) := by decide +kernel
theorem d18_54 : decode jdk_42_method_66_code 54 = .ok (.iconst 0, 1) := by decide +kernel
theorem d18_55 : decode jdk_42_method_66_code 55 = .ok (.ireturn, 1) := by decide +kernel
def QEN (Z : State) (a1 : Nat) (h0 : Heap) (n0 : Nat) (v : Option Value) (h : Heap) (L : List Loc) : Prop := v = some (.int 0) ∧ Fr n0 L ∧ h = h0
set_option maxRecDepth 65536 in
set_option maxHeartbeats 40000000 in
theorem rmEN (l : Launch) (Z : State) (a0 : Array Value) (hw : ∀ d ∈ tables_1, d.before a0 Z = true) (ws : List Jvm.Cond) (a1 : Nat) (h0 : Heap) (n0 : Nat) (Z0 : n0 ≤ h0.size) :
    MetFree l (⟨"java/lang/String", "equals", "(Ljava/lang/Object;)Z"⟩ : MethodName) (head1 (Jvm.Cond.code (⟨"java/lang/String", "equals", "(Ljava/lang/Object;)Z"⟩ : MethodName) jdk_42_method_66_code 3 (some .boolean) :: ws) ({ frames := 0, cells := 0, slots := 0, locals := 0 } : Room)) (fun a U => a = #[(.ref a1), .null] ∧ Z.Warmed39 U.vm ∧ U.heap = h0) (fun _ _ _ _ _ => True) (fun _ U o U' => ∃ v L, o = .returned v ∧ QEN Z a1 h0 n0 v U'.heap L ∧ FrameEnd U o U' L ({ frames := 0, cells := 0, slots := 0, locals := 0 } : Room).cells ({ frames := 0, cells := 0, slots := 0, locals := 0 } : Room).slots) := by
  refine MetFree.of_bodySF (plainFor_of_name pn_0) hisR ?_
  intro p e s m args below meth c s₁ Bd hml0 hP hK
  obtain ⟨rfl, hZ, hh⟩ := hP
  have hx := Bd.exec
  have hby := Bd.bytes
  have hml : c.maxLocals = 3 := hml0
  have hown : s.vm.findClass "java/lang/String" = some m.cls := findClass_of_methodNamed Bd.named
  have hnm := (name_of_methodNamed Bd.named Bd.method).1
  have hlk : meth.locks = false := BodyLoose.notSynchronized Bd
  have X0 : Stand p l e ({ frames := 0, cells := 0, slots := 0, locals := 0 } : Room) s m #[(.ref a1), .null] below meth c s₁ [] 0 0 := Stand.of_body Bd
  have e0 : s₁.heap = h0 := by rw [← hh, Bd.state]; rfl
  have N0 := Fr.nil n0
  have hef : entryFrame m #[(.ref a1), .null] 3 = mkF m 0 #[.val (.ref a1), .val .null, .unset] [] := by first | (simp [entryFrame, mkF, argsToLocals, Value.category]; done) | rfl
  show Go p e below s ({ frames := 0, cells := 0, slots := 0, locals := 0 } : Room).cells ({ frames := 0, cells := 0, slots := 0, locals := 0 } : Room).slots (QEN Z a1 h0 n0) (s₁.setTop (entryFrame m #[(.ref a1), .null] 3))
  rw [hef]
  refine Go.of (fun t k => XS.aloadN X0.here hx rfl (hb hby d18_0) rfl rfl k) ?_
  show Go _ _ _ _ _ _ _ (s₁.setTop (mkF m 1 #[.val (.ref a1), .val .null, .unset] [(.ref a1)]))
  refine Go.of (fun t k => XS.aloadN X0.here hx rfl (hb hby d18_1) rfl rfl k) ?_
  show Go _ _ _ _ _ _ _ (s₁.setTop (mkF m 2 #[.val (.ref a1), .val .null, .unset] [.null, (.ref a1)]))
  refine Go.of (fun t k => Jvm.RoadKit.acmp (g := (mkF m 2 #[.val (.ref a1), .val .null, .unset] [.null, (.ref a1)])) X0 hx rfl rfl rfl (pc0 := 2) (pc' := 7) (same := false) rfl (hb hby d18_2) rfl (decide_eq_false nofun) (by decide) (by decide) k) ?_
  show Go _ _ _ _ _ _ _ (s₁.setTop (mkF m 7 #[.val (.ref a1), .val .null, .unset] []))
  refine Go.of (fun t k => XS.aloadN X0.here hx rfl (hb hby d18_7) rfl rfl k) ?_
  show Go _ _ _ _ _ _ _ (s₁.setTop (mkF m 8 #[.val (.ref a1), .val .null, .unset] [.null]))
  refine Go.of (X0.instanceofNull hx (g := (mkF m 8 #[.val (.ref a1), .val .null, .unset] [.null])) rfl rfl (hb hby d18_8)) ?_
  show Go _ _ _ _ _ _ _ (s₁.setTop (mkF m 11 #[.val (.ref a1), .val .null, .unset] [(.int (0 : Int32))]))
  refine Go.of (fun t k => XS.ifYes X0.here hx rfl (pc0 := 11) (pc' := 54) rfl (hb hby d18_11) rfl ((if0 _ _).trans (teq (by decide : (0 : Int32) = (0 : Int32))).1) (by decide) (by decide) k) ?_
  show Go _ _ _ _ _ _ _ (s₁.setTop (mkF m 54 #[.val (.ref a1), .val .null, .unset] []))
  refine Go.of (fun t k => XS.iconst X0.here hx rfl (hb hby d18_54) k) ?_
  show Go _ _ _ _ _ _ _ (s₁.setTop (mkF m 55 #[.val (.ref a1), .val .null, .unset] [(.int (0 : Int32))]))
  refine Go.out X0 (v := some (.int (0 : Int32))) (fun h => by rw [Bd.returns] at h; cases h) hlk (fun fs hr => retN X0 hx (t := .boolean) Bd.returns (by simp) (hb hby d18_55) hr) ?_ (by decide) (by decide)
  show QEN Z a1 h0 n0 _ s₁.heap _
  rw [e0]
  exact ⟨rfl, N0, rfl⟩
theorem pn_1 : plainName "com/example/clearstep/clearstep/core/EventKindFromWordPinLaw" = true := by first | (simp [plainName, overriddenIn]; done) | decide +kernel
theorem pd_0 : parseMethodDescriptor "()I" = some ⟨[], some .int⟩ := by decide +kernel
theorem pd_1 : parseMethodDescriptor "(I)C" = some ⟨[.int], some .char⟩ := by decide +kernel
theorem d4_0 : decode method_5_code 0 = .ok (.iload_n 1, 1) := by decide +kernel
theorem d4_1 : decode method_5_code 1 = .ok (.aload_n 0, 1) := by decide +kernel
theorem d4_2 : decode method_5_code 2 = .ok (.invokevirtual 14, 3) := by decide +kernel
theorem d4_5 : decode method_5_code 5 = .ok (.if_icmp .ge 9, 3) := by decide +kernel
theorem d4_8 : decode method_5_code 8 = .ok (.aload_n 0, 1) := by decide +kernel
theorem d4_9 : decode method_5_code 9 = .ok (.iload_n 1, 1) := by decide +kernel
theorem d4_10 : decode method_5_code 10 = .ok (.invokevirtual 83, 3) := by decide +kernel
theorem d4_13 : decode method_5_code 13 = .ok (.ireturn, 1) := by decide +kernel
theorem d4_14 : decode method_5_code 14 = .ok (.iconst 0, 1) := by decide +kernel
theorem d4_15 : decode method_5_code 15 = .ok (.ireturn, 1) := by decide +kernel
def Q4 (Z : State) (a1 : Nat) (p2 : Int32) (i : Nat) (xs : List Int32) (cs : Int32) (fm : Value) (h0 : Heap) (n0 : Nat) (v : Option Value) (h : Heap) (L : List Loc) : Prop := ∃ z : Int32, v = some (.int z) ∧ Fr n0 L ∧ h = h0 ∧ ¬ z < 0 ∧ ¬ (255 : Int32) < z
set_option maxRecDepth 65536 in
set_option maxHeartbeats 40000000 in
theorem rm4 (l : Launch) (Z : State) (a0 : Array Value) (hw : ∀ d ∈ tables_1, d.before a0 Z = true) (ws : List Jvm.Cond) (a1 : Nat) (p2 : Int32) (i : Nat) (xs : List Int32) (cs : Int32) (fm : Value) (h0 : Heap) (n0 : Nat) (Z0 : n0 ≤ h0.size) (S_cs : Sta Z h0 "java/lang/String" "COMPACT_STRINGS" "Z" (.int cs)) (hcs : ¬ cs = (0 : Int32)) (S_fm : Sta Z h0 "jdk/internal/util/Preconditions" "SIOOBE_FORMATTER" "Ljava/util/function/BiFunction;" fm) (hfm : fm.isRef = true) (S1 : own_Str Z h0 a1 xs) (hp2 : p2 = Int32.ofNat i) (hi : i ≤ 7) :
    MetFree l (⟨"com/example/clearstep/clearstep/core/EventKindFromWordPinLaw", "at", "(Ljava/lang/String;I)C"⟩ : MethodName) (head1 (Jvm.Cond.code (⟨"com/example/clearstep/clearstep/core/EventKindFromWordPinLaw", "at", "(Ljava/lang/String;I)C"⟩ : MethodName) method_5_code 2 (some .char) :: ws) ({ frames := 4, cells := 0, slots := 0, locals := 53 } : Room)) (fun a U => a = #[(.ref a1), (.int p2)] ∧ Z.Warmed39 U.vm ∧ U.heap = h0) (fun _ _ _ _ _ => True) (fun _ U o U' => ∃ v L, o = .returned v ∧ Q4 Z a1 p2 i xs cs fm h0 n0 v U'.heap L ∧ FrameEnd U o U' L ({ frames := 4, cells := 0, slots := 0, locals := 53 } : Room).cells ({ frames := 4, cells := 0, slots := 0, locals := 53 } : Room).slots) := by
  refine MetFree.of_bodySF (plainFor_of_name pn_1) hisR ?_
  intro p e s m args below meth c s₁ Bd hml0 hP hK
  obtain ⟨rfl, hZ, hh⟩ := hP
  have hx := Bd.exec
  have hby := Bd.bytes
  have hml : c.maxLocals = 2 := hml0
  have hown : s.vm.findClass "com/example/clearstep/clearstep/core/EventKindFromWordPinLaw" = some m.cls := findClass_of_methodNamed Bd.named
  have hnm := (name_of_methodNamed Bd.named Bd.method).1
  have hlk : meth.locks = false := BodyLoose.notSynchronized Bd
  have X0 : Stand p l e ({ frames := 4, cells := 0, slots := 0, locals := 53 } : Room) s m #[(.ref a1), (.int p2)] below meth c s₁ [] 0 0 := Stand.of_body Bd
  have e0 : s₁.heap = h0 := by rw [← hh, Bd.state]; rfl
  have N0 := Fr.nil n0
  have hef : entryFrame m #[(.ref a1), (.int p2)] 2 = mkF m 0 #[.val (.ref a1), .val (.int p2)] [] := by first | (simp [entryFrame, mkF, argsToLocals, Value.category]; done) | rfl
  show Go p e below s ({ frames := 4, cells := 0, slots := 0, locals := 53 } : Room).cells ({ frames := 4, cells := 0, slots := 0, locals := 53 } : Room).slots (Q4 Z a1 p2 i xs cs fm h0 n0) (s₁.setTop (entryFrame m #[(.ref a1), (.int p2)] 2))
  rw [hef]
  obtain ⟨t0, kt0, -, -, -, -, l80, hr0⟩ := id S1
  refine Go.of (fun t k => XS.iloadN X0.here hx rfl (hb hby d4_0) rfl k) ?_
  show Go _ _ _ _ _ _ _ (s₁.setTop (mkF m 1 #[.val (.ref a1), .val (.int p2)] [(.int p2)]))
  refine Go.of (fun t k => XS.aloadN X0.here hx rfl (hb hby d4_1) rfl rfl k) ?_
  show Go _ _ _ _ _ _ _ (s₁.setTop (mkF m 2 #[.val (.ref a1), .val (.int p2)] [(.ref a1), (.int p2)]))
  obtain ⟨t1, kt1, E1, Fv1, Fc1, Va1, l81, hr1⟩ := id S1
  obtain ⟨cq2, kq2, q2a, q2b, q2c⟩ := isOf hZ e0 E1
  obtain ⟨v2, _, ⟨T2, L2, k2, n2⟩, -, X2, ⟨Lc2, hQ2, l2, y2, z2⟩, st2⟩ := X0.virtualBack hx (y := (⟨"java/lang/String", "length", "()I"⟩ : MethodName)) (z := (⟨"java/lang/String", "length", "()I"⟩ : MethodName)) hown (mvT hZ (own_w hw 13 rfl)) (mvT hZ (own_w hw 14 rfl)) (notFace_of_selects (args := #[]) (mvT hZ (own_w hw 16 rfl))) (mvT hZ (own_w hw 16 rfl)) (mvT hZ (own_w hw 15 rfl)) (by decide) (StrChars.Road.lenW (W := 1) hZ (own_wordsLen hw) (kI := 4) (own_w hw 7 rfl) E1 Fv1 Fc1 Va1 (own_Str.cod hr1) (own_Str.up hr1) S_cs hcs (by omega) (by decide) (by decide)) q2a q2c (g := (mkF m 2 #[.val (.ref a1), .val (.int p2)] [(.ref a1), (.int p2)])) rfl (by rw [hml]; rfl) (Steps.refl _) (argsL := []) (rest := [(.int p2)]) (lenOf pd_0 rfl) rfl (by show 2 * 0 + _ ≤ _; exact Nat.le_of_eq rfl) (hb hby d4_2) (fun _ _ => ⟨rfl, e0, (by decide : 0 + 0 ≤ _), (by decide : 0 + 0 ≤ _)⟩)
  dsimp only [Pt.U, Pt.locs, Pt.cells, Pt.slots] at X2 l2 y2 z2 st2 hQ2
  replace y2 : k2 = 0 := y2.trans (by decide)
  replace z2 : n2 = 0 := z2.trans (by decide)
  subst l2 y2 z2
  obtain ⟨rfl, rfl, e2⟩ := hQ2
  have N2 := Fr.app N0 (Fr.nil n0)
  refine Go.tr st2 ?_
  show Go _ _ _ _ _ _ _ (T2.setTop (mkF m 5 #[.val (.ref a1), .val (.int p2)] [(.int (Int32.ofNat xs.length)), (.int p2)]))
  by_cases hc5_3 : p2 < (Int32.ofNat xs.length)
  · skip
    refine Go.of (fun t k => XS.icmpNo X2.here hx rfl (hb hby d4_5) rfl (tlt hc5_3).2.1 k) ?_
    show Go _ _ _ _ _ _ _ (T2.setTop (mkF m 8 #[.val (.ref a1), .val (.int p2)] []))
    refine Go.of (fun t k => XS.aloadN X2.here hx rfl (hb hby d4_8) rfl rfl k) ?_
    show Go _ _ _ _ _ _ _ (T2.setTop (mkF m 9 #[.val (.ref a1), .val (.int p2)] [(.ref a1)]))
    refine Go.of (fun t k => XS.iloadN X2.here hx rfl (hb hby d4_9) rfl k) ?_
    show Go _ _ _ _ _ _ _ (T2.setTop (mkF m 10 #[.val (.ref a1), .val (.int p2)] [(.int p2), (.ref a1)]))
    obtain ⟨t4, kt4, E4, Fv4, Fc4, Va4, l84, hr4⟩ := id S1
    have hi4 : i < xs.length := own_ltn hi l84 (by rw [← hp2]; exact hc5_3)
    obtain ⟨cq5, kq5, q5a, q5b, q5c⟩ := isOf hZ e2 E4
    obtain ⟨v5, _, ⟨T5, L5, k5, n5⟩, -, X5, ⟨Lc5, hQ5, l5, y5, z5⟩, st5⟩ := X2.virtualBack hx (y := (⟨"java/lang/String", "charAt", "(I)C"⟩ : MethodName)) (z := (⟨"java/lang/String", "charAt", "(I)C"⟩ : MethodName)) hown (mvT hZ (own_w hw 30 rfl)) (mvT hZ (own_w hw 31 rfl)) (notFace_of_selects (args := #[]) (mvT hZ (own_w hw 33 rfl))) (mvT hZ (own_w hw 33 rfl)) (mvT hZ (own_w hw 32 rfl)) (by decide) (StrChars.Road.chN (W := 0) hZ (own_wordsChN hw) (kI := 4) (own_w hw 7 rfl) (i := i) E4 Fv4 Fc4 Va4 (own_Str.cod hr4) (own_Str.up hr4) S_cs hcs S_fm hfm (by omega) hi4 hp2 (by decide) (by decide)) q5a q5c (g := (mkF m 10 #[.val (.ref a1), .val (.int p2)] [(.int p2), (.ref a1)])) rfl (by rw [hml]; rfl) (Steps.refl _) (argsL := [(.int p2)]) (rest := []) (lenOf pd_1 rfl) rfl (by show 2 * 0 + _ ≤ _; exact Nat.le_of_eq rfl) (hb hby d4_10) (fun _ _ => ⟨rfl, e2, (by decide : 0 + 0 ≤ _), (by decide : 0 + 0 ≤ _)⟩)
    dsimp only [Pt.U, Pt.locs, Pt.cells, Pt.slots] at X5 l5 y5 z5 st5 hQ5
    replace y5 : k5 = 0 := y5.trans (by decide)
    replace z5 : n5 = 0 := z5.trans (by decide)
    subst l5 y5 z5
    obtain ⟨rfl, rfl, e5⟩ := hQ5
    have N5 := Fr.app N2 (Fr.nil n0)
    refine Go.tr st5 ?_
    show Go _ _ _ _ _ _ _ (T5.setTop (mkF m 13 #[.val (.ref a1), .val (.int p2)] [(.int (xs.getD i 0))]))
    refine Go.out X5 (v := some (.int (nar .char (xs.getD i 0)))) (fun h => by rw [Bd.returns] at h; cases h) hlk (fun fs hr => retN X5 hx (t := .char) Bd.returns (by simp) (hb hby d4_13) hr) ?_ (by decide) (by decide)
    show Q4 Z a1 p2 i xs cs fm h0 n0 _ T5.heap _
    have hz := own_narr (own_getD hr4 hi4)
    rw [e5]
    exact ⟨_, rfl, N5, rfl, hz.1, hz.2⟩
  · skip
    refine Go.of (fun t k => XS.icmpYes X2.here hx rfl (pc0 := 5) (pc' := 14) rfl (hb hby d4_5) rfl (flt hc5_3).2.1 (by decide) (by decide) k) ?_
    show Go _ _ _ _ _ _ _ (T2.setTop (mkF m 14 #[.val (.ref a1), .val (.int p2)] []))
    refine Go.of (fun t k => XS.iconst X2.here hx rfl (hb hby d4_14) k) ?_
    show Go _ _ _ _ _ _ _ (T2.setTop (mkF m 15 #[.val (.ref a1), .val (.int p2)] [(.int (0 : Int32))]))
    refine Go.out X2 (v := some (.int (0 : Int32))) (fun h => by rw [Bd.returns] at h; cases h) hlk (fun fs hr => retN X2 hx (t := .char) Bd.returns (by simp) (hb hby d4_15) hr) ?_ (by decide) (by decide)
    show Q4 Z a1 p2 i xs cs fm h0 n0 _ T2.heap _
    rw [e2]
    exact ⟨_, rfl, N2, rfl, own_zero.1, own_zero.2⟩
theorem d1_0 : decode method_3_code 0 = .ok (.iload_n 0, 1) := by decide +kernel
theorem d1_1 : decode method_3_code 1 = .ok (.ifCond .ne 6, 3) := by decide +kernel
theorem d1_4 : decode method_3_code 4 = .ok (.ldc 53, 2) := by decide +kernel
theorem d1_6 : decode method_3_code 6 = .ok (.areturn, 1) := by decide +kernel
theorem d1_7 : decode method_3_code 7 = .ok (.iload_n 0, 1) := by decide +kernel
theorem d1_8 : decode method_3_code 8 = .ok (.iconst 1, 1) := by decide +kernel
theorem d1_9 : decode method_3_code 9 = .ok (.if_icmp .ne 6, 3) := by decide +kernel
theorem d1_12 : decode method_3_code 12 = .ok (.ldc 55, 2) := by decide +kernel
theorem d1_14 : decode method_3_code 14 = .ok (.areturn, 1) := by decide +kernel
theorem d1_15 : decode method_3_code 15 = .ok (.iload_n 0, 1) := by decide +kernel
theorem d1_16 : decode method_3_code 16 = .ok (.iconst 2, 1) := by decide +kernel
theorem d1_17 : decode method_3_code 17 = .ok (.if_icmp .ne 6, 3) := by decide +kernel
theorem d1_20 : decode method_3_code 20 = .ok (.ldc 57, 2) := by decide +kernel
theorem d1_22 : decode method_3_code 22 = .ok (.areturn, 1) := by decide +kernel
theorem d1_23 : decode method_3_code 23 = .ok (.iload_n 0, 1) := by decide +kernel
theorem d1_24 : decode method_3_code 24 = .ok (.iconst 3, 1) := by decide +kernel
theorem d1_25 : decode method_3_code 25 = .ok (.if_icmp .ne 6, 3) := by decide +kernel
theorem d1_28 : decode method_3_code 28 = .ok (.ldc 59, 2) := by decide +kernel
theorem d1_30 : decode method_3_code 30 = .ok (.areturn, 1) := by decide +kernel
theorem d1_31 : decode method_3_code 31 = .ok (.ldc 61, 2) := by decide +kernel
theorem d1_33 : decode method_3_code 33 = .ok (.areturn, 1) := by decide +kernel
def Q1 (Z : State) (p1 : Int32) (h0 : Heap) (n0 : Nat) (v : Option Value) (h : Heap) (L : List Loc) : Prop := ∃ (a : Nat) (xs : List Int32), v = some (.ref a) ∧ Fr n0 L ∧ Keep h0 h [] ∧ own_Str Z h a xs ∧ 0 < xs.length ∧ xs.length ≤ 7
set_option maxRecDepth 65536 in
set_option maxHeartbeats 40000000 in
theorem rm1 (l : Launch) (Z : State) (a0 : Array Value) (hw : ∀ d ∈ tables_1, d.before a0 Z = true) (ws : List Jvm.Cond) (p1 : Int32) (h0 : Heap) (n0 : Nat) (Z0 : n0 ≤ h0.size) (O0 : Old Z n0 h0) (hcw : Jvm.Lit.compactW.before a0 Z = true) (hh0' : Jvm.Lit.constHeld Z "java/lang/String" 7) (hh1' : Jvm.Lit.constHeld Z "com/example/clearstep/clearstep/core/EventKindFromWordPinLaw" 53) (hh2' : Jvm.Lit.constHeld Z "com/example/clearstep/clearstep/core/EventKindFromWordPinLaw" 55) (hh3' : Jvm.Lit.constHeld Z "com/example/clearstep/clearstep/core/EventKindFromWordPinLaw" 57) (hh4' : Jvm.Lit.constHeld Z "com/example/clearstep/clearstep/core/EventKindFromWordPinLaw" 59) (hh5' : Jvm.Lit.constHeld Z "com/example/clearstep/clearstep/core/EventKindFromWordPinLaw" 61) :
    MetFree l (⟨"com/example/clearstep/clearstep/core/EventKindFromWordPinLaw", "wordOf", "(I)Ljava/lang/String;"⟩ : MethodName) (head1 (Jvm.Cond.code (⟨"com/example/clearstep/clearstep/core/EventKindFromWordPinLaw", "wordOf", "(I)Ljava/lang/String;"⟩ : MethodName) method_3_code 1 (some (.object "java/lang/String")) :: ws) ({ frames := 0, cells := 2, slots := 32, locals := 0 } : Room)) (fun a U => a = #[(.int p1)] ∧ Z.Warmed39 U.vm ∧ U.heap = h0 ∧ own_J Z U.vm h0) (fun _ _ _ _ _ => True) (fun _ U o U' => ∃ v L, o = .returned v ∧ Q1 Z p1 h0 n0 v U'.heap L ∧ own_J Z U'.vm U'.heap ∧ ReturnedEndW U o U' L ({ frames := 0, cells := 2, slots := 32, locals := 0 } : Room).cells ({ frames := 0, cells := 2, slots := 32, locals := 0 } : Room).slots) := by
  refine MetFree.of_bodySF (plainFor_of_name pn_1) hisR ?_
  intro p e s m args below meth c s₁ Bd hml0 hP hK
  obtain ⟨rfl, hZ, hh, hJ⟩ := hP
  have hx := Bd.exec
  have hby := Bd.bytes
  have hml : c.maxLocals = 1 := hml0
  have hown : s.vm.findClass "com/example/clearstep/clearstep/core/EventKindFromWordPinLaw" = some m.cls := findClass_of_methodNamed Bd.named
  have hnm := (name_of_methodNamed Bd.named Bd.method).1
  have hlk : meth.locks = false := BodyLoose.notSynchronized Bd
  have X0 : Stand p l e ({ frames := 0, cells := 2, slots := 32, locals := 0 } : Room) (s.setVm s.vm) m #[(.int p1)] below meth c s₁ [] 0 0 := Stand.of_body Bd
  have hS : s.Since s.vm 0 := (State.WarmedH.refl s).since 0
  have hk : 0 ≤ h0.size := Nat.zero_le _
  have hZ : Z.Warmed39 (s.setVm s.vm).vm := hZ
  have hown : (s.setVm s.vm).vm.findClass "com/example/clearstep/clearstep/core/EventKindFromWordPinLaw" = some m.cls := hown
  have e0 : s₁.heap = h0 := by rw [← hh, Bd.state]; rfl
  have N0 := Fr.nil n0
  have hef : entryFrame m #[(.int p1)] 1 = mkF m 0 #[.val (.int p1)] [] := by first | (simp [entryFrame, mkF, argsToLocals, Value.category]; done) | rfl
  show GoJ p e below s ({ frames := 0, cells := 2, slots := 32, locals := 0 } : Room).cells ({ frames := 0, cells := 2, slots := 32, locals := 0 } : Room).slots Z (Q1 Z p1 h0 n0) (s₁.setTop (entryFrame m #[(.int p1)] 1))
  rw [hef]
  refine GoJ.of (fun t k => XS.iloadN X0.here hx rfl (hb hby d1_0) rfl k) ?_
  show GoJ _ _ _ _ _ _ _ _ (s₁.setTop (mkF m 1 #[.val (.int p1)] [(.int p1)]))
  by_cases hc1_1 : p1 = (0 : Int32)
  · skip
    refine GoJ.of (fun t k => XS.ifNo X0.here hx rfl (hb hby d1_1) rfl ((if0 _ _).trans (teq hc1_1).2) k) ?_
    show GoJ _ _ _ _ _ _ _ _ (s₁.setTop (mkF m 4 #[.val (.int p1)] []))
    obtain ⟨la2, T2, h2, k2, vm2, X2, e2, E2, hS', hk', hZ', hown', Sa2, Li2, hJ2, st2⟩ := own_ldcJ_1 X0 hx hZ hown hw e0 hS (by omega) (Fr.nil _) (fun b cl q => by rw [show (s : State).heap = h0 from hh]; exact O0.2.2 b cl q) hJ hh1' hcw (g := (mkF m 4 #[.val (.int p1)] [])) rfl (hb hby d1_4) (by decide) (by decide)
    have hS := hS'
    have hk := hk'
    have hZ := hZ'
    have hown := hown'
    refine GoJ.of st2 ?_
    have hs3 : h0.size ≤ h2.size := E2.1
    show GoJ _ _ _ _ _ _ _ _ (T2.setTop (mkF m 6 #[.val (.int p1)] [(.ref la2)]))
    refine GoJ.out X2 hS (by rw [e2]; omega) (by rw [e2]; exact hJ2) (v := some (.ref la2)) (fun h => by rw [Bd.returns] at h; cases h) hlk (fun fs hr => retOut X2 hx (t := (.object "java/lang/String")) Bd.returns rfl (Or.inr (Or.inr (Or.inr (Or.inr ⟨rfl, rfl, rfl⟩)))) (hb hby d1_6) hr) ?_ (by decide) (by decide)
    show Q1 Z p1 h0 n0 _ T2.heap _
    rw [e2]
    exact ⟨la2, _, rfl, N0, ((Keep.refl h0 []).ext E2), Sa2, by decide, by decide⟩
  · skip
    refine GoJ.of (fun t k => XS.ifYes X0.here hx rfl (pc0 := 1) (pc' := 7) rfl (hb hby d1_1) rfl ((if0 _ _).trans (feq hc1_1).2) (by decide) (by decide) k) ?_
    show GoJ _ _ _ _ _ _ _ _ (s₁.setTop (mkF m 7 #[.val (.int p1)] []))
    refine GoJ.of (fun t k => XS.iloadN X0.here hx rfl (hb hby d1_7) rfl k) ?_
    show GoJ _ _ _ _ _ _ _ _ (s₁.setTop (mkF m 8 #[.val (.int p1)] [(.int p1)]))
    refine GoJ.of (fun t k => XS.iconst X0.here hx rfl (hb hby d1_8) k) ?_
    show GoJ _ _ _ _ _ _ _ _ (s₁.setTop (mkF m 9 #[.val (.int p1)] [(.int (1 : Int32)), (.int p1)]))
    by_cases hc9_4 : p1 = (1 : Int32)
    · skip
      refine GoJ.of (fun t k => XS.icmpNo X0.here hx rfl (hb hby d1_9) rfl (teq hc9_4).2 k) ?_
      show GoJ _ _ _ _ _ _ _ _ (s₁.setTop (mkF m 12 #[.val (.int p1)] []))
      obtain ⟨la5, T5, h5, k5, vm5, X5, e5, E5, hS', hk', hZ', hown', Sa5, Li5, hJ5, st5⟩ := own_ldcJ_2 X0 hx hZ hown hw e0 hS (by omega) (Fr.nil _) (fun b cl q => by rw [show (s : State).heap = h0 from hh]; exact O0.2.2 b cl q) hJ hh2' hcw (g := (mkF m 12 #[.val (.int p1)] [])) rfl (hb hby d1_12) (by decide) (by decide)
      have hS := hS'
      have hk := hk'
      have hZ := hZ'
      have hown := hown'
      refine GoJ.of st5 ?_
      have hs6 : h0.size ≤ h5.size := E5.1
      show GoJ _ _ _ _ _ _ _ _ (T5.setTop (mkF m 14 #[.val (.int p1)] [(.ref la5)]))
      refine GoJ.out X5 hS (by rw [e5]; omega) (by rw [e5]; exact hJ5) (v := some (.ref la5)) (fun h => by rw [Bd.returns] at h; cases h) hlk (fun fs hr => retOut X5 hx (t := (.object "java/lang/String")) Bd.returns rfl (Or.inr (Or.inr (Or.inr (Or.inr ⟨rfl, rfl, rfl⟩)))) (hb hby d1_14) hr) ?_ (by decide) (by decide)
      show Q1 Z p1 h0 n0 _ T5.heap _
      rw [e5]
      exact ⟨la5, _, rfl, N0, ((Keep.refl h0 []).ext E5), Sa5, by decide, by decide⟩
    · skip
      refine GoJ.of (fun t k => XS.icmpYes X0.here hx rfl (pc0 := 9) (pc' := 15) rfl (hb hby d1_9) rfl (feq hc9_4).2 (by decide) (by decide) k) ?_
      show GoJ _ _ _ _ _ _ _ _ (s₁.setTop (mkF m 15 #[.val (.int p1)] []))
      refine GoJ.of (fun t k => XS.iloadN X0.here hx rfl (hb hby d1_15) rfl k) ?_
      show GoJ _ _ _ _ _ _ _ _ (s₁.setTop (mkF m 16 #[.val (.int p1)] [(.int p1)]))
      refine GoJ.of (fun t k => XS.iconst X0.here hx rfl (hb hby d1_16) k) ?_
      show GoJ _ _ _ _ _ _ _ _ (s₁.setTop (mkF m 17 #[.val (.int p1)] [(.int (2 : Int32)), (.int p1)]))
      by_cases hc17_7 : p1 = (2 : Int32)
      · skip
        refine GoJ.of (fun t k => XS.icmpNo X0.here hx rfl (hb hby d1_17) rfl (teq hc17_7).2 k) ?_
        show GoJ _ _ _ _ _ _ _ _ (s₁.setTop (mkF m 20 #[.val (.int p1)] []))
        obtain ⟨la8, T8, h8, k8, vm8, X8, e8, E8, hS', hk', hZ', hown', Sa8, Li8, hJ8, st8⟩ := own_ldcJ_3 X0 hx hZ hown hw e0 hS (by omega) (Fr.nil _) (fun b cl q => by rw [show (s : State).heap = h0 from hh]; exact O0.2.2 b cl q) hJ hh3' hcw (g := (mkF m 20 #[.val (.int p1)] [])) rfl (hb hby d1_20) (by decide) (by decide)
        have hS := hS'
        have hk := hk'
        have hZ := hZ'
        have hown := hown'
        refine GoJ.of st8 ?_
        have hs9 : h0.size ≤ h8.size := E8.1
        show GoJ _ _ _ _ _ _ _ _ (T8.setTop (mkF m 22 #[.val (.int p1)] [(.ref la8)]))
        refine GoJ.out X8 hS (by rw [e8]; omega) (by rw [e8]; exact hJ8) (v := some (.ref la8)) (fun h => by rw [Bd.returns] at h; cases h) hlk (fun fs hr => retOut X8 hx (t := (.object "java/lang/String")) Bd.returns rfl (Or.inr (Or.inr (Or.inr (Or.inr ⟨rfl, rfl, rfl⟩)))) (hb hby d1_22) hr) ?_ (by decide) (by decide)
        show Q1 Z p1 h0 n0 _ T8.heap _
        rw [e8]
        exact ⟨la8, _, rfl, N0, ((Keep.refl h0 []).ext E8), Sa8, by decide, by decide⟩
      · skip
        refine GoJ.of (fun t k => XS.icmpYes X0.here hx rfl (pc0 := 17) (pc' := 23) rfl (hb hby d1_17) rfl (feq hc17_7).2 (by decide) (by decide) k) ?_
        show GoJ _ _ _ _ _ _ _ _ (s₁.setTop (mkF m 23 #[.val (.int p1)] []))
        refine GoJ.of (fun t k => XS.iloadN X0.here hx rfl (hb hby d1_23) rfl k) ?_
        show GoJ _ _ _ _ _ _ _ _ (s₁.setTop (mkF m 24 #[.val (.int p1)] [(.int p1)]))
        refine GoJ.of (fun t k => XS.iconst X0.here hx rfl (hb hby d1_24) k) ?_
        show GoJ _ _ _ _ _ _ _ _ (s₁.setTop (mkF m 25 #[.val (.int p1)] [(.int (3 : Int32)), (.int p1)]))
        by_cases hc25_10 : p1 = (3 : Int32)
        · skip
          refine GoJ.of (fun t k => XS.icmpNo X0.here hx rfl (hb hby d1_25) rfl (teq hc25_10).2 k) ?_
          show GoJ _ _ _ _ _ _ _ _ (s₁.setTop (mkF m 28 #[.val (.int p1)] []))
          obtain ⟨la11, T11, h11, k11, vm11, X11, e11, E11, hS', hk', hZ', hown', Sa11, Li11, hJ11, st11⟩ := own_ldcJ_4 X0 hx hZ hown hw e0 hS (by omega) (Fr.nil _) (fun b cl q => by rw [show (s : State).heap = h0 from hh]; exact O0.2.2 b cl q) hJ hh4' hcw (g := (mkF m 28 #[.val (.int p1)] [])) rfl (hb hby d1_28) (by decide) (by decide)
          have hS := hS'
          have hk := hk'
          have hZ := hZ'
          have hown := hown'
          refine GoJ.of st11 ?_
          have hs12 : h0.size ≤ h11.size := E11.1
          show GoJ _ _ _ _ _ _ _ _ (T11.setTop (mkF m 30 #[.val (.int p1)] [(.ref la11)]))
          refine GoJ.out X11 hS (by rw [e11]; omega) (by rw [e11]; exact hJ11) (v := some (.ref la11)) (fun h => by rw [Bd.returns] at h; cases h) hlk (fun fs hr => retOut X11 hx (t := (.object "java/lang/String")) Bd.returns rfl (Or.inr (Or.inr (Or.inr (Or.inr ⟨rfl, rfl, rfl⟩)))) (hb hby d1_30) hr) ?_ (by decide) (by decide)
          show Q1 Z p1 h0 n0 _ T11.heap _
          rw [e11]
          exact ⟨la11, _, rfl, N0, ((Keep.refl h0 []).ext E11), Sa11, by decide, by decide⟩
        · skip
          refine GoJ.of (fun t k => XS.icmpYes X0.here hx rfl (pc0 := 25) (pc' := 31) rfl (hb hby d1_25) rfl (feq hc25_10).2 (by decide) (by decide) k) ?_
          show GoJ _ _ _ _ _ _ _ _ (s₁.setTop (mkF m 31 #[.val (.int p1)] []))
          obtain ⟨la13, T13, h13, k13, vm13, X13, e13, E13, hS', hk', hZ', hown', Sa13, Li13, hJ13, st13⟩ := own_ldcJ_5 X0 hx hZ hown hw e0 hS (by omega) (Fr.nil _) (fun b cl q => by rw [show (s : State).heap = h0 from hh]; exact O0.2.2 b cl q) hJ hh5' hcw (g := (mkF m 31 #[.val (.int p1)] [])) rfl (hb hby d1_31) (by decide) (by decide)
          have hS := hS'
          have hk := hk'
          have hZ := hZ'
          have hown := hown'
          refine GoJ.of st13 ?_
          have hs14 : h0.size ≤ h13.size := E13.1
          show GoJ _ _ _ _ _ _ _ _ (T13.setTop (mkF m 33 #[.val (.int p1)] [(.ref la13)]))
          refine GoJ.out X13 hS (by rw [e13]; omega) (by rw [e13]; exact hJ13) (v := some (.ref la13)) (fun h => by rw [Bd.returns] at h; cases h) hlk (fun fs hr => retOut X13 hx (t := (.object "java/lang/String")) Bd.returns rfl (Or.inr (Or.inr (Or.inr (Or.inr ⟨rfl, rfl, rfl⟩)))) (hb hby d1_33) hr) ?_ (by decide) (by decide)
          show Q1 Z p1 h0 n0 _ T13.heap _
          rw [e13]
          exact ⟨la13, _, rfl, N0, ((Keep.refl h0 []).ext E13), Sa13, by decide, by decide⟩
theorem d12_0 : decode jdk_42_method_149_code 0 = .ok (.aload_n 0, 1) := by decide +kernel
theorem d12_1 : decode jdk_42_method_149_code 1 = .ok (.invokespecial 1, 3) := by decide +kernel
theorem d12_4 : decode jdk_42_method_149_code 4 = .ok (.iload_n 3, 1) := by decide +kernel
theorem d12_5 : decode jdk_42_method_149_code 5 = .ok (.ifCond .ne 22, 3) := by decide +kernel
theorem d12_8 : decode jdk_42_method_149_code 8 = .ok (.aload_n 0, 1) := by decide +kernel
theorem d12_9 : decode jdk_42_method_149_code 9 = .ok (.ldc 7, 2) := by decide +kernel
theorem d12_11 : decode jdk_42_method_149_code 11 = .ok (.getfield 9, 3) := by decide +kernel
theorem d12_14 : decode jdk_42_method_149_code 14 = .ok (.putfield 9, 3) := by decide +kernel
theorem d12_17 : decode jdk_42_method_149_code 17 = .ok (.aload_n 0, 1) := by decide +kernel
theorem d12_18 : decode jdk_42_method_149_code 18 = .ok (.ldc 7, 2) := by decide +kernel
theorem d12_20 : decode jdk_42_method_149_code 20 = .ok (.getfield 15, 3) := by decide +kernel
theorem d12_23 : decode jdk_42_method_149_code 23 = .ok (.putfield 15, 3) := by decide +kernel
theorem d12_26 : decode jdk_42_method_149_code 26 = .ok (.return_, 1) := by decide +kernel
def QE4 (Z : State) (a1 : Nat) (a2 : Nat) (kc : ClassId) (h0 : Heap) (n0 : Nat) (v : Option Value) (h : Heap) (L : List Loc) : Prop := v = none ∧ Fr n0 L ∧ Keep h0 h [a1] ∧ own_Str Z h a1 []
set_option maxRecDepth 65536 in
set_option maxHeartbeats 40000000 in
theorem rmE4 (l : Launch) (Z : State) (a0 : Array Value) (hw : ∀ d ∈ tables_1, d.before a0 Z = true) (ws : List Jvm.Cond) (a1 : Nat) (a2 : Nat) (kc : ClassId) (h0 : Heap) (n0 : Nat) (Z0 : n0 ≤ h0.size) (O0 : Old Z n0 h0) (hcw : Jvm.Lit.compactW.before a0 Z = true) (hh0' : Jvm.Lit.constHeld Z "java/lang/String" 7) (hh1' : Jvm.Lit.constHeld Z "com/example/clearstep/clearstep/core/EventKindFromWordPinLaw" 53) (hh2' : Jvm.Lit.constHeld Z "com/example/clearstep/clearstep/core/EventKindFromWordPinLaw" 55) (hh3' : Jvm.Lit.constHeld Z "com/example/clearstep/clearstep/core/EventKindFromWordPinLaw" 57) (hh4' : Jvm.Lit.constHeld Z "com/example/clearstep/clearstep/core/EventKindFromWordPinLaw" 59) (hh5' : Jvm.Lit.constHeld Z "com/example/clearstep/clearstep/core/EventKindFromWordPinLaw" 61) (E1 : Exa Z h0 a1 "java/lang/String") (g1 : n0 ≤ a1) (F1 : Fld Z h0 a1 "java/lang/String" "value" "[B" .null) (F2 : Fld Z h0 a1 "java/lang/String" "coder" "B" (.int (0 : Int32))) (V2 : Arv Z h0 a2 kc .char (0 : Int32) [] (.int (0 : Int32))) :
    MetFree l (⟨"java/lang/String", "<init>", "([CIILjava/lang/Void;)V"⟩ : MethodName) (head1 (Jvm.Cond.code (⟨"java/lang/String", "<init>", "([CIILjava/lang/Void;)V"⟩ : MethodName) jdk_42_method_149_code 6 none :: ws) ({ frames := 1, cells := 2, slots := 4, locals := 12 } : Room)) (fun a U => a = #[(.ref a1), (.ref a2), (.int (0 : Int32)), (.int (0 : Int32)), .null] ∧ Z.Warmed39 U.vm ∧ U.heap = h0 ∧ own_J Z U.vm h0) (fun _ _ _ _ _ => True) (fun _ U o U' => ∃ v L, o = .returned v ∧ QE4 Z a1 a2 kc h0 n0 v U'.heap L ∧ own_J Z U'.vm U'.heap ∧ ReturnedEndW U o U' L ({ frames := 1, cells := 2, slots := 4, locals := 12 } : Room).cells ({ frames := 1, cells := 2, slots := 4, locals := 12 } : Room).slots) := by
  refine MetFree.of_bodySF (plainFor_of_name pn_0) hisR ?_
  intro p e s m args below meth c s₁ Bd hml0 hP hK
  obtain ⟨rfl, hZ, hh, hJ⟩ := hP
  have hx := Bd.exec
  have hby := Bd.bytes
  have hml : c.maxLocals = 6 := hml0
  have hown : s.vm.findClass "java/lang/String" = some m.cls := findClass_of_methodNamed Bd.named
  have hnm := (name_of_methodNamed Bd.named Bd.method).1
  have hlk : meth.locks = false := BodyLoose.notSynchronized Bd
  have X0 : Stand p l e ({ frames := 1, cells := 2, slots := 4, locals := 12 } : Room) (s.setVm s.vm) m #[(.ref a1), (.ref a2), (.int (0 : Int32)), (.int (0 : Int32)), .null] below meth c s₁ [] 0 0 := Stand.of_body Bd
  have hS : s.Since s.vm 0 := (State.WarmedH.refl s).since 0
  have hk : 0 ≤ h0.size := Nat.zero_le _
  have hZ : Z.Warmed39 (s.setVm s.vm).vm := hZ
  have hown : (s.setVm s.vm).vm.findClass "java/lang/String" = some m.cls := hown
  have e0 : s₁.heap = h0 := by rw [← hh, Bd.state]; rfl
  have N0 := Fr.nil n0
  have hef : entryFrame m #[(.ref a1), (.ref a2), (.int (0 : Int32)), (.int (0 : Int32)), .null] 6 = mkF m 0 #[.val (.ref a1), .val (.ref a2), .val (.int (0 : Int32)), .val (.int (0 : Int32)), .val .null, .unset] [] := by first | (simp [entryFrame, mkF, argsToLocals, Value.category]; done) | rfl
  show GoJ p e below s ({ frames := 1, cells := 2, slots := 4, locals := 12 } : Room).cells ({ frames := 1, cells := 2, slots := 4, locals := 12 } : Room).slots Z (QE4 Z a1 a2 kc h0 n0) (s₁.setTop (entryFrame m #[(.ref a1), (.ref a2), (.int (0 : Int32)), (.int (0 : Int32)), .null] 6))
  rw [hef]
  have lt1 : a1 < h0.size := E1.lt
  have lt2 : a2 < h0.size := V2.lt
  refine GoJ.of (fun t k => XS.aloadN X0.here hx rfl (hb hby d12_0) rfl rfl k) ?_
  show GoJ _ _ _ _ _ _ _ _ (s₁.setTop (mkF m 1 #[.val (.ref a1), .val (.ref a2), .val (.int (0 : Int32)), .val (.int (0 : Int32)), .val .null, .unset] [(.ref a1)]))
  obtain ⟨T1, X1, e1, st1⟩ := initO X0 hx hZ hown (own_w hw 63 rfl) (own_w hw 64 rfl) (own_w hw 65 rfl) e0 (g := (mkF m 1 #[.val (.ref a1), .val (.ref a2), .val (.int (0 : Int32)), .val (.int (0 : Int32)), .val .null, .unset] [(.ref a1)])) rfl (by rw [hml]; rfl) rfl (hb hby d12_1) (by decide) (W := 0) (by show 2 * 0 + _ ≤ _; exact Nat.le_of_eq rfl) (by decide)
  refine GoJ.of st1 ?_
  show GoJ _ _ _ _ _ _ _ _ (T1.setTop (mkF m 4 #[.val (.ref a1), .val (.ref a2), .val (.int (0 : Int32)), .val (.int (0 : Int32)), .val .null, .unset] []))
  refine GoJ.of (fun t k => XS.iloadN X1.here hx rfl (hb hby d12_4) rfl k) ?_
  show GoJ _ _ _ _ _ _ _ _ (T1.setTop (mkF m 5 #[.val (.ref a1), .val (.ref a2), .val (.int (0 : Int32)), .val (.int (0 : Int32)), .val .null, .unset] [(.int (0 : Int32))]))
  refine GoJ.of (fun t k => XS.ifNo X1.here hx rfl (hb hby d12_5) rfl ((if0 _ _).trans (teq (by decide : (0 : Int32) = (0 : Int32))).2) k) ?_
  show GoJ _ _ _ _ _ _ _ _ (T1.setTop (mkF m 8 #[.val (.ref a1), .val (.ref a2), .val (.int (0 : Int32)), .val (.int (0 : Int32)), .val .null, .unset] []))
  refine GoJ.of (fun t k => XS.aloadN X1.here hx rfl (hb hby d12_8) rfl rfl k) ?_
  show GoJ _ _ _ _ _ _ _ _ (T1.setTop (mkF m 9 #[.val (.ref a1), .val (.ref a2), .val (.int (0 : Int32)), .val (.int (0 : Int32)), .val .null, .unset] [(.ref a1)]))
  obtain ⟨la2, T2, h2, k2, vm2, X2, e2, E2, hS', hk', hZ', hown', Sa2, Li2, hJ2, st2⟩ := own_ldcJ_0 X1 hx hZ hown hw e1 hS (by omega) (Fr.nil _) (fun b cl q => by rw [show (s : State).heap = h0 from hh]; exact O0.2.2 b cl q) hJ hh0' hcw (g := (mkF m 9 #[.val (.ref a1), .val (.ref a2), .val (.int (0 : Int32)), .val (.int (0 : Int32)), .val .null, .unset] [(.ref a1)])) rfl (hb hby d12_9) (by decide) (by decide)
  have hS := hS'
  have hk := hk'
  have hZ := hZ'
  have hown := hown'
  refine GoJ.of st2 ?_
  have hs3 : h0.size ≤ h2.size := E2.1
  show GoJ _ _ _ _ _ _ _ _ (T2.setTop (mkF m 11 #[.val (.ref a1), .val (.ref a2), .val (.int (0 : Int32)), .val (.int (0 : Int32)), .val .null, .unset] [(.ref la2), (.ref a1)]))
  obtain ⟨t4, kt4, -, Fv4, Fc4, Va4, -, -⟩ := id Sa2
  have f5 := (F1.ext E2)
  have ne4 : la2 ≠ a1 := Fld.ne Fv4 f5 nofun
  have f6 := (E1.ext E2)
  have ne4' : t4 ≠ a1 := by obtain ⟨cl, A, -⟩ := Va4; exact (ne_arr f6 (own_w hw 7 rfl) A).symm
  obtain ⟨T7, X7, e7, st7⟩ := getF X2 hx hZ hown (host := "") (Or.inl (own_w hw 18 rfl)) Via.refl e2 Fv4 (g := (mkF m 11 #[.val (.ref a1), .val (.ref a2), .val (.int (0 : Int32)), .val (.int (0 : Int32)), .val .null, .unset] [(.ref la2), (.ref a1)])) rfl rfl (hb hby d12_11)
  refine GoJ.of st7 ?_
  show GoJ _ _ _ _ _ _ _ _ (T7.setTop (mkF m 14 #[.val (.ref a1), .val (.ref a2), .val (.int (0 : Int32)), .val (.int (0 : Int32)), .val .null, .unset] [(.ref t4), (.ref a1)]))
  obtain ⟨T8, h8, X8, e8, W8, st8⟩ := putF X7 hx hZ hown (host := "") (Or.inl (own_w hw 18 rfl)) Via.refl e7 f5 f6 (Or.inr ⟨(own_w hw 9 rfl), rfl, hnm⟩) (own_w hw 7 rfl) (ty := (.array .byte)) (by decide) rfl rfl (g := (mkF m 14 #[.val (.ref a1), .val (.ref a2), .val (.int (0 : Int32)), .val (.int (0 : Int32)), .val .null, .unset] [(.ref t4), (.ref a1)])) rfl rfl (hb hby d12_14)
  refine GoJ.of st8 ?_
  have Fw8 := f5.same W8
  have hs9 : h2.size ≤ h8.size := Nat.le_of_eq W8.size.symm
  have N8 := Fr.snoc X8 N0 g1
  show GoJ _ _ _ _ _ _ _ _ (T8.setTop (mkF m 17 #[.val (.ref a1), .val (.ref a2), .val (.int (0 : Int32)), .val (.int (0 : Int32)), .val .null, .unset] []))
  refine GoJ.of (fun t k => XS.aloadN X8.here hx rfl (hb hby d12_17) rfl rfl k) ?_
  show GoJ _ _ _ _ _ _ _ _ (T8.setTop (mkF m 18 #[.val (.ref a1), .val (.ref a2), .val (.int (0 : Int32)), .val (.int (0 : Int32)), .val .null, .unset] [(.ref a1)]))
  refine GoJ.of (ldcAgain X8 hx hZ hown (own_w hw 146 rfl) Li2 (g := (mkF m 18 #[.val (.ref a1), .val (.ref a2), .val (.int (0 : Int32)), .val (.int (0 : Int32)), .val .null, .unset] [(.ref a1)])) rfl (hb hby d12_18)) ?_
  show GoJ _ _ _ _ _ _ _ _ (T8.setTop (mkF m 20 #[.val (.ref a1), .val (.ref a2), .val (.int (0 : Int32)), .val (.int (0 : Int32)), .val .null, .unset] [(.ref la2), (.ref a1)]))
  have f10 := (Fc4.other W8 (Or.inl ne4))
  obtain ⟨T11, X11, e11, st11⟩ := getF X8 hx hZ hown (host := "") (Or.inl (own_w hw 25 rfl)) Via.refl e8 f10 (g := (mkF m 20 #[.val (.ref a1), .val (.ref a2), .val (.int (0 : Int32)), .val (.int (0 : Int32)), .val .null, .unset] [(.ref la2), (.ref a1)])) rfl rfl (hb hby d12_20)
  refine GoJ.of st11 ?_
  show GoJ _ _ _ _ _ _ _ _ (T11.setTop (mkF m 23 #[.val (.ref a1), .val (.ref a2), .val (.int (0 : Int32)), .val (.int (0 : Int32)), .val .null, .unset] [(.int (0 : Int32)), (.ref a1)]))
  have f12 := (f6.wr W8)
  have f13 := ((F2.ext E2).other W8 (Or.inr (slot_ne (Or.inr (own_w hw 10 rfl)) (Or.inr (own_w hw 9 rfl)) (by decide) (t := .byte) (t' := (.array .byte)) (by decide) (by decide))))
  obtain ⟨T14, h14, X14, e14, W14, st14⟩ := putFN X11 hx hZ hown (own_w hw 25 rfl) Via.refl e11 f13 f12 (Or.inr ⟨(own_w hw 10 rfl), rfl, hnm⟩) (own_w hw 7 rfl) (ty := .byte) (v' := (.int (0 : Int32))) (by decide) rfl rfl (g := (mkF m 23 #[.val (.ref a1), .val (.ref a2), .val (.int (0 : Int32)), .val (.int (0 : Int32)), .val .null, .unset] [(.int (0 : Int32)), (.ref a1)])) rfl rfl (hb hby d12_23)
  refine GoJ.of st14 ?_
  have Fw14 := f13.same W14
  have hs15 : h8.size ≤ h14.size := Nat.le_of_eq W14.size.symm
  have N14 := Fr.snoc X14 N8 g1
  show GoJ _ _ _ _ _ _ _ _ (T14.setTop (mkF m 26 #[.val (.ref a1), .val (.ref a2), .val (.int (0 : Int32)), .val (.int (0 : Int32)), .val .null, .unset] []))
  refine GoJ.out X14 hS (by rw [e14]; omega) (by rw [e14]; exact (own_J.keep1 hJ2 (((Keep.refl h2 [a1]).wr W8 (Or.inl (List.mem_of_getElem? (i := 0) rfl))).wr W14 (Or.inl (List.mem_of_getElem? (i := 0) rfl))) f5 f6 (own_w hw 7 rfl))) (v := none) (fun _ => rfl) hlk (fun fs hr => X14.returnOut hx Bd.returns (hb hby d12_26) hr) ?_ (by decide) (by decide)
  show QE4 Z a1 a2 kc h0 n0 _ T14.heap _
  have f16 := (f12.wr W14)
  have f17 := (Fw8.other W14 (Or.inr (slot_ne (Or.inr (own_w hw 9 rfl)) (Or.inr (own_w hw 10 rfl)) (by decide) (t := (.array .byte)) (t' := .byte) (by decide) (by decide))))
  have f18 := ((Va4.other W8 ne4').other W14 ne4')
  rw [e14]
  exact ⟨rfl, N14, ((((Keep.refl h0 [a1]).ext E2).wr W8 (Or.inl (List.mem_of_getElem? (i := 0) rfl))).wr W14 (Or.inl (List.mem_of_getElem? (i := 0) rfl))), ⟨t4, _, f16, f17, Fw14, f18, by decide, by decide⟩⟩
theorem pd_2 : parseMethodDescriptor "([CIILjava/lang/Void;)V" = some ⟨[(.array .char), .int, .int, (.object "java/lang/Void")], none⟩ := by decide +kernel
theorem d11_0 : decode jdk_42_method_3_code 0 = .ok (.aload_n 0, 1) := by decide +kernel
theorem d11_1 : decode jdk_42_method_3_code 1 = .ok (.aload_n 1, 1) := by decide +kernel
theorem d11_2 : decode jdk_42_method_3_code 2 = .ok (.iconst 0, 1) := by decide +kernel
theorem d11_3 : decode jdk_42_method_3_code 3 = .ok (.aload_n 1, 1) := by decide +kernel
theorem d11_4 : decode jdk_42_method_3_code 4 = .ok (.arraylength, 1) := by decide +kernel
theorem d11_5 : decode jdk_42_method_3_code 5 = .ok (.aconst_null, 1) := by decide +kernel
theorem d11_6 : decode jdk_42_method_3_code 6 = .ok (.invokespecial 27, 3) := by decide +kernel
theorem d11_9 : decode jdk_42_method_3_code 9 = .ok (.return_, 1) := by decide +kernel
def QE1 (Z : State) (a1 : Nat) (a2 : Nat) (kc : ClassId) (h0 : Heap) (n0 : Nat) (v : Option Value) (h : Heap) (L : List Loc) : Prop := v = none ∧ Fr n0 L ∧ Keep h0 h [a1] ∧ own_Str Z h a1 []
set_option maxRecDepth 65536 in
set_option maxHeartbeats 40000000 in
theorem rmE1 (l : Launch) (Z : State) (a0 : Array Value) (hw : ∀ d ∈ tables_1, d.before a0 Z = true) (ws : List Jvm.Cond) (a1 : Nat) (a2 : Nat) (kc : ClassId) (h0 : Heap) (n0 : Nat) (Z0 : n0 ≤ h0.size) (O0 : Old Z n0 h0) (hcw : Jvm.Lit.compactW.before a0 Z = true) (hh0' : Jvm.Lit.constHeld Z "java/lang/String" 7) (hh1' : Jvm.Lit.constHeld Z "com/example/clearstep/clearstep/core/EventKindFromWordPinLaw" 53) (hh2' : Jvm.Lit.constHeld Z "com/example/clearstep/clearstep/core/EventKindFromWordPinLaw" 55) (hh3' : Jvm.Lit.constHeld Z "com/example/clearstep/clearstep/core/EventKindFromWordPinLaw" 57) (hh4' : Jvm.Lit.constHeld Z "com/example/clearstep/clearstep/core/EventKindFromWordPinLaw" 59) (hh5' : Jvm.Lit.constHeld Z "com/example/clearstep/clearstep/core/EventKindFromWordPinLaw" 61) (E1 : Exa Z h0 a1 "java/lang/String") (g1 : n0 ≤ a1) (F1 : Fld Z h0 a1 "java/lang/String" "value" "[B" .null) (F2 : Fld Z h0 a1 "java/lang/String" "coder" "B" (.int (0 : Int32))) (V2 : Arv Z h0 a2 kc .char (0 : Int32) [] (.int (0 : Int32))) :
    MetFree l (⟨"java/lang/String", "<init>", "([C)V"⟩ : MethodName) (head1 (Jvm.Cond.code (⟨"java/lang/String", "<init>", "([C)V"⟩ : MethodName) jdk_42_method_3_code 2 none :: ws) ({ frames := 2, cells := 2, slots := 4, locals := 29 } : Room)) (fun a U => a = #[(.ref a1), (.ref a2)] ∧ Z.Warmed39 U.vm ∧ U.heap = h0 ∧ own_J Z U.vm h0) (fun _ _ _ _ _ => True) (fun _ U o U' => ∃ v L, o = .returned v ∧ QE1 Z a1 a2 kc h0 n0 v U'.heap L ∧ own_J Z U'.vm U'.heap ∧ ReturnedEndW U o U' L ({ frames := 2, cells := 2, slots := 4, locals := 29 } : Room).cells ({ frames := 2, cells := 2, slots := 4, locals := 29 } : Room).slots) := by
  refine MetFree.of_bodySF (plainFor_of_name pn_0) hisR ?_
  intro p e s m args below meth c s₁ Bd hml0 hP hK
  obtain ⟨rfl, hZ, hh, hJ⟩ := hP
  have hx := Bd.exec
  have hby := Bd.bytes
  have hml : c.maxLocals = 2 := hml0
  have hown : s.vm.findClass "java/lang/String" = some m.cls := findClass_of_methodNamed Bd.named
  have hnm := (name_of_methodNamed Bd.named Bd.method).1
  have hlk : meth.locks = false := BodyLoose.notSynchronized Bd
  have X0 : Stand p l e ({ frames := 2, cells := 2, slots := 4, locals := 29 } : Room) (s.setVm s.vm) m #[(.ref a1), (.ref a2)] below meth c s₁ [] 0 0 := Stand.of_body Bd
  have hS : s.Since s.vm 0 := (State.WarmedH.refl s).since 0
  have hk : 0 ≤ h0.size := Nat.zero_le _
  have hZ : Z.Warmed39 (s.setVm s.vm).vm := hZ
  have hown : (s.setVm s.vm).vm.findClass "java/lang/String" = some m.cls := hown
  have e0 : s₁.heap = h0 := by rw [← hh, Bd.state]; rfl
  have N0 := Fr.nil n0
  have hef : entryFrame m #[(.ref a1), (.ref a2)] 2 = mkF m 0 #[.val (.ref a1), .val (.ref a2)] [] := by first | (simp [entryFrame, mkF, argsToLocals, Value.category]; done) | rfl
  show GoJ p e below s ({ frames := 2, cells := 2, slots := 4, locals := 29 } : Room).cells ({ frames := 2, cells := 2, slots := 4, locals := 29 } : Room).slots Z (QE1 Z a1 a2 kc h0 n0) (s₁.setTop (entryFrame m #[(.ref a1), (.ref a2)] 2))
  rw [hef]
  have lt1 : a1 < h0.size := E1.lt
  have lt2 : a2 < h0.size := V2.lt
  refine GoJ.of (fun t k => XS.aloadN X0.here hx rfl (hb hby d11_0) rfl rfl k) ?_
  show GoJ _ _ _ _ _ _ _ _ (s₁.setTop (mkF m 1 #[.val (.ref a1), .val (.ref a2)] [(.ref a1)]))
  refine GoJ.of (fun t k => XS.aloadN X0.here hx rfl (hb hby d11_1) rfl rfl k) ?_
  show GoJ _ _ _ _ _ _ _ _ (s₁.setTop (mkF m 2 #[.val (.ref a1), .val (.ref a2)] [(.ref a2), (.ref a1)]))
  refine GoJ.of (fun t k => XS.iconst X0.here hx rfl (hb hby d11_2) k) ?_
  show GoJ _ _ _ _ _ _ _ _ (s₁.setTop (mkF m 3 #[.val (.ref a1), .val (.ref a2)] [(.int (0 : Int32)), (.ref a2), (.ref a1)]))
  refine GoJ.of (fun t k => XS.aloadN X0.here hx rfl (hb hby d11_3) rfl rfl k) ?_
  show GoJ _ _ _ _ _ _ _ _ (s₁.setTop (mkF m 4 #[.val (.ref a1), .val (.ref a2)] [(.ref a2), (.int (0 : Int32)), (.ref a2), (.ref a1)]))
  obtain ⟨cl1, Ar1, q1, S1, N1, H1, G1⟩ := id V2
  refine GoJ.of (X0.arraylength hx (own_at e0 Ar1.1) (State.isArrayOf_alike hZ.alike Ar1.2.1) (g := (mkF m 4 #[.val (.ref a1), .val (.ref a2)] [(.ref a2), (.int (0 : Int32)), (.ref a2), (.ref a1)])) rfl rfl (hb hby d11_4)) ?_
  rw [len_of S1 N1]
  show GoJ _ _ _ _ _ _ _ _ (s₁.setTop (mkF m 5 #[.val (.ref a1), .val (.ref a2)] [(.int (0 : Int32)), (.int (0 : Int32)), (.ref a2), (.ref a1)]))
  refine GoJ.of (fun t k => XS.aconstNull X0.here hx rfl (hb hby d11_5) k) ?_
  show GoJ _ _ _ _ _ _ _ _ (s₁.setTop (mkF m 6 #[.val (.ref a1), .val (.ref a2)] [.null, (.int (0 : Int32)), (.int (0 : Int32)), (.ref a2), (.ref a1)]))
  obtain ⟨_, _, ⟨T2, L2, k2, n2⟩, -, X2, hS2, hgr2, ⟨Lc2, hQ2, hJ2, l2, y2, z2⟩, st2⟩ := X0.specialBackS hx (y := (⟨"java/lang/String", "<init>", "([CIILjava/lang/Void;)V"⟩ : MethodName)) rfl hown (mvT hZ (own_w hw 59 rfl)) (mvT hZ (own_w hw 60 rfl)) (mvT hZ (own_w hw 62 rfl)) (by decide) (backOfJ (W := 0) (rmE4 l Z a0 hw [] a1 a2 kc h0 n0 Z0 O0 hcw hh0' hh1' hh2' hh3' hh4' hh5' E1 g1 F1 F2 V2) hZ (own_w hw 62 rfl) (own_w hw 6 rfl) (by decide) (by decide)) (g := (mkF m 6 #[.val (.ref a1), .val (.ref a2)] [.null, (.int (0 : Int32)), (.int (0 : Int32)), (.ref a2), (.ref a1)])) rfl (by rw [hml]; rfl) (Steps.refl _) (a := a1) (argsL := [(.ref a2), (.int (0 : Int32)), (.int (0 : Int32)), .null]) (rest := []) (lenOf pd_2 rfl) rfl (by show 2 * 0 + _ ≤ _; exact Nat.le_of_eq rfl) (hb hby d11_6) (fun _ hw1 => ⟨rfl, e0, own_J.warm hJ hw1, (by decide : 0 + 2 ≤ _), (by decide : 0 + 4 ≤ _)⟩)
  dsimp only [Pt.U, Pt.locs, Pt.cells, Pt.slots] at X2 l2 y2 z2 st2 hQ2 hS2 hgr2 hJ2
  replace y2 : k2 = 2 := y2.trans (by decide)
  replace z2 : n2 = 4 := z2.trans (by decide)
  subst y2 z2
  obtain ⟨X2, hS', hZ', hown'⟩ := rebS hS (by rw [e0]; omega) X2 hS2 hgr2 hZ hown
  have hk : T2.heap.size ≤ T2.heap.size := Nat.le_refl _
  have hS := hS'
  have hZ := hZ'
  have hown := hown'
  obtain ⟨rfl, N2q, K2, Se2⟩ := hQ2
  have N2 : Fr n0 L2 := by rw [l2]; exact Fr.app N0 N2q
  clear l2
  refine GoJ.tr st2 ?_
  have hs3 : h0.size ≤ T2.heap.size := K2.1
  show GoJ _ _ _ _ _ _ _ _ (T2.setTop (mkF m 9 #[.val (.ref a1), .val (.ref a2)] []))
  refine GoJ.out X2 hS (by omega) hJ2 (v := none) (fun _ => rfl) hlk (fun fs hr => X2.returnOut hx Bd.returns (hb hby d11_9) hr) ?_ (by decide) (by decide)
  show QE1 Z a1 a2 kc h0 n0 _ T2.heap _
  exact ⟨rfl, N2, ((Keep.refl h0 [a1]).trans K2 (allS (Or.inl (List.mem_of_getElem? (i := 0) rfl)) all0)), Se2⟩
theorem pd_3 : parseMethodDescriptor "([C)V" = some ⟨[(.array .char)], none⟩ := by decide +kernel
theorem d10_0 : decode method_6_code 0 = .ok (.iload_n 1, 1) := by decide +kernel
theorem d10_1 : decode method_6_code 1 = .ok (.ifCond .gt 14, 3) := by decide +kernel
theorem d10_4 : decode method_6_code 4 = .ok (.new 15, 3) := by decide +kernel
theorem d10_7 : decode method_6_code 7 = .ok (.dup, 1) := by decide +kernel
theorem d10_8 : decode method_6_code 8 = .ok (.iconst 0, 1) := by decide +kernel
theorem d10_9 : decode method_6_code 9 = .ok (.newarray .char, 2) := by decide +kernel
theorem d10_11 : decode method_6_code 11 = .ok (.invokespecial 87, 3) := by decide +kernel
theorem d10_14 : decode method_6_code 14 = .ok (.areturn, 1) := by decide +kernel
theorem d10_15 : decode method_6_code 15 = .ok (.iload_n 1, 1) := by decide +kernel
theorem d10_16 : decode method_6_code 16 = .ok (.iconst 1, 1) := by decide +kernel
theorem d10_17 : decode method_6_code 17 = .ok (.if_icmp .ne 20, 3) := by decide +kernel
theorem d10_20 : decode method_6_code 20 = .ok (.new 15, 3) := by decide +kernel
theorem d10_23 : decode method_6_code 23 = .ok (.dup, 1) := by decide +kernel
theorem d10_24 : decode method_6_code 24 = .ok (.iconst 1, 1) := by decide +kernel
theorem d10_25 : decode method_6_code 25 = .ok (.newarray .char, 2) := by decide +kernel
theorem d10_27 : decode method_6_code 27 = .ok (.dup, 1) := by decide +kernel
theorem d10_28 : decode method_6_code 28 = .ok (.iconst 0, 1) := by decide +kernel
theorem d10_29 : decode method_6_code 29 = .ok (.aload_n 0, 1) := by decide +kernel
theorem d10_30 : decode method_6_code 30 = .ok (.iconst 0, 1) := by decide +kernel
theorem d10_31 : decode method_6_code 31 = .ok (.caload, 1) := by decide +kernel
theorem d10_32 : decode method_6_code 32 = .ok (.castore, 1) := by decide +kernel
theorem d10_33 : decode method_6_code 33 = .ok (.invokespecial 87, 3) := by decide +kernel
theorem d10_36 : decode method_6_code 36 = .ok (.areturn, 1) := by decide +kernel
theorem d10_37 : decode method_6_code 37 = .ok (.iload_n 1, 1) := by decide +kernel
theorem d10_38 : decode method_6_code 38 = .ok (.iconst 2, 1) := by decide +kernel
theorem d10_39 : decode method_6_code 39 = .ok (.if_icmp .ne 26, 3) := by decide +kernel
theorem d10_42 : decode method_6_code 42 = .ok (.new 15, 3) := by decide +kernel
theorem d10_45 : decode method_6_code 45 = .ok (.dup, 1) := by decide +kernel
theorem d10_46 : decode method_6_code 46 = .ok (.iconst 2, 1) := by decide +kernel
theorem d10_47 : decode method_6_code 47 = .ok (.newarray .char, 2) := by decide +kernel
theorem d10_49 : decode method_6_code 49 = .ok (.dup, 1) := by decide +kernel
theorem d10_50 : decode method_6_code 50 = .ok (.iconst 0, 1) := by decide +kernel
theorem d10_51 : decode method_6_code 51 = .ok (.aload_n 0, 1) := by decide +kernel
theorem d10_52 : decode method_6_code 52 = .ok (.iconst 0, 1) := by decide +kernel
theorem d10_53 : decode method_6_code 53 = .ok (.caload, 1) := by decide +kernel
theorem d10_54 : decode method_6_code 54 = .ok (.castore, 1) := by decide +kernel
theorem d10_55 : decode method_6_code 55 = .ok (.dup, 1) := by decide +kernel
theorem d10_56 : decode method_6_code 56 = .ok (.iconst 1, 1) := by decide +kernel
theorem d10_57 : decode method_6_code 57 = .ok (.aload_n 0, 1) := by decide +kernel
theorem d10_58 : decode method_6_code 58 = .ok (.iconst 1, 1) := by decide +kernel
theorem d10_59 : decode method_6_code 59 = .ok (.caload, 1) := by decide +kernel
theorem d10_60 : decode method_6_code 60 = .ok (.castore, 1) := by decide +kernel
theorem d10_61 : decode method_6_code 61 = .ok (.invokespecial 87, 3) := by decide +kernel
theorem d10_64 : decode method_6_code 64 = .ok (.areturn, 1) := by decide +kernel
theorem d10_65 : decode method_6_code 65 = .ok (.iload_n 1, 1) := by decide +kernel
theorem d10_66 : decode method_6_code 66 = .ok (.iconst 3, 1) := by decide +kernel
theorem d10_67 : decode method_6_code 67 = .ok (.if_icmp .ne 32, 3) := by decide +kernel
theorem d10_70 : decode method_6_code 70 = .ok (.new 15, 3) := by decide +kernel
theorem d10_73 : decode method_6_code 73 = .ok (.dup, 1) := by decide +kernel
theorem d10_74 : decode method_6_code 74 = .ok (.iconst 3, 1) := by decide +kernel
theorem d10_75 : decode method_6_code 75 = .ok (.newarray .char, 2) := by decide +kernel
theorem d10_77 : decode method_6_code 77 = .ok (.dup, 1) := by decide +kernel
theorem d10_78 : decode method_6_code 78 = .ok (.iconst 0, 1) := by decide +kernel
theorem d10_79 : decode method_6_code 79 = .ok (.aload_n 0, 1) := by decide +kernel
theorem d10_80 : decode method_6_code 80 = .ok (.iconst 0, 1) := by decide +kernel
theorem d10_81 : decode method_6_code 81 = .ok (.caload, 1) := by decide +kernel
theorem d10_82 : decode method_6_code 82 = .ok (.castore, 1) := by decide +kernel
theorem d10_83 : decode method_6_code 83 = .ok (.dup, 1) := by decide +kernel
theorem d10_84 : decode method_6_code 84 = .ok (.iconst 1, 1) := by decide +kernel
theorem d10_85 : decode method_6_code 85 = .ok (.aload_n 0, 1) := by decide +kernel
theorem d10_86 : decode method_6_code 86 = .ok (.iconst 1, 1) := by decide +kernel
theorem d10_87 : decode method_6_code 87 = .ok (.caload, 1) := by decide +kernel
theorem d10_88 : decode method_6_code 88 = .ok (.castore, 1) := by decide +kernel
theorem d10_89 : decode method_6_code 89 = .ok (.dup, 1) := by decide +kernel
theorem d10_90 : decode method_6_code 90 = .ok (.iconst 2, 1) := by decide +kernel
theorem d10_91 : decode method_6_code 91 = .ok (.aload_n 0, 1) := by decide +kernel
theorem d10_92 : decode method_6_code 92 = .ok (.iconst 2, 1) := by decide +kernel
theorem d10_93 : decode method_6_code 93 = .ok (.caload, 1) := by decide +kernel
theorem d10_94 : decode method_6_code 94 = .ok (.castore, 1) := by decide +kernel
theorem d10_95 : decode method_6_code 95 = .ok (.invokespecial 87, 3) := by decide +kernel
theorem d10_98 : decode method_6_code 98 = .ok (.areturn, 1) := by decide +kernel
theorem d10_99 : decode method_6_code 99 = .ok (.iload_n 1, 1) := by decide +kernel
theorem d10_100 : decode method_6_code 100 = .ok (.iconst 4, 1) := by decide +kernel
theorem d10_101 : decode method_6_code 101 = .ok (.if_icmp .ne 38, 3) := by decide +kernel
theorem d10_104 : decode method_6_code 104 = .ok (.new 15, 3) := by decide +kernel
theorem d10_107 : decode method_6_code 107 = .ok (.dup, 1) := by decide +kernel
theorem d10_108 : decode method_6_code 108 = .ok (.iconst 4, 1) := by decide +kernel
theorem d10_109 : decode method_6_code 109 = .ok (.newarray .char, 2) := by decide +kernel
theorem d10_111 : decode method_6_code 111 = .ok (.dup, 1) := by decide +kernel
theorem d10_112 : decode method_6_code 112 = .ok (.iconst 0, 1) := by decide +kernel
theorem d10_113 : decode method_6_code 113 = .ok (.aload_n 0, 1) := by decide +kernel
theorem d10_114 : decode method_6_code 114 = .ok (.iconst 0, 1) := by decide +kernel
theorem d10_115 : decode method_6_code 115 = .ok (.caload, 1) := by decide +kernel
theorem d10_116 : decode method_6_code 116 = .ok (.castore, 1) := by decide +kernel
theorem d10_117 : decode method_6_code 117 = .ok (.dup, 1) := by decide +kernel
theorem d10_118 : decode method_6_code 118 = .ok (.iconst 1, 1) := by decide +kernel
theorem d10_119 : decode method_6_code 119 = .ok (.aload_n 0, 1) := by decide +kernel
theorem d10_120 : decode method_6_code 120 = .ok (.iconst 1, 1) := by decide +kernel
theorem d10_121 : decode method_6_code 121 = .ok (.caload, 1) := by decide +kernel
theorem d10_122 : decode method_6_code 122 = .ok (.castore, 1) := by decide +kernel
theorem d10_123 : decode method_6_code 123 = .ok (.dup, 1) := by decide +kernel
theorem d10_124 : decode method_6_code 124 = .ok (.iconst 2, 1) := by decide +kernel
theorem d10_125 : decode method_6_code 125 = .ok (.aload_n 0, 1) := by decide +kernel
theorem d10_126 : decode method_6_code 126 = .ok (.iconst 2, 1) := by decide +kernel
theorem d10_127 : decode method_6_code 127 = .ok (.caload, 1) := by decide +kernel
theorem d10_128 : decode method_6_code 128 = .ok (.castore, 1) := by decide +kernel
theorem d10_129 : decode method_6_code 129 = .ok (.dup, 1) := by decide +kernel
theorem d10_130 : decode method_6_code 130 = .ok (.iconst 3, 1) := by decide +kernel
theorem d10_131 : decode method_6_code 131 = .ok (.aload_n 0, 1) := by decide +kernel
theorem d10_132 : decode method_6_code 132 = .ok (.iconst 3, 1) := by decide +kernel
theorem d10_133 : decode method_6_code 133 = .ok (.caload, 1) := by decide +kernel
theorem d10_134 : decode method_6_code 134 = .ok (.castore, 1) := by decide +kernel
theorem d10_135 : decode method_6_code 135 = .ok (.invokespecial 87, 3) := by decide +kernel
theorem d10_138 : decode method_6_code 138 = .ok (.areturn, 1) := by decide +kernel
theorem d10_139 : decode method_6_code 139 = .ok (.iload_n 1, 1) := by decide +kernel
theorem d10_140 : decode method_6_code 140 = .ok (.iconst 5, 1) := by decide +kernel
theorem d10_141 : decode method_6_code 141 = .ok (.if_icmp .ne 44, 3) := by decide +kernel
theorem d10_144 : decode method_6_code 144 = .ok (.new 15, 3) := by decide +kernel
theorem d10_147 : decode method_6_code 147 = .ok (.dup, 1) := by decide +kernel
theorem d10_148 : decode method_6_code 148 = .ok (.iconst 5, 1) := by decide +kernel
theorem d10_149 : decode method_6_code 149 = .ok (.newarray .char, 2) := by decide +kernel
theorem d10_151 : decode method_6_code 151 = .ok (.dup, 1) := by decide +kernel
theorem d10_152 : decode method_6_code 152 = .ok (.iconst 0, 1) := by decide +kernel
theorem d10_153 : decode method_6_code 153 = .ok (.aload_n 0, 1) := by decide +kernel
theorem d10_154 : decode method_6_code 154 = .ok (.iconst 0, 1) := by decide +kernel
theorem d10_155 : decode method_6_code 155 = .ok (.caload, 1) := by decide +kernel
theorem d10_156 : decode method_6_code 156 = .ok (.castore, 1) := by decide +kernel
theorem d10_157 : decode method_6_code 157 = .ok (.dup, 1) := by decide +kernel
theorem d10_158 : decode method_6_code 158 = .ok (.iconst 1, 1) := by decide +kernel
theorem d10_159 : decode method_6_code 159 = .ok (.aload_n 0, 1) := by decide +kernel
theorem d10_160 : decode method_6_code 160 = .ok (.iconst 1, 1) := by decide +kernel
theorem d10_161 : decode method_6_code 161 = .ok (.caload, 1) := by decide +kernel
theorem d10_162 : decode method_6_code 162 = .ok (.castore, 1) := by decide +kernel
theorem d10_163 : decode method_6_code 163 = .ok (.dup, 1) := by decide +kernel
theorem d10_164 : decode method_6_code 164 = .ok (.iconst 2, 1) := by decide +kernel
theorem d10_165 : decode method_6_code 165 = .ok (.aload_n 0, 1) := by decide +kernel
theorem d10_166 : decode method_6_code 166 = .ok (.iconst 2, 1) := by decide +kernel
theorem d10_167 : decode method_6_code 167 = .ok (.caload, 1) := by decide +kernel
theorem d10_168 : decode method_6_code 168 = .ok (.castore, 1) := by decide +kernel
theorem d10_169 : decode method_6_code 169 = .ok (.dup, 1) := by decide +kernel
theorem d10_170 : decode method_6_code 170 = .ok (.iconst 3, 1) := by decide +kernel
theorem d10_171 : decode method_6_code 171 = .ok (.aload_n 0, 1) := by decide +kernel
theorem d10_172 : decode method_6_code 172 = .ok (.iconst 3, 1) := by decide +kernel
theorem d10_173 : decode method_6_code 173 = .ok (.caload, 1) := by decide +kernel
theorem d10_174 : decode method_6_code 174 = .ok (.castore, 1) := by decide +kernel
theorem d10_175 : decode method_6_code 175 = .ok (.dup, 1) := by decide +kernel
theorem d10_176 : decode method_6_code 176 = .ok (.iconst 4, 1) := by decide +kernel
theorem d10_177 : decode method_6_code 177 = .ok (.aload_n 0, 1) := by decide +kernel
theorem d10_178 : decode method_6_code 178 = .ok (.iconst 4, 1) := by decide +kernel
theorem d10_179 : decode method_6_code 179 = .ok (.caload, 1) := by decide +kernel
theorem d10_180 : decode method_6_code 180 = .ok (.castore, 1) := by decide +kernel
theorem d10_181 : decode method_6_code 181 = .ok (.invokespecial 87, 3) := by decide +kernel
theorem d10_184 : decode method_6_code 184 = .ok (.areturn, 1) := by decide +kernel
theorem d10_185 : decode method_6_code 185 = .ok (.iload_n 1, 1) := by decide +kernel
theorem d10_186 : decode method_6_code 186 = .ok (.bipush 6, 2) := by decide +kernel
theorem d10_188 : decode method_6_code 188 = .ok (.if_icmp .ne 51, 3) := by decide +kernel
theorem d10_191 : decode method_6_code 191 = .ok (.new 15, 3) := by decide +kernel
theorem d10_194 : decode method_6_code 194 = .ok (.dup, 1) := by decide +kernel
theorem d10_195 : decode method_6_code 195 = .ok (.bipush 6, 2) := by decide +kernel
theorem d10_197 : decode method_6_code 197 = .ok (.newarray .char, 2) := by decide +kernel
theorem d10_199 : decode method_6_code 199 = .ok (.dup, 1) := by decide +kernel
theorem d10_200 : decode method_6_code 200 = .ok (.iconst 0, 1) := by decide +kernel
theorem d10_201 : decode method_6_code 201 = .ok (.aload_n 0, 1) := by decide +kernel
theorem d10_202 : decode method_6_code 202 = .ok (.iconst 0, 1) := by decide +kernel
theorem d10_203 : decode method_6_code 203 = .ok (.caload, 1) := by decide +kernel
theorem d10_204 : decode method_6_code 204 = .ok (.castore, 1) := by decide +kernel
theorem d10_205 : decode method_6_code 205 = .ok (.dup, 1) := by decide +kernel
theorem d10_206 : decode method_6_code 206 = .ok (.iconst 1, 1) := by decide +kernel
theorem d10_207 : decode method_6_code 207 = .ok (.aload_n 0, 1) := by decide +kernel
theorem d10_208 : decode method_6_code 208 = .ok (.iconst 1, 1) := by decide +kernel
theorem d10_209 : decode method_6_code 209 = .ok (.caload, 1) := by decide +kernel
theorem d10_210 : decode method_6_code 210 = .ok (.castore, 1) := by decide +kernel
theorem d10_211 : decode method_6_code 211 = .ok (.dup, 1) := by decide +kernel
theorem d10_212 : decode method_6_code 212 = .ok (.iconst 2, 1) := by decide +kernel
theorem d10_213 : decode method_6_code 213 = .ok (.aload_n 0, 1) := by decide +kernel
theorem d10_214 : decode method_6_code 214 = .ok (.iconst 2, 1) := by decide +kernel
theorem d10_215 : decode method_6_code 215 = .ok (.caload, 1) := by decide +kernel
theorem d10_216 : decode method_6_code 216 = .ok (.castore, 1) := by decide +kernel
theorem d10_217 : decode method_6_code 217 = .ok (.dup, 1) := by decide +kernel
theorem d10_218 : decode method_6_code 218 = .ok (.iconst 3, 1) := by decide +kernel
theorem d10_219 : decode method_6_code 219 = .ok (.aload_n 0, 1) := by decide +kernel
theorem d10_220 : decode method_6_code 220 = .ok (.iconst 3, 1) := by decide +kernel
theorem d10_221 : decode method_6_code 221 = .ok (.caload, 1) := by decide +kernel
theorem d10_222 : decode method_6_code 222 = .ok (.castore, 1) := by decide +kernel
theorem d10_223 : decode method_6_code 223 = .ok (.dup, 1) := by decide +kernel
theorem d10_224 : decode method_6_code 224 = .ok (.iconst 4, 1) := by decide +kernel
theorem d10_225 : decode method_6_code 225 = .ok (.aload_n 0, 1) := by decide +kernel
theorem d10_226 : decode method_6_code 226 = .ok (.iconst 4, 1) := by decide +kernel
theorem d10_227 : decode method_6_code 227 = .ok (.caload, 1) := by decide +kernel
theorem d10_228 : decode method_6_code 228 = .ok (.castore, 1) := by decide +kernel
theorem d10_229 : decode method_6_code 229 = .ok (.dup, 1) := by decide +kernel
theorem d10_230 : decode method_6_code 230 = .ok (.iconst 5, 1) := by decide +kernel
theorem d10_231 : decode method_6_code 231 = .ok (.aload_n 0, 1) := by decide +kernel
theorem d10_232 : decode method_6_code 232 = .ok (.iconst 5, 1) := by decide +kernel
theorem d10_233 : decode method_6_code 233 = .ok (.caload, 1) := by decide +kernel
theorem d10_234 : decode method_6_code 234 = .ok (.castore, 1) := by decide +kernel
theorem d10_235 : decode method_6_code 235 = .ok (.invokespecial 87, 3) := by decide +kernel
theorem d10_238 : decode method_6_code 238 = .ok (.areturn, 1) := by decide +kernel
theorem d10_239 : decode method_6_code 239 = .ok (.iload_n 1, 1) := by decide +kernel
theorem d10_240 : decode method_6_code 240 = .ok (.bipush 7, 2) := by decide +kernel
theorem d10_242 : decode method_6_code 242 = .ok (.if_icmp .ne 59, 3) := by decide +kernel
theorem d10_245 : decode method_6_code 245 = .ok (.new 15, 3) := by decide +kernel
theorem d10_248 : decode method_6_code 248 = .ok (.dup, 1) := by decide +kernel
theorem d10_249 : decode method_6_code 249 = .ok (.bipush 7, 2) := by decide +kernel
theorem d10_251 : decode method_6_code 251 = .ok (.newarray .char, 2) := by decide +kernel
theorem d10_253 : decode method_6_code 253 = .ok (.dup, 1) := by decide +kernel
theorem d10_254 : decode method_6_code 254 = .ok (.iconst 0, 1) := by decide +kernel
theorem d10_255 : decode method_6_code 255 = .ok (.aload_n 0, 1) := by decide +kernel
theorem d10_256 : decode method_6_code 256 = .ok (.iconst 0, 1) := by decide +kernel
theorem d10_257 : decode method_6_code 257 = .ok (.caload, 1) := by decide +kernel
theorem d10_258 : decode method_6_code 258 = .ok (.castore, 1) := by decide +kernel
theorem d10_259 : decode method_6_code 259 = .ok (.dup, 1) := by decide +kernel
theorem d10_260 : decode method_6_code 260 = .ok (.iconst 1, 1) := by decide +kernel
theorem d10_261 : decode method_6_code 261 = .ok (.aload_n 0, 1) := by decide +kernel
theorem d10_262 : decode method_6_code 262 = .ok (.iconst 1, 1) := by decide +kernel
theorem d10_263 : decode method_6_code 263 = .ok (.caload, 1) := by decide +kernel
theorem d10_264 : decode method_6_code 264 = .ok (.castore, 1) := by decide +kernel
theorem d10_265 : decode method_6_code 265 = .ok (.dup, 1) := by decide +kernel
theorem d10_266 : decode method_6_code 266 = .ok (.iconst 2, 1) := by decide +kernel
theorem d10_267 : decode method_6_code 267 = .ok (.aload_n 0, 1) := by decide +kernel
theorem d10_268 : decode method_6_code 268 = .ok (.iconst 2, 1) := by decide +kernel
theorem d10_269 : decode method_6_code 269 = .ok (.caload, 1) := by decide +kernel
theorem d10_270 : decode method_6_code 270 = .ok (.castore, 1) := by decide +kernel
theorem d10_271 : decode method_6_code 271 = .ok (.dup, 1) := by decide +kernel
theorem d10_272 : decode method_6_code 272 = .ok (.iconst 3, 1) := by decide +kernel
theorem d10_273 : decode method_6_code 273 = .ok (.aload_n 0, 1) := by decide +kernel
theorem d10_274 : decode method_6_code 274 = .ok (.iconst 3, 1) := by decide +kernel
theorem d10_275 : decode method_6_code 275 = .ok (.caload, 1) := by decide +kernel
theorem d10_276 : decode method_6_code 276 = .ok (.castore, 1) := by decide +kernel
theorem d10_277 : decode method_6_code 277 = .ok (.dup, 1) := by decide +kernel
theorem d10_278 : decode method_6_code 278 = .ok (.iconst 4, 1) := by decide +kernel
theorem d10_279 : decode method_6_code 279 = .ok (.aload_n 0, 1) := by decide +kernel
theorem d10_280 : decode method_6_code 280 = .ok (.iconst 4, 1) := by decide +kernel
theorem d10_281 : decode method_6_code 281 = .ok (.caload, 1) := by decide +kernel
theorem d10_282 : decode method_6_code 282 = .ok (.castore, 1) := by decide +kernel
theorem d10_283 : decode method_6_code 283 = .ok (.dup, 1) := by decide +kernel
theorem d10_284 : decode method_6_code 284 = .ok (.iconst 5, 1) := by decide +kernel
theorem d10_285 : decode method_6_code 285 = .ok (.aload_n 0, 1) := by decide +kernel
theorem d10_286 : decode method_6_code 286 = .ok (.iconst 5, 1) := by decide +kernel
theorem d10_287 : decode method_6_code 287 = .ok (.caload, 1) := by decide +kernel
theorem d10_288 : decode method_6_code 288 = .ok (.castore, 1) := by decide +kernel
theorem d10_289 : decode method_6_code 289 = .ok (.dup, 1) := by decide +kernel
theorem d10_290 : decode method_6_code 290 = .ok (.bipush 6, 2) := by decide +kernel
theorem d10_292 : decode method_6_code 292 = .ok (.aload_n 0, 1) := by decide +kernel
theorem d10_293 : decode method_6_code 293 = .ok (.bipush 6, 2) := by decide +kernel
theorem d10_295 : decode method_6_code 295 = .ok (.caload, 1) := by decide +kernel
theorem d10_296 : decode method_6_code 296 = .ok (.castore, 1) := by decide +kernel
theorem d10_297 : decode method_6_code 297 = .ok (.invokespecial 87, 3) := by decide +kernel
theorem d10_300 : decode method_6_code 300 = .ok (.areturn, 1) := by decide +kernel
theorem d10_301 : decode method_6_code 301 = .ok (.new 15, 3) := by decide +kernel
theorem d10_304 : decode method_6_code 304 = .ok (.dup, 1) := by decide +kernel
theorem d10_305 : decode method_6_code 305 = .ok (.bipush 8, 2) := by decide +kernel
theorem d10_307 : decode method_6_code 307 = .ok (.newarray .char, 2) := by decide +kernel
theorem d10_309 : decode method_6_code 309 = .ok (.dup, 1) := by decide +kernel
theorem d10_310 : decode method_6_code 310 = .ok (.iconst 0, 1) := by decide +kernel
theorem d10_311 : decode method_6_code 311 = .ok (.aload_n 0, 1) := by decide +kernel
theorem d10_312 : decode method_6_code 312 = .ok (.iconst 0, 1) := by decide +kernel
theorem d10_313 : decode method_6_code 313 = .ok (.caload, 1) := by decide +kernel
theorem d10_314 : decode method_6_code 314 = .ok (.castore, 1) := by decide +kernel
theorem d10_315 : decode method_6_code 315 = .ok (.dup, 1) := by decide +kernel
theorem d10_316 : decode method_6_code 316 = .ok (.iconst 1, 1) := by decide +kernel
theorem d10_317 : decode method_6_code 317 = .ok (.aload_n 0, 1) := by decide +kernel
theorem d10_318 : decode method_6_code 318 = .ok (.iconst 1, 1) := by decide +kernel
theorem d10_319 : decode method_6_code 319 = .ok (.caload, 1) := by decide +kernel
theorem d10_320 : decode method_6_code 320 = .ok (.castore, 1) := by decide +kernel
theorem d10_321 : decode method_6_code 321 = .ok (.dup, 1) := by decide +kernel
theorem d10_322 : decode method_6_code 322 = .ok (.iconst 2, 1) := by decide +kernel
theorem d10_323 : decode method_6_code 323 = .ok (.aload_n 0, 1) := by decide +kernel
theorem d10_324 : decode method_6_code 324 = .ok (.iconst 2, 1) := by decide +kernel
theorem d10_325 : decode method_6_code 325 = .ok (.caload, 1) := by decide +kernel
theorem d10_326 : decode method_6_code 326 = .ok (.castore, 1) := by decide +kernel
theorem d10_327 : decode method_6_code 327 = .ok (.dup, 1) := by decide +kernel
theorem d10_328 : decode method_6_code 328 = .ok (.iconst 3, 1) := by decide +kernel
theorem d10_329 : decode method_6_code 329 = .ok (.aload_n 0, 1) := by decide +kernel
theorem d10_330 : decode method_6_code 330 = .ok (.iconst 3, 1) := by decide +kernel
theorem d10_331 : decode method_6_code 331 = .ok (.caload, 1) := by decide +kernel
theorem d10_332 : decode method_6_code 332 = .ok (.castore, 1) := by decide +kernel
theorem d10_333 : decode method_6_code 333 = .ok (.dup, 1) := by decide +kernel
theorem d10_334 : decode method_6_code 334 = .ok (.iconst 4, 1) := by decide +kernel
theorem d10_335 : decode method_6_code 335 = .ok (.aload_n 0, 1) := by decide +kernel
theorem d10_336 : decode method_6_code 336 = .ok (.iconst 4, 1) := by decide +kernel
theorem d10_337 : decode method_6_code 337 = .ok (.caload, 1) := by decide +kernel
theorem d10_338 : decode method_6_code 338 = .ok (.castore, 1) := by decide +kernel
theorem d10_339 : decode method_6_code 339 = .ok (.dup, 1) := by decide +kernel
theorem d10_340 : decode method_6_code 340 = .ok (.iconst 5, 1) := by decide +kernel
theorem d10_341 : decode method_6_code 341 = .ok (.aload_n 0, 1) := by decide +kernel
theorem d10_342 : decode method_6_code 342 = .ok (.iconst 5, 1) := by decide +kernel
theorem d10_343 : decode method_6_code 343 = .ok (.caload, 1) := by decide +kernel
theorem d10_344 : decode method_6_code 344 = .ok (.castore, 1) := by decide +kernel
theorem d10_345 : decode method_6_code 345 = .ok (.dup, 1) := by decide +kernel
theorem d10_346 : decode method_6_code 346 = .ok (.bipush 6, 2) := by decide +kernel
theorem d10_348 : decode method_6_code 348 = .ok (.aload_n 0, 1) := by decide +kernel
theorem d10_349 : decode method_6_code 349 = .ok (.bipush 6, 2) := by decide +kernel
theorem d10_351 : decode method_6_code 351 = .ok (.caload, 1) := by decide +kernel
theorem d10_352 : decode method_6_code 352 = .ok (.castore, 1) := by decide +kernel
theorem d10_353 : decode method_6_code 353 = .ok (.dup, 1) := by decide +kernel
theorem d10_354 : decode method_6_code 354 = .ok (.bipush 7, 2) := by decide +kernel
theorem d10_356 : decode method_6_code 356 = .ok (.aload_n 0, 1) := by decide +kernel
theorem d10_357 : decode method_6_code 357 = .ok (.bipush 7, 2) := by decide +kernel
theorem d10_359 : decode method_6_code 359 = .ok (.caload, 1) := by decide +kernel
theorem d10_360 : decode method_6_code 360 = .ok (.castore, 1) := by decide +kernel
theorem d10_361 : decode method_6_code 361 = .ok (.invokespecial 87, 3) := by decide +kernel
theorem d10_364 : decode method_6_code 364 = .ok (.areturn, 1) := by decide +kernel
def Q10 (Z : State) (a1 : Nat) (p2 : Int32) (cs : Int32) (h0 : Heap) (n0 : Nat) (v : Option Value) (h : Heap) (L : List Loc) : Prop := ∃ (a : Nat) (xs : List Int32), v = some (.ref a) ∧ Fr n0 L ∧ Keep h0 h [] ∧ own_Str Z h a xs
set_option maxRecDepth 65536 in
set_option maxHeartbeats 40000000 in
theorem rm10 (l : Launch) (Z : State) (a0 : Array Value) (hw : ∀ d ∈ tables_1, d.before a0 Z = true) (ws : List Jvm.Cond) (a1 : Nat) (p2 : Int32) (cs : Int32) (h0 : Heap) (n0 : Nat) (Z0 : n0 ≤ h0.size) (O0 : Old Z n0 h0) (hcw : Jvm.Lit.compactW.before a0 Z = true) (hh0' : Jvm.Lit.constHeld Z "java/lang/String" 7) (hh1' : Jvm.Lit.constHeld Z "com/example/clearstep/clearstep/core/EventKindFromWordPinLaw" 53) (hh2' : Jvm.Lit.constHeld Z "com/example/clearstep/clearstep/core/EventKindFromWordPinLaw" 55) (hh3' : Jvm.Lit.constHeld Z "com/example/clearstep/clearstep/core/EventKindFromWordPinLaw" 57) (hh4' : Jvm.Lit.constHeld Z "com/example/clearstep/clearstep/core/EventKindFromWordPinLaw" 59) (hh5' : Jvm.Lit.constHeld Z "com/example/clearstep/clearstep/core/EventKindFromWordPinLaw" 61) (S_cs : Sta Z Z.heap "java/lang/String" "COMPACT_STRINGS" "Z" (.int cs)) (hcs : ¬ cs = (0 : Int32)) (C1 : own_C8 Z h0 a1) :
    MetFree l (⟨"com/example/clearstep/clearstep/core/EventKindFromWordPinLaw", "make", "([CI)Ljava/lang/String;"⟩ : MethodName) (head1 (Jvm.Cond.code (⟨"com/example/clearstep/clearstep/core/EventKindFromWordPinLaw", "make", "([CI)Ljava/lang/String;"⟩ : MethodName) method_6_code 2 (some (.object "java/lang/String")) :: ws) ({ frames := 4, cells := 4, slots := 20, locals := 70 } : Room)) (fun a U => a = #[(.ref a1), (.int p2)] ∧ Z.Warmed39 U.vm ∧ U.heap = h0 ∧ own_J Z U.vm h0) (fun _ _ _ _ _ => True) (fun _ U o U' => ∃ v L, o = .returned v ∧ Q10 Z a1 p2 cs h0 n0 v U'.heap L ∧ own_J Z U'.vm U'.heap ∧ ReturnedEndW U o U' L ({ frames := 4, cells := 4, slots := 20, locals := 70 } : Room).cells ({ frames := 4, cells := 4, slots := 20, locals := 70 } : Room).slots) := by
  refine MetFree.of_bodySF (plainFor_of_name pn_1) hisR ?_
  intro p e s m args below meth c s₁ Bd hml0 hP hK
  obtain ⟨rfl, hZ, hh, hJ⟩ := hP
  have hx := Bd.exec
  have hby := Bd.bytes
  have hml : c.maxLocals = 2 := hml0
  have hown : s.vm.findClass "com/example/clearstep/clearstep/core/EventKindFromWordPinLaw" = some m.cls := findClass_of_methodNamed Bd.named
  have hnm := (name_of_methodNamed Bd.named Bd.method).1
  have hlk : meth.locks = false := BodyLoose.notSynchronized Bd
  have X0 : Stand p l e ({ frames := 4, cells := 4, slots := 20, locals := 70 } : Room) (s.setVm s.vm) m #[(.ref a1), (.int p2)] below meth c s₁ [] 0 0 := Stand.of_body Bd
  have hS : s.Since s.vm 0 := (State.WarmedH.refl s).since 0
  have hk : 0 ≤ h0.size := Nat.zero_le _
  have hZ : Z.Warmed39 (s.setVm s.vm).vm := hZ
  have hown : (s.setVm s.vm).vm.findClass "com/example/clearstep/clearstep/core/EventKindFromWordPinLaw" = some m.cls := hown
  have e0 : s₁.heap = h0 := by rw [← hh, Bd.state]; rfl
  have N0 := Fr.nil n0
  have hef : entryFrame m #[(.ref a1), (.int p2)] 2 = mkF m 0 #[.val (.ref a1), .val (.int p2)] [] := by first | (simp [entryFrame, mkF, argsToLocals, Value.category]; done) | rfl
  show GoJ p e below s ({ frames := 4, cells := 4, slots := 20, locals := 70 } : Room).cells ({ frames := 4, cells := 4, slots := 20, locals := 70 } : Room).slots Z (Q10 Z a1 p2 cs h0 n0) (s₁.setTop (entryFrame m #[(.ref a1), (.int p2)] 2))
  rw [hef]
  obtain ⟨kc, u0, u1, u2, u3, u4, u5, u6, u7, V1, hu⟩ := C1
  have lt1 : a1 < h0.size := V1.lt
  have hu0 := hu u0 (by simp)
  have hu1 := hu u1 (by simp)
  have hu2 := hu u2 (by simp)
  have hu3 := hu u3 (by simp)
  have hu4 := hu u4 (by simp)
  have hu5 := hu u5 (by simp)
  have hu6 := hu u6 (by simp)
  have hu7 := hu u7 (by simp)
  refine GoJ.of (fun t k => XS.iloadN X0.here hx rfl (hb hby d10_0) rfl k) ?_
  show GoJ _ _ _ _ _ _ _ _ (s₁.setTop (mkF m 1 #[.val (.ref a1), .val (.int p2)] [(.int p2)]))
  by_cases hc1_1 : (0 : Int32) < p2
  · skip
    refine GoJ.of (fun t k => XS.ifYes X0.here hx rfl (pc0 := 1) (pc' := 15) rfl (hb hby d10_1) rfl ((if0 _ _).trans (tlt hc1_1).2.2.1) (by decide) (by decide) k) ?_
    show GoJ _ _ _ _ _ _ _ _ (s₁.setTop (mkF m 15 #[.val (.ref a1), .val (.int p2)] []))
    refine GoJ.of (fun t k => XS.iloadN X0.here hx rfl (hb hby d10_15) rfl k) ?_
    show GoJ _ _ _ _ _ _ _ _ (s₁.setTop (mkF m 16 #[.val (.ref a1), .val (.int p2)] [(.int p2)]))
    refine GoJ.of (fun t k => XS.iconst X0.here hx rfl (hb hby d10_16) k) ?_
    show GoJ _ _ _ _ _ _ _ _ (s₁.setTop (mkF m 17 #[.val (.ref a1), .val (.int p2)] [(.int (1 : Int32)), (.int p2)]))
    by_cases hc17_2 : p2 = (1 : Int32)
    · skip
      refine GoJ.of (fun t k => XS.icmpNo X0.here hx rfl (hb hby d10_17) rfl (teq hc17_2).2 k) ?_
      show GoJ _ _ _ _ _ _ _ _ (s₁.setTop (mkF m 20 #[.val (.ref a1), .val (.int p2)] []))
      obtain ⟨T3, h3, X3, e3, E3, A3, D3, -, st3⟩ := newO X0 hx hZ hown (own_w hw 55 rfl) (own_w hw 7 rfl) (own_w hw 6 rfl) e0 (g := (mkF m 20 #[.val (.ref a1), .val (.int p2)] [])) rfl (hb hby d10_20) (by decide) (by decide)
      obtain ⟨b3, g3⟩ : ∃ z, z = h0.size := ⟨_, rfl⟩
      rw [← g3] at A3 D3 st3
      have lt3 : b3 < h3.size := A3.lt
      refine GoJ.of st3 ?_
      have hs4 : h0.size ≤ h3.size := E3.1
      have F3_value : Fld Z h3 b3 "java/lang/String" "value" "[B" .null := D3 (Or.inr (own_w hw 9 rfl)) (ty := (.array .byte)) (by decide)
      have F3_coder : Fld Z h3 b3 "java/lang/String" "coder" "B" (.int (0 : Int32)) := D3 (Or.inr (own_w hw 10 rfl)) (ty := .byte) (by decide)
      show GoJ _ _ _ _ _ _ _ _ (T3.setTop (mkF m 23 #[.val (.ref a1), .val (.int p2)] [(.ref b3)]))
      refine GoJ.of (fun t k => XS.dup X3.here hx rfl (hb hby d10_23) rfl rfl k) ?_
      show GoJ _ _ _ _ _ _ _ _ (T3.setTop (mkF m 24 #[.val (.ref a1), .val (.int p2)] [(.ref b3), (.ref b3)]))
      refine GoJ.of (fun t k => XS.iconst X3.here hx rfl (hb hby d10_24) k) ?_
      show GoJ _ _ _ _ _ _ _ _ (T3.setTop (mkF m 25 #[.val (.ref a1), .val (.int p2)] [(.int (1 : Int32)), (.ref b3), (.ref b3)]))
      obtain ⟨T5, h5, k5, X5, e5, E5, A5, st5⟩ := newP X3 hx hZ (own_w hw 26 rfl) e3 (g := (mkF m 25 #[.val (.ref a1), .val (.int p2)] [(.int (1 : Int32)), (.ref b3), (.ref b3)])) rfl (hb hby d10_25) rfl (by decide) (cap := 1) (by decide) (by decide) (by decide) (by decide)
      obtain ⟨b5, g5⟩ : ∃ z, z = h3.size := ⟨_, rfl⟩
      rw [← g5] at A5 st5
      have lt5 : b5 < h5.size := A5.lt
      refine GoJ.of st5 ?_
      have hs6 : h3.size ≤ h5.size := E5.1
      have V5 : Arv Z h5 b5 k5 .char (1 : Int32) [(.int (0 : Int32))] (.int (0 : Int32)) := (Arv.new A5 (by decide)).pad (pad_rep [] (.int (0 : Int32)) 1)
      show GoJ _ _ _ _ _ _ _ _ (T5.setTop (mkF m 27 #[.val (.ref a1), .val (.int p2)] [(.ref b5), (.ref b3), (.ref b3)]))
      refine GoJ.of (fun t k => XS.dup X5.here hx rfl (hb hby d10_27) rfl rfl k) ?_
      show GoJ _ _ _ _ _ _ _ _ (T5.setTop (mkF m 28 #[.val (.ref a1), .val (.int p2)] [(.ref b5), (.ref b5), (.ref b3), (.ref b3)]))
      refine GoJ.of (fun t k => XS.iconst X5.here hx rfl (hb hby d10_28) k) ?_
      show GoJ _ _ _ _ _ _ _ _ (T5.setTop (mkF m 29 #[.val (.ref a1), .val (.int p2)] [(.int (0 : Int32)), (.ref b5), (.ref b5), (.ref b3), (.ref b3)]))
      refine GoJ.of (fun t k => XS.aloadN X5.here hx rfl (hb hby d10_29) rfl rfl k) ?_
      show GoJ _ _ _ _ _ _ _ _ (T5.setTop (mkF m 30 #[.val (.ref a1), .val (.int p2)] [(.ref a1), (.int (0 : Int32)), (.ref b5), (.ref b5), (.ref b3), (.ref b3)]))
      refine GoJ.of (fun t k => XS.iconst X5.here hx rfl (hb hby d10_30) k) ?_
      show GoJ _ _ _ _ _ _ _ _ (T5.setTop (mkF m 31 #[.val (.ref a1), .val (.int p2)] [(.int (0 : Int32)), (.ref a1), (.int (0 : Int32)), (.ref b5), (.ref b5), (.ref b3), (.ref b3)]))
      have f7 := ((V1.ext E3).ext E5)
      obtain ⟨cl8, Ar8, q8, S8, N8, H8, G8⟩ := id f7
      have hin9 := inb_of S8 (j := (0 : Int32)) ⟨by decide, by decide⟩
      refine GoJ.of (X5.caload hx (j := (0 : Int32)) (v := (.int u0)) (own_at e5 Ar8.1) (State.isArrayOf_alike hZ.alike Ar8.2.1) Ar8.2.2 hin9 (H8.at hin9 rfl) (g := (mkF m 31 #[.val (.ref a1), .val (.int p2)] [(.int (0 : Int32)), (.ref a1), (.int (0 : Int32)), (.ref b5), (.ref b5), (.ref b3), (.ref b3)])) rfl rfl (hb hby d10_31)) ?_
      show GoJ _ _ _ _ _ _ _ _ (T5.setTop (mkF m 32 #[.val (.ref a1), .val (.int p2)] [(.int u0), (.int (0 : Int32)), (.ref b5), (.ref b5), (.ref b3), (.ref b3)]))
      obtain ⟨cl10, Ar10, q10, S10, N10', H10, G10⟩ := id V5
      have hin10 := inb_of S10 (j := (0 : Int32)) ⟨by decide, by decide⟩
      obtain ⟨T10, h10, X10, e10, W10, st10⟩ := stC X5 hx hZ e5 Ar10 (j := (0 : Int32)) hin10 (g := (mkF m 32 #[.val (.ref a1), .val (.int p2)] [(.int u0), (.int (0 : Int32)), (.ref b5), (.ref b5), (.ref b3), (.ref b3)])) rfl rfl (hb hby d10_32)
      have V10 : Arv Z h10 b5 k5 .char (1 : Int32) [(.int (nar .char u0))] (.int (0 : Int32)) := Arv.set Ar10 q10 S10 N10' H10 G10 (fits_nar_char _) W10 0 rfl (Nat.le_of_ble_eq_true rfl)
      refine GoJ.of st10 ?_
      have hs11 : h5.size ≤ h10.size := Nat.le_of_eq W10.size.symm
      have N10 := Fr.snoc X10 N0 (by omega)
      show GoJ _ _ _ _ _ _ _ _ (T10.setTop (mkF m 33 #[.val (.ref a1), .val (.int p2)] [(.ref b5), (.ref b3), (.ref b3)]))
      have hcs12 : ∀ c ∈ ([(nar .char u0)] : List Int32), ¬ c < 0 ∧ ¬ (255 : Int32) < c := by
        intro c hc
        simp only [List.mem_cons, List.not_mem_nil, or_false] at hc
        rcases hc with rfl
        · exact own_narr hu0
      have f13 := ((A3.ext E5).wr W10)
      have f14 := ((F3_value.ext E5).other W10 (Or.inl (by omega : b3 ≠ b5)))
      have f15 := ((F3_coder.ext E5).other W10 (Or.inl (by omega : b3 ≠ b5)))
      have f16 := (((O0.ext E3).ext E5).wr W10 (by omega))
      obtain ⟨v17, _, ⟨T17, L17, k17, n17⟩, -, X17, ⟨Lc17, hQ17, l17, y17, z17⟩, st17⟩ := X10.specialBack hx (y := (⟨"java/lang/String", "<init>", "([C)V"⟩ : MethodName)) rfl hown (mvT hZ (own_w hw 56 rfl)) (mvT hZ (own_w hw 57 rfl)) (mvT hZ (own_w hw 58 rfl)) (by decide) (StrChars.Road.backV (W := 1) hZ (own_words hw) (kI := 4) (own_w hw 7 rfl) (cs := ([(nar .char u0)] : List Int32)) (bs := ([(nar .char u0)] : List Int32).map (fun c => c.toInt8.toInt32)) (n := 1) (n0 := n0) (by omega) (by omega) f13 f14 f15 V10 (S_cs.ext f16.2) hcs rfl rfl (by decide) (by decide) hcs12 rfl (by decide) (by decide)) (g := (mkF m 33 #[.val (.ref a1), .val (.int p2)] [(.ref b5), (.ref b3), (.ref b3)])) rfl (by rw [hml]; rfl) (Steps.refl _) (a := b3) (argsL := [(.ref b5)]) (rest := [(.ref b3)]) (lenOf pd_3 rfl) rfl (by show 2 * 0 + _ ≤ _; exact Nat.le_of_eq rfl) (hb hby d10_33) (fun _ _ => ⟨rfl, e10, (by decide : 2 + 1 ≤ _), (by decide : 5 + 1 ≤ _)⟩)
      dsimp only [Pt.U, Pt.locs, Pt.cells, Pt.slots] at X17 l17 y17 z17 st17 hQ17
      replace y17 : k17 = 3 := y17.trans (by decide)
      replace z17 : n17 = 6 := z17.trans (by decide)
      subst l17 y17 z17
      obtain ⟨rfl, N17q, K17, Ex17, Fc17, t17, kb17, -, -, -, Fv17, Va17⟩ := hQ17
      have N17 := Fr.app N10 N17q
      refine GoJ.tr st17 ?_
      have hs18 : h10.size ≤ T17.heap.size := K17.1
      have Sn17 : own_Str Z T17.heap b3 ([(nar .char u0)] : List Int32) := ⟨t17, kb17, Ex17, Fv17, Fc17, Va17, Nat.le_of_ble_eq_true rfl, hcs12⟩
      show GoJ _ _ _ _ _ _ _ _ (T17.setTop (mkF m 36 #[.val (.ref a1), .val (.int p2)] [(.ref b3)]))
      refine GoJ.out X17 hS (by omega) (own_J.keep hJ (((((Keep.refl h0 []).ext E3).ext E5).wr W10 (Or.inr (by omega))).trans K17 (allS (Or.inr (by omega)) all0))) (v := some (.ref b3)) (fun h => by rw [Bd.returns] at h; cases h) hlk (fun fs hr => retOut X17 hx (t := (.object "java/lang/String")) Bd.returns rfl (Or.inr (Or.inr (Or.inr (Or.inr ⟨rfl, rfl, rfl⟩)))) (hb hby d10_36) hr) ?_ (by decide) (by decide)
      show Q10 Z a1 p2 cs h0 n0 _ T17.heap _
      exact ⟨b3, _, rfl, N17, (((((Keep.refl h0 []).ext E3).ext E5).wr W10 (Or.inr (by omega))).trans K17 (allS (Or.inr (by omega)) all0)), Sn17⟩
    · skip
      refine GoJ.of (fun t k => XS.icmpYes X0.here hx rfl (pc0 := 17) (pc' := 37) rfl (hb hby d10_17) rfl (feq hc17_2).2 (by decide) (by decide) k) ?_
      show GoJ _ _ _ _ _ _ _ _ (s₁.setTop (mkF m 37 #[.val (.ref a1), .val (.int p2)] []))
      refine GoJ.of (fun t k => XS.iloadN X0.here hx rfl (hb hby d10_37) rfl k) ?_
      show GoJ _ _ _ _ _ _ _ _ (s₁.setTop (mkF m 38 #[.val (.ref a1), .val (.int p2)] [(.int p2)]))
      refine GoJ.of (fun t k => XS.iconst X0.here hx rfl (hb hby d10_38) k) ?_
      show GoJ _ _ _ _ _ _ _ _ (s₁.setTop (mkF m 39 #[.val (.ref a1), .val (.int p2)] [(.int (2 : Int32)), (.int p2)]))
      by_cases hc39_19 : p2 = (2 : Int32)
      · skip
        refine GoJ.of (fun t k => XS.icmpNo X0.here hx rfl (hb hby d10_39) rfl (teq hc39_19).2 k) ?_
        show GoJ _ _ _ _ _ _ _ _ (s₁.setTop (mkF m 42 #[.val (.ref a1), .val (.int p2)] []))
        obtain ⟨T20, h20, X20, e20, E20, A20, D20, -, st20⟩ := newO X0 hx hZ hown (own_w hw 55 rfl) (own_w hw 7 rfl) (own_w hw 6 rfl) e0 (g := (mkF m 42 #[.val (.ref a1), .val (.int p2)] [])) rfl (hb hby d10_42) (by decide) (by decide)
        obtain ⟨b20, g20⟩ : ∃ z, z = h0.size := ⟨_, rfl⟩
        rw [← g20] at A20 D20 st20
        have lt20 : b20 < h20.size := A20.lt
        refine GoJ.of st20 ?_
        have hs21 : h0.size ≤ h20.size := E20.1
        have F20_value : Fld Z h20 b20 "java/lang/String" "value" "[B" .null := D20 (Or.inr (own_w hw 9 rfl)) (ty := (.array .byte)) (by decide)
        have F20_coder : Fld Z h20 b20 "java/lang/String" "coder" "B" (.int (0 : Int32)) := D20 (Or.inr (own_w hw 10 rfl)) (ty := .byte) (by decide)
        show GoJ _ _ _ _ _ _ _ _ (T20.setTop (mkF m 45 #[.val (.ref a1), .val (.int p2)] [(.ref b20)]))
        refine GoJ.of (fun t k => XS.dup X20.here hx rfl (hb hby d10_45) rfl rfl k) ?_
        show GoJ _ _ _ _ _ _ _ _ (T20.setTop (mkF m 46 #[.val (.ref a1), .val (.int p2)] [(.ref b20), (.ref b20)]))
        refine GoJ.of (fun t k => XS.iconst X20.here hx rfl (hb hby d10_46) k) ?_
        show GoJ _ _ _ _ _ _ _ _ (T20.setTop (mkF m 47 #[.val (.ref a1), .val (.int p2)] [(.int (2 : Int32)), (.ref b20), (.ref b20)]))
        obtain ⟨T22, h22, k22, X22, e22, E22, A22, st22⟩ := newP X20 hx hZ (own_w hw 26 rfl) e20 (g := (mkF m 47 #[.val (.ref a1), .val (.int p2)] [(.int (2 : Int32)), (.ref b20), (.ref b20)])) rfl (hb hby d10_47) rfl (by decide) (cap := 2) (by decide) (by decide) (by decide) (by decide)
        obtain ⟨b22, g22⟩ : ∃ z, z = h20.size := ⟨_, rfl⟩
        rw [← g22] at A22 st22
        have lt22 : b22 < h22.size := A22.lt
        refine GoJ.of st22 ?_
        have hs23 : h20.size ≤ h22.size := E22.1
        have V22 : Arv Z h22 b22 k22 .char (2 : Int32) [(.int (0 : Int32)), (.int (0 : Int32))] (.int (0 : Int32)) := (Arv.new A22 (by decide)).pad (pad_rep [] (.int (0 : Int32)) 2)
        show GoJ _ _ _ _ _ _ _ _ (T22.setTop (mkF m 49 #[.val (.ref a1), .val (.int p2)] [(.ref b22), (.ref b20), (.ref b20)]))
        refine GoJ.of (fun t k => XS.dup X22.here hx rfl (hb hby d10_49) rfl rfl k) ?_
        show GoJ _ _ _ _ _ _ _ _ (T22.setTop (mkF m 50 #[.val (.ref a1), .val (.int p2)] [(.ref b22), (.ref b22), (.ref b20), (.ref b20)]))
        refine GoJ.of (fun t k => XS.iconst X22.here hx rfl (hb hby d10_50) k) ?_
        show GoJ _ _ _ _ _ _ _ _ (T22.setTop (mkF m 51 #[.val (.ref a1), .val (.int p2)] [(.int (0 : Int32)), (.ref b22), (.ref b22), (.ref b20), (.ref b20)]))
        refine GoJ.of (fun t k => XS.aloadN X22.here hx rfl (hb hby d10_51) rfl rfl k) ?_
        show GoJ _ _ _ _ _ _ _ _ (T22.setTop (mkF m 52 #[.val (.ref a1), .val (.int p2)] [(.ref a1), (.int (0 : Int32)), (.ref b22), (.ref b22), (.ref b20), (.ref b20)]))
        refine GoJ.of (fun t k => XS.iconst X22.here hx rfl (hb hby d10_52) k) ?_
        show GoJ _ _ _ _ _ _ _ _ (T22.setTop (mkF m 53 #[.val (.ref a1), .val (.int p2)] [(.int (0 : Int32)), (.ref a1), (.int (0 : Int32)), (.ref b22), (.ref b22), (.ref b20), (.ref b20)]))
        have f24 := ((V1.ext E20).ext E22)
        obtain ⟨cl25, Ar25, q25, S25, N25, H25, G25⟩ := id f24
        have hin26 := inb_of S25 (j := (0 : Int32)) ⟨by decide, by decide⟩
        refine GoJ.of (X22.caload hx (j := (0 : Int32)) (v := (.int u0)) (own_at e22 Ar25.1) (State.isArrayOf_alike hZ.alike Ar25.2.1) Ar25.2.2 hin26 (H25.at hin26 rfl) (g := (mkF m 53 #[.val (.ref a1), .val (.int p2)] [(.int (0 : Int32)), (.ref a1), (.int (0 : Int32)), (.ref b22), (.ref b22), (.ref b20), (.ref b20)])) rfl rfl (hb hby d10_53)) ?_
        show GoJ _ _ _ _ _ _ _ _ (T22.setTop (mkF m 54 #[.val (.ref a1), .val (.int p2)] [(.int u0), (.int (0 : Int32)), (.ref b22), (.ref b22), (.ref b20), (.ref b20)]))
        obtain ⟨cl27, Ar27, q27, S27, N27', H27, G27⟩ := id V22
        have hin27 := inb_of S27 (j := (0 : Int32)) ⟨by decide, by decide⟩
        obtain ⟨T27, h27, X27, e27, W27, st27⟩ := stC X22 hx hZ e22 Ar27 (j := (0 : Int32)) hin27 (g := (mkF m 54 #[.val (.ref a1), .val (.int p2)] [(.int u0), (.int (0 : Int32)), (.ref b22), (.ref b22), (.ref b20), (.ref b20)])) rfl rfl (hb hby d10_54)
        have V27 : Arv Z h27 b22 k22 .char (2 : Int32) [(.int (nar .char u0)), (.int (0 : Int32))] (.int (0 : Int32)) := Arv.set Ar27 q27 S27 N27' H27 G27 (fits_nar_char _) W27 0 rfl (Nat.le_of_ble_eq_true rfl)
        refine GoJ.of st27 ?_
        have hs28 : h22.size ≤ h27.size := Nat.le_of_eq W27.size.symm
        have N27 := Fr.snoc X27 N0 (by omega)
        show GoJ _ _ _ _ _ _ _ _ (T27.setTop (mkF m 55 #[.val (.ref a1), .val (.int p2)] [(.ref b22), (.ref b20), (.ref b20)]))
        refine GoJ.of (fun t k => XS.dup X27.here hx rfl (hb hby d10_55) rfl rfl k) ?_
        show GoJ _ _ _ _ _ _ _ _ (T27.setTop (mkF m 56 #[.val (.ref a1), .val (.int p2)] [(.ref b22), (.ref b22), (.ref b20), (.ref b20)]))
        refine GoJ.of (fun t k => XS.iconst X27.here hx rfl (hb hby d10_56) k) ?_
        show GoJ _ _ _ _ _ _ _ _ (T27.setTop (mkF m 57 #[.val (.ref a1), .val (.int p2)] [(.int (1 : Int32)), (.ref b22), (.ref b22), (.ref b20), (.ref b20)]))
        refine GoJ.of (fun t k => XS.aloadN X27.here hx rfl (hb hby d10_57) rfl rfl k) ?_
        show GoJ _ _ _ _ _ _ _ _ (T27.setTop (mkF m 58 #[.val (.ref a1), .val (.int p2)] [(.ref a1), (.int (1 : Int32)), (.ref b22), (.ref b22), (.ref b20), (.ref b20)]))
        refine GoJ.of (fun t k => XS.iconst X27.here hx rfl (hb hby d10_58) k) ?_
        show GoJ _ _ _ _ _ _ _ _ (T27.setTop (mkF m 59 #[.val (.ref a1), .val (.int p2)] [(.int (1 : Int32)), (.ref a1), (.int (1 : Int32)), (.ref b22), (.ref b22), (.ref b20), (.ref b20)]))
        have f29 := (f24.other W27 (by omega : a1 ≠ b22))
        obtain ⟨cl30, Ar30, q30, S30, N30, H30, G30⟩ := id f29
        have hin31 := inb_of S30 (j := (1 : Int32)) ⟨by decide, by decide⟩
        refine GoJ.of (X27.caload hx (j := (1 : Int32)) (v := (.int u1)) (own_at e27 Ar30.1) (State.isArrayOf_alike hZ.alike Ar30.2.1) Ar30.2.2 hin31 (H30.at hin31 rfl) (g := (mkF m 59 #[.val (.ref a1), .val (.int p2)] [(.int (1 : Int32)), (.ref a1), (.int (1 : Int32)), (.ref b22), (.ref b22), (.ref b20), (.ref b20)])) rfl rfl (hb hby d10_59)) ?_
        show GoJ _ _ _ _ _ _ _ _ (T27.setTop (mkF m 60 #[.val (.ref a1), .val (.int p2)] [(.int u1), (.int (1 : Int32)), (.ref b22), (.ref b22), (.ref b20), (.ref b20)]))
        obtain ⟨cl32, Ar32, q32, S32, N32', H32, G32⟩ := id V27
        have hin32 := inb_of S32 (j := (1 : Int32)) ⟨by decide, by decide⟩
        obtain ⟨T32, h32, X32, e32, W32, st32⟩ := stC X27 hx hZ e27 Ar32 (j := (1 : Int32)) hin32 (g := (mkF m 60 #[.val (.ref a1), .val (.int p2)] [(.int u1), (.int (1 : Int32)), (.ref b22), (.ref b22), (.ref b20), (.ref b20)])) rfl rfl (hb hby d10_60)
        have V32 : Arv Z h32 b22 k22 .char (2 : Int32) [(.int (nar .char u0)), (.int (nar .char u1))] (.int (0 : Int32)) := Arv.set Ar32 q32 S32 N32' H32 G32 (fits_nar_char _) W32 1 rfl (Nat.le_of_ble_eq_true rfl)
        refine GoJ.of st32 ?_
        have hs33 : h27.size ≤ h32.size := Nat.le_of_eq W32.size.symm
        have N32 := Fr.snoc X32 N27 (by omega)
        show GoJ _ _ _ _ _ _ _ _ (T32.setTop (mkF m 61 #[.val (.ref a1), .val (.int p2)] [(.ref b22), (.ref b20), (.ref b20)]))
        have hcs34 : ∀ c ∈ ([(nar .char u0), (nar .char u1)] : List Int32), ¬ c < 0 ∧ ¬ (255 : Int32) < c := by
          intro c hc
          simp only [List.mem_cons, List.not_mem_nil, or_false] at hc
          rcases hc with rfl | rfl
          · exact own_narr hu0
          · exact own_narr hu1
        have f35 := (((A20.ext E22).wr W27).wr W32)
        have f36 := (((F20_value.ext E22).other W27 (Or.inl (by omega : b20 ≠ b22))).other W32 (Or.inl (by omega : b20 ≠ b22)))
        have f37 := (((F20_coder.ext E22).other W27 (Or.inl (by omega : b20 ≠ b22))).other W32 (Or.inl (by omega : b20 ≠ b22)))
        have f38 := ((((O0.ext E20).ext E22).wr W27 (by omega)).wr W32 (by omega))
        obtain ⟨v39, _, ⟨T39, L39, k39, n39⟩, -, X39, ⟨Lc39, hQ39, l39, y39, z39⟩, st39⟩ := X32.specialBack hx (y := (⟨"java/lang/String", "<init>", "([C)V"⟩ : MethodName)) rfl hown (mvT hZ (own_w hw 56 rfl)) (mvT hZ (own_w hw 57 rfl)) (mvT hZ (own_w hw 58 rfl)) (by decide) (StrChars.Road.backV (W := 1) hZ (own_words hw) (kI := 4) (own_w hw 7 rfl) (cs := ([(nar .char u0), (nar .char u1)] : List Int32)) (bs := ([(nar .char u0), (nar .char u1)] : List Int32).map (fun c => c.toInt8.toInt32)) (n := 2) (n0 := n0) (by omega) (by omega) f35 f36 f37 V32 (S_cs.ext f38.2) hcs rfl rfl (by decide) (by decide) hcs34 rfl (by decide) (by decide)) (g := (mkF m 61 #[.val (.ref a1), .val (.int p2)] [(.ref b22), (.ref b20), (.ref b20)])) rfl (by rw [hml]; rfl) (Steps.refl _) (a := b20) (argsL := [(.ref b22)]) (rest := [(.ref b20)]) (lenOf pd_3 rfl) rfl (by show 2 * 0 + _ ≤ _; exact Nat.le_of_eq rfl) (hb hby d10_61) (fun _ _ => ⟨rfl, e32, (by decide : 2 + 1 ≤ _), (by decide : 6 + 2 ≤ _)⟩)
        dsimp only [Pt.U, Pt.locs, Pt.cells, Pt.slots] at X39 l39 y39 z39 st39 hQ39
        replace y39 : k39 = 3 := y39.trans (by decide)
        replace z39 : n39 = 8 := z39.trans (by decide)
        subst l39 y39 z39
        obtain ⟨rfl, N39q, K39, Ex39, Fc39, t39, kb39, -, -, -, Fv39, Va39⟩ := hQ39
        have N39 := Fr.app N32 N39q
        refine GoJ.tr st39 ?_
        have hs40 : h32.size ≤ T39.heap.size := K39.1
        have Sn39 : own_Str Z T39.heap b20 ([(nar .char u0), (nar .char u1)] : List Int32) := ⟨t39, kb39, Ex39, Fv39, Fc39, Va39, Nat.le_of_ble_eq_true rfl, hcs34⟩
        show GoJ _ _ _ _ _ _ _ _ (T39.setTop (mkF m 64 #[.val (.ref a1), .val (.int p2)] [(.ref b20)]))
        refine GoJ.out X39 hS (by omega) (own_J.keep hJ ((((((Keep.refl h0 []).ext E20).ext E22).wr W27 (Or.inr (by omega))).wr W32 (Or.inr (by omega))).trans K39 (allS (Or.inr (by omega)) all0))) (v := some (.ref b20)) (fun h => by rw [Bd.returns] at h; cases h) hlk (fun fs hr => retOut X39 hx (t := (.object "java/lang/String")) Bd.returns rfl (Or.inr (Or.inr (Or.inr (Or.inr ⟨rfl, rfl, rfl⟩)))) (hb hby d10_64) hr) ?_ (by decide) (by decide)
        show Q10 Z a1 p2 cs h0 n0 _ T39.heap _
        exact ⟨b20, _, rfl, N39, ((((((Keep.refl h0 []).ext E20).ext E22).wr W27 (Or.inr (by omega))).wr W32 (Or.inr (by omega))).trans K39 (allS (Or.inr (by omega)) all0)), Sn39⟩
      · skip
        refine GoJ.of (fun t k => XS.icmpYes X0.here hx rfl (pc0 := 39) (pc' := 65) rfl (hb hby d10_39) rfl (feq hc39_19).2 (by decide) (by decide) k) ?_
        show GoJ _ _ _ _ _ _ _ _ (s₁.setTop (mkF m 65 #[.val (.ref a1), .val (.int p2)] []))
        refine GoJ.of (fun t k => XS.iloadN X0.here hx rfl (hb hby d10_65) rfl k) ?_
        show GoJ _ _ _ _ _ _ _ _ (s₁.setTop (mkF m 66 #[.val (.ref a1), .val (.int p2)] [(.int p2)]))
        refine GoJ.of (fun t k => XS.iconst X0.here hx rfl (hb hby d10_66) k) ?_
        show GoJ _ _ _ _ _ _ _ _ (s₁.setTop (mkF m 67 #[.val (.ref a1), .val (.int p2)] [(.int (3 : Int32)), (.int p2)]))
        by_cases hc67_41 : p2 = (3 : Int32)
        · skip
          refine GoJ.of (fun t k => XS.icmpNo X0.here hx rfl (hb hby d10_67) rfl (teq hc67_41).2 k) ?_
          show GoJ _ _ _ _ _ _ _ _ (s₁.setTop (mkF m 70 #[.val (.ref a1), .val (.int p2)] []))
          obtain ⟨T42, h42, X42, e42, E42, A42, D42, -, st42⟩ := newO X0 hx hZ hown (own_w hw 55 rfl) (own_w hw 7 rfl) (own_w hw 6 rfl) e0 (g := (mkF m 70 #[.val (.ref a1), .val (.int p2)] [])) rfl (hb hby d10_70) (by decide) (by decide)
          obtain ⟨b42, g42⟩ : ∃ z, z = h0.size := ⟨_, rfl⟩
          rw [← g42] at A42 D42 st42
          have lt42 : b42 < h42.size := A42.lt
          refine GoJ.of st42 ?_
          have hs43 : h0.size ≤ h42.size := E42.1
          have F42_value : Fld Z h42 b42 "java/lang/String" "value" "[B" .null := D42 (Or.inr (own_w hw 9 rfl)) (ty := (.array .byte)) (by decide)
          have F42_coder : Fld Z h42 b42 "java/lang/String" "coder" "B" (.int (0 : Int32)) := D42 (Or.inr (own_w hw 10 rfl)) (ty := .byte) (by decide)
          show GoJ _ _ _ _ _ _ _ _ (T42.setTop (mkF m 73 #[.val (.ref a1), .val (.int p2)] [(.ref b42)]))
          refine GoJ.of (fun t k => XS.dup X42.here hx rfl (hb hby d10_73) rfl rfl k) ?_
          show GoJ _ _ _ _ _ _ _ _ (T42.setTop (mkF m 74 #[.val (.ref a1), .val (.int p2)] [(.ref b42), (.ref b42)]))
          refine GoJ.of (fun t k => XS.iconst X42.here hx rfl (hb hby d10_74) k) ?_
          show GoJ _ _ _ _ _ _ _ _ (T42.setTop (mkF m 75 #[.val (.ref a1), .val (.int p2)] [(.int (3 : Int32)), (.ref b42), (.ref b42)]))
          obtain ⟨T44, h44, k44, X44, e44, E44, A44, st44⟩ := newP X42 hx hZ (own_w hw 26 rfl) e42 (g := (mkF m 75 #[.val (.ref a1), .val (.int p2)] [(.int (3 : Int32)), (.ref b42), (.ref b42)])) rfl (hb hby d10_75) rfl (by decide) (cap := 3) (by decide) (by decide) (by decide) (by decide)
          obtain ⟨b44, g44⟩ : ∃ z, z = h42.size := ⟨_, rfl⟩
          rw [← g44] at A44 st44
          have lt44 : b44 < h44.size := A44.lt
          refine GoJ.of st44 ?_
          have hs45 : h42.size ≤ h44.size := E44.1
          have V44 : Arv Z h44 b44 k44 .char (3 : Int32) [(.int (0 : Int32)), (.int (0 : Int32)), (.int (0 : Int32))] (.int (0 : Int32)) := (Arv.new A44 (by decide)).pad (pad_rep [] (.int (0 : Int32)) 3)
          show GoJ _ _ _ _ _ _ _ _ (T44.setTop (mkF m 77 #[.val (.ref a1), .val (.int p2)] [(.ref b44), (.ref b42), (.ref b42)]))
          refine GoJ.of (fun t k => XS.dup X44.here hx rfl (hb hby d10_77) rfl rfl k) ?_
          show GoJ _ _ _ _ _ _ _ _ (T44.setTop (mkF m 78 #[.val (.ref a1), .val (.int p2)] [(.ref b44), (.ref b44), (.ref b42), (.ref b42)]))
          refine GoJ.of (fun t k => XS.iconst X44.here hx rfl (hb hby d10_78) k) ?_
          show GoJ _ _ _ _ _ _ _ _ (T44.setTop (mkF m 79 #[.val (.ref a1), .val (.int p2)] [(.int (0 : Int32)), (.ref b44), (.ref b44), (.ref b42), (.ref b42)]))
          refine GoJ.of (fun t k => XS.aloadN X44.here hx rfl (hb hby d10_79) rfl rfl k) ?_
          show GoJ _ _ _ _ _ _ _ _ (T44.setTop (mkF m 80 #[.val (.ref a1), .val (.int p2)] [(.ref a1), (.int (0 : Int32)), (.ref b44), (.ref b44), (.ref b42), (.ref b42)]))
          refine GoJ.of (fun t k => XS.iconst X44.here hx rfl (hb hby d10_80) k) ?_
          show GoJ _ _ _ _ _ _ _ _ (T44.setTop (mkF m 81 #[.val (.ref a1), .val (.int p2)] [(.int (0 : Int32)), (.ref a1), (.int (0 : Int32)), (.ref b44), (.ref b44), (.ref b42), (.ref b42)]))
          have f46 := ((V1.ext E42).ext E44)
          obtain ⟨cl47, Ar47, q47, S47, N47, H47, G47⟩ := id f46
          have hin48 := inb_of S47 (j := (0 : Int32)) ⟨by decide, by decide⟩
          refine GoJ.of (X44.caload hx (j := (0 : Int32)) (v := (.int u0)) (own_at e44 Ar47.1) (State.isArrayOf_alike hZ.alike Ar47.2.1) Ar47.2.2 hin48 (H47.at hin48 rfl) (g := (mkF m 81 #[.val (.ref a1), .val (.int p2)] [(.int (0 : Int32)), (.ref a1), (.int (0 : Int32)), (.ref b44), (.ref b44), (.ref b42), (.ref b42)])) rfl rfl (hb hby d10_81)) ?_
          show GoJ _ _ _ _ _ _ _ _ (T44.setTop (mkF m 82 #[.val (.ref a1), .val (.int p2)] [(.int u0), (.int (0 : Int32)), (.ref b44), (.ref b44), (.ref b42), (.ref b42)]))
          obtain ⟨cl49, Ar49, q49, S49, N49', H49, G49⟩ := id V44
          have hin49 := inb_of S49 (j := (0 : Int32)) ⟨by decide, by decide⟩
          obtain ⟨T49, h49, X49, e49, W49, st49⟩ := stC X44 hx hZ e44 Ar49 (j := (0 : Int32)) hin49 (g := (mkF m 82 #[.val (.ref a1), .val (.int p2)] [(.int u0), (.int (0 : Int32)), (.ref b44), (.ref b44), (.ref b42), (.ref b42)])) rfl rfl (hb hby d10_82)
          have V49 : Arv Z h49 b44 k44 .char (3 : Int32) [(.int (nar .char u0)), (.int (0 : Int32)), (.int (0 : Int32))] (.int (0 : Int32)) := Arv.set Ar49 q49 S49 N49' H49 G49 (fits_nar_char _) W49 0 rfl (Nat.le_of_ble_eq_true rfl)
          refine GoJ.of st49 ?_
          have hs50 : h44.size ≤ h49.size := Nat.le_of_eq W49.size.symm
          have N49 := Fr.snoc X49 N0 (by omega)
          show GoJ _ _ _ _ _ _ _ _ (T49.setTop (mkF m 83 #[.val (.ref a1), .val (.int p2)] [(.ref b44), (.ref b42), (.ref b42)]))
          refine GoJ.of (fun t k => XS.dup X49.here hx rfl (hb hby d10_83) rfl rfl k) ?_
          show GoJ _ _ _ _ _ _ _ _ (T49.setTop (mkF m 84 #[.val (.ref a1), .val (.int p2)] [(.ref b44), (.ref b44), (.ref b42), (.ref b42)]))
          refine GoJ.of (fun t k => XS.iconst X49.here hx rfl (hb hby d10_84) k) ?_
          show GoJ _ _ _ _ _ _ _ _ (T49.setTop (mkF m 85 #[.val (.ref a1), .val (.int p2)] [(.int (1 : Int32)), (.ref b44), (.ref b44), (.ref b42), (.ref b42)]))
          refine GoJ.of (fun t k => XS.aloadN X49.here hx rfl (hb hby d10_85) rfl rfl k) ?_
          show GoJ _ _ _ _ _ _ _ _ (T49.setTop (mkF m 86 #[.val (.ref a1), .val (.int p2)] [(.ref a1), (.int (1 : Int32)), (.ref b44), (.ref b44), (.ref b42), (.ref b42)]))
          refine GoJ.of (fun t k => XS.iconst X49.here hx rfl (hb hby d10_86) k) ?_
          show GoJ _ _ _ _ _ _ _ _ (T49.setTop (mkF m 87 #[.val (.ref a1), .val (.int p2)] [(.int (1 : Int32)), (.ref a1), (.int (1 : Int32)), (.ref b44), (.ref b44), (.ref b42), (.ref b42)]))
          have f51 := (f46.other W49 (by omega : a1 ≠ b44))
          obtain ⟨cl52, Ar52, q52, S52, N52, H52, G52⟩ := id f51
          have hin53 := inb_of S52 (j := (1 : Int32)) ⟨by decide, by decide⟩
          refine GoJ.of (X49.caload hx (j := (1 : Int32)) (v := (.int u1)) (own_at e49 Ar52.1) (State.isArrayOf_alike hZ.alike Ar52.2.1) Ar52.2.2 hin53 (H52.at hin53 rfl) (g := (mkF m 87 #[.val (.ref a1), .val (.int p2)] [(.int (1 : Int32)), (.ref a1), (.int (1 : Int32)), (.ref b44), (.ref b44), (.ref b42), (.ref b42)])) rfl rfl (hb hby d10_87)) ?_
          show GoJ _ _ _ _ _ _ _ _ (T49.setTop (mkF m 88 #[.val (.ref a1), .val (.int p2)] [(.int u1), (.int (1 : Int32)), (.ref b44), (.ref b44), (.ref b42), (.ref b42)]))
          obtain ⟨cl54, Ar54, q54, S54, N54', H54, G54⟩ := id V49
          have hin54 := inb_of S54 (j := (1 : Int32)) ⟨by decide, by decide⟩
          obtain ⟨T54, h54, X54, e54, W54, st54⟩ := stC X49 hx hZ e49 Ar54 (j := (1 : Int32)) hin54 (g := (mkF m 88 #[.val (.ref a1), .val (.int p2)] [(.int u1), (.int (1 : Int32)), (.ref b44), (.ref b44), (.ref b42), (.ref b42)])) rfl rfl (hb hby d10_88)
          have V54 : Arv Z h54 b44 k44 .char (3 : Int32) [(.int (nar .char u0)), (.int (nar .char u1)), (.int (0 : Int32))] (.int (0 : Int32)) := Arv.set Ar54 q54 S54 N54' H54 G54 (fits_nar_char _) W54 1 rfl (Nat.le_of_ble_eq_true rfl)
          refine GoJ.of st54 ?_
          have hs55 : h49.size ≤ h54.size := Nat.le_of_eq W54.size.symm
          have N54 := Fr.snoc X54 N49 (by omega)
          show GoJ _ _ _ _ _ _ _ _ (T54.setTop (mkF m 89 #[.val (.ref a1), .val (.int p2)] [(.ref b44), (.ref b42), (.ref b42)]))
          refine GoJ.of (fun t k => XS.dup X54.here hx rfl (hb hby d10_89) rfl rfl k) ?_
          show GoJ _ _ _ _ _ _ _ _ (T54.setTop (mkF m 90 #[.val (.ref a1), .val (.int p2)] [(.ref b44), (.ref b44), (.ref b42), (.ref b42)]))
          refine GoJ.of (fun t k => XS.iconst X54.here hx rfl (hb hby d10_90) k) ?_
          show GoJ _ _ _ _ _ _ _ _ (T54.setTop (mkF m 91 #[.val (.ref a1), .val (.int p2)] [(.int (2 : Int32)), (.ref b44), (.ref b44), (.ref b42), (.ref b42)]))
          refine GoJ.of (fun t k => XS.aloadN X54.here hx rfl (hb hby d10_91) rfl rfl k) ?_
          show GoJ _ _ _ _ _ _ _ _ (T54.setTop (mkF m 92 #[.val (.ref a1), .val (.int p2)] [(.ref a1), (.int (2 : Int32)), (.ref b44), (.ref b44), (.ref b42), (.ref b42)]))
          refine GoJ.of (fun t k => XS.iconst X54.here hx rfl (hb hby d10_92) k) ?_
          show GoJ _ _ _ _ _ _ _ _ (T54.setTop (mkF m 93 #[.val (.ref a1), .val (.int p2)] [(.int (2 : Int32)), (.ref a1), (.int (2 : Int32)), (.ref b44), (.ref b44), (.ref b42), (.ref b42)]))
          have f56 := (f51.other W54 (by omega : a1 ≠ b44))
          obtain ⟨cl57, Ar57, q57, S57, N57, H57, G57⟩ := id f56
          have hin58 := inb_of S57 (j := (2 : Int32)) ⟨by decide, by decide⟩
          refine GoJ.of (X54.caload hx (j := (2 : Int32)) (v := (.int u2)) (own_at e54 Ar57.1) (State.isArrayOf_alike hZ.alike Ar57.2.1) Ar57.2.2 hin58 (H57.at hin58 rfl) (g := (mkF m 93 #[.val (.ref a1), .val (.int p2)] [(.int (2 : Int32)), (.ref a1), (.int (2 : Int32)), (.ref b44), (.ref b44), (.ref b42), (.ref b42)])) rfl rfl (hb hby d10_93)) ?_
          show GoJ _ _ _ _ _ _ _ _ (T54.setTop (mkF m 94 #[.val (.ref a1), .val (.int p2)] [(.int u2), (.int (2 : Int32)), (.ref b44), (.ref b44), (.ref b42), (.ref b42)]))
          obtain ⟨cl59, Ar59, q59, S59, N59', H59, G59⟩ := id V54
          have hin59 := inb_of S59 (j := (2 : Int32)) ⟨by decide, by decide⟩
          obtain ⟨T59, h59, X59, e59, W59, st59⟩ := stC X54 hx hZ e54 Ar59 (j := (2 : Int32)) hin59 (g := (mkF m 94 #[.val (.ref a1), .val (.int p2)] [(.int u2), (.int (2 : Int32)), (.ref b44), (.ref b44), (.ref b42), (.ref b42)])) rfl rfl (hb hby d10_94)
          have V59 : Arv Z h59 b44 k44 .char (3 : Int32) [(.int (nar .char u0)), (.int (nar .char u1)), (.int (nar .char u2))] (.int (0 : Int32)) := Arv.set Ar59 q59 S59 N59' H59 G59 (fits_nar_char _) W59 2 rfl (Nat.le_of_ble_eq_true rfl)
          refine GoJ.of st59 ?_
          have hs60 : h54.size ≤ h59.size := Nat.le_of_eq W59.size.symm
          have N59 := Fr.snoc X59 N54 (by omega)
          show GoJ _ _ _ _ _ _ _ _ (T59.setTop (mkF m 95 #[.val (.ref a1), .val (.int p2)] [(.ref b44), (.ref b42), (.ref b42)]))
          have hcs61 : ∀ c ∈ ([(nar .char u0), (nar .char u1), (nar .char u2)] : List Int32), ¬ c < 0 ∧ ¬ (255 : Int32) < c := by
            intro c hc
            simp only [List.mem_cons, List.not_mem_nil, or_false] at hc
            rcases hc with rfl | rfl | rfl
            · exact own_narr hu0
            · exact own_narr hu1
            · exact own_narr hu2
          have f62 := ((((A42.ext E44).wr W49).wr W54).wr W59)
          have f63 := ((((F42_value.ext E44).other W49 (Or.inl (by omega : b42 ≠ b44))).other W54 (Or.inl (by omega : b42 ≠ b44))).other W59 (Or.inl (by omega : b42 ≠ b44)))
          have f64 := ((((F42_coder.ext E44).other W49 (Or.inl (by omega : b42 ≠ b44))).other W54 (Or.inl (by omega : b42 ≠ b44))).other W59 (Or.inl (by omega : b42 ≠ b44)))
          have f65 := (((((O0.ext E42).ext E44).wr W49 (by omega)).wr W54 (by omega)).wr W59 (by omega))
          obtain ⟨v66, _, ⟨T66, L66, k66, n66⟩, -, X66, ⟨Lc66, hQ66, l66, y66, z66⟩, st66⟩ := X59.specialBack hx (y := (⟨"java/lang/String", "<init>", "([C)V"⟩ : MethodName)) rfl hown (mvT hZ (own_w hw 56 rfl)) (mvT hZ (own_w hw 57 rfl)) (mvT hZ (own_w hw 58 rfl)) (by decide) (StrChars.Road.backV (W := 1) hZ (own_words hw) (kI := 4) (own_w hw 7 rfl) (cs := ([(nar .char u0), (nar .char u1), (nar .char u2)] : List Int32)) (bs := ([(nar .char u0), (nar .char u1), (nar .char u2)] : List Int32).map (fun c => c.toInt8.toInt32)) (n := 3) (n0 := n0) (by omega) (by omega) f62 f63 f64 V59 (S_cs.ext f65.2) hcs rfl rfl (by decide) (by decide) hcs61 rfl (by decide) (by decide)) (g := (mkF m 95 #[.val (.ref a1), .val (.int p2)] [(.ref b44), (.ref b42), (.ref b42)])) rfl (by rw [hml]; rfl) (Steps.refl _) (a := b42) (argsL := [(.ref b44)]) (rest := [(.ref b42)]) (lenOf pd_3 rfl) rfl (by show 2 * 0 + _ ≤ _; exact Nat.le_of_eq rfl) (hb hby d10_95) (fun _ _ => ⟨rfl, e59, (by decide : 2 + 1 ≤ _), (by decide : 7 + 3 ≤ _)⟩)
          dsimp only [Pt.U, Pt.locs, Pt.cells, Pt.slots] at X66 l66 y66 z66 st66 hQ66
          replace y66 : k66 = 3 := y66.trans (by decide)
          replace z66 : n66 = 10 := z66.trans (by decide)
          subst l66 y66 z66
          obtain ⟨rfl, N66q, K66, Ex66, Fc66, t66, kb66, -, -, -, Fv66, Va66⟩ := hQ66
          have N66 := Fr.app N59 N66q
          refine GoJ.tr st66 ?_
          have hs67 : h59.size ≤ T66.heap.size := K66.1
          have Sn66 : own_Str Z T66.heap b42 ([(nar .char u0), (nar .char u1), (nar .char u2)] : List Int32) := ⟨t66, kb66, Ex66, Fv66, Fc66, Va66, Nat.le_of_ble_eq_true rfl, hcs61⟩
          show GoJ _ _ _ _ _ _ _ _ (T66.setTop (mkF m 98 #[.val (.ref a1), .val (.int p2)] [(.ref b42)]))
          refine GoJ.out X66 hS (by omega) (own_J.keep hJ (((((((Keep.refl h0 []).ext E42).ext E44).wr W49 (Or.inr (by omega))).wr W54 (Or.inr (by omega))).wr W59 (Or.inr (by omega))).trans K66 (allS (Or.inr (by omega)) all0))) (v := some (.ref b42)) (fun h => by rw [Bd.returns] at h; cases h) hlk (fun fs hr => retOut X66 hx (t := (.object "java/lang/String")) Bd.returns rfl (Or.inr (Or.inr (Or.inr (Or.inr ⟨rfl, rfl, rfl⟩)))) (hb hby d10_98) hr) ?_ (by decide) (by decide)
          show Q10 Z a1 p2 cs h0 n0 _ T66.heap _
          exact ⟨b42, _, rfl, N66, (((((((Keep.refl h0 []).ext E42).ext E44).wr W49 (Or.inr (by omega))).wr W54 (Or.inr (by omega))).wr W59 (Or.inr (by omega))).trans K66 (allS (Or.inr (by omega)) all0)), Sn66⟩
        · skip
          refine GoJ.of (fun t k => XS.icmpYes X0.here hx rfl (pc0 := 67) (pc' := 99) rfl (hb hby d10_67) rfl (feq hc67_41).2 (by decide) (by decide) k) ?_
          show GoJ _ _ _ _ _ _ _ _ (s₁.setTop (mkF m 99 #[.val (.ref a1), .val (.int p2)] []))
          refine GoJ.of (fun t k => XS.iloadN X0.here hx rfl (hb hby d10_99) rfl k) ?_
          show GoJ _ _ _ _ _ _ _ _ (s₁.setTop (mkF m 100 #[.val (.ref a1), .val (.int p2)] [(.int p2)]))
          refine GoJ.of (fun t k => XS.iconst X0.here hx rfl (hb hby d10_100) k) ?_
          show GoJ _ _ _ _ _ _ _ _ (s₁.setTop (mkF m 101 #[.val (.ref a1), .val (.int p2)] [(.int (4 : Int32)), (.int p2)]))
          by_cases hc101_68 : p2 = (4 : Int32)
          · skip
            refine GoJ.of (fun t k => XS.icmpNo X0.here hx rfl (hb hby d10_101) rfl (teq hc101_68).2 k) ?_
            show GoJ _ _ _ _ _ _ _ _ (s₁.setTop (mkF m 104 #[.val (.ref a1), .val (.int p2)] []))
            obtain ⟨T69, h69, X69, e69, E69, A69, D69, -, st69⟩ := newO X0 hx hZ hown (own_w hw 55 rfl) (own_w hw 7 rfl) (own_w hw 6 rfl) e0 (g := (mkF m 104 #[.val (.ref a1), .val (.int p2)] [])) rfl (hb hby d10_104) (by decide) (by decide)
            obtain ⟨b69, g69⟩ : ∃ z, z = h0.size := ⟨_, rfl⟩
            rw [← g69] at A69 D69 st69
            have lt69 : b69 < h69.size := A69.lt
            refine GoJ.of st69 ?_
            have hs70 : h0.size ≤ h69.size := E69.1
            have F69_value : Fld Z h69 b69 "java/lang/String" "value" "[B" .null := D69 (Or.inr (own_w hw 9 rfl)) (ty := (.array .byte)) (by decide)
            have F69_coder : Fld Z h69 b69 "java/lang/String" "coder" "B" (.int (0 : Int32)) := D69 (Or.inr (own_w hw 10 rfl)) (ty := .byte) (by decide)
            show GoJ _ _ _ _ _ _ _ _ (T69.setTop (mkF m 107 #[.val (.ref a1), .val (.int p2)] [(.ref b69)]))
            refine GoJ.of (fun t k => XS.dup X69.here hx rfl (hb hby d10_107) rfl rfl k) ?_
            show GoJ _ _ _ _ _ _ _ _ (T69.setTop (mkF m 108 #[.val (.ref a1), .val (.int p2)] [(.ref b69), (.ref b69)]))
            refine GoJ.of (fun t k => XS.iconst X69.here hx rfl (hb hby d10_108) k) ?_
            show GoJ _ _ _ _ _ _ _ _ (T69.setTop (mkF m 109 #[.val (.ref a1), .val (.int p2)] [(.int (4 : Int32)), (.ref b69), (.ref b69)]))
            obtain ⟨T71, h71, k71, X71, e71, E71, A71, st71⟩ := newP X69 hx hZ (own_w hw 26 rfl) e69 (g := (mkF m 109 #[.val (.ref a1), .val (.int p2)] [(.int (4 : Int32)), (.ref b69), (.ref b69)])) rfl (hb hby d10_109) rfl (by decide) (cap := 4) (by decide) (by decide) (by decide) (by decide)
            obtain ⟨b71, g71⟩ : ∃ z, z = h69.size := ⟨_, rfl⟩
            rw [← g71] at A71 st71
            have lt71 : b71 < h71.size := A71.lt
            refine GoJ.of st71 ?_
            have hs72 : h69.size ≤ h71.size := E71.1
            have V71 : Arv Z h71 b71 k71 .char (4 : Int32) [(.int (0 : Int32)), (.int (0 : Int32)), (.int (0 : Int32)), (.int (0 : Int32))] (.int (0 : Int32)) := (Arv.new A71 (by decide)).pad (pad_rep [] (.int (0 : Int32)) 4)
            show GoJ _ _ _ _ _ _ _ _ (T71.setTop (mkF m 111 #[.val (.ref a1), .val (.int p2)] [(.ref b71), (.ref b69), (.ref b69)]))
            refine GoJ.of (fun t k => XS.dup X71.here hx rfl (hb hby d10_111) rfl rfl k) ?_
            show GoJ _ _ _ _ _ _ _ _ (T71.setTop (mkF m 112 #[.val (.ref a1), .val (.int p2)] [(.ref b71), (.ref b71), (.ref b69), (.ref b69)]))
            refine GoJ.of (fun t k => XS.iconst X71.here hx rfl (hb hby d10_112) k) ?_
            show GoJ _ _ _ _ _ _ _ _ (T71.setTop (mkF m 113 #[.val (.ref a1), .val (.int p2)] [(.int (0 : Int32)), (.ref b71), (.ref b71), (.ref b69), (.ref b69)]))
            refine GoJ.of (fun t k => XS.aloadN X71.here hx rfl (hb hby d10_113) rfl rfl k) ?_
            show GoJ _ _ _ _ _ _ _ _ (T71.setTop (mkF m 114 #[.val (.ref a1), .val (.int p2)] [(.ref a1), (.int (0 : Int32)), (.ref b71), (.ref b71), (.ref b69), (.ref b69)]))
            refine GoJ.of (fun t k => XS.iconst X71.here hx rfl (hb hby d10_114) k) ?_
            show GoJ _ _ _ _ _ _ _ _ (T71.setTop (mkF m 115 #[.val (.ref a1), .val (.int p2)] [(.int (0 : Int32)), (.ref a1), (.int (0 : Int32)), (.ref b71), (.ref b71), (.ref b69), (.ref b69)]))
            have f73 := ((V1.ext E69).ext E71)
            obtain ⟨cl74, Ar74, q74, S74, N74, H74, G74⟩ := id f73
            have hin75 := inb_of S74 (j := (0 : Int32)) ⟨by decide, by decide⟩
            refine GoJ.of (X71.caload hx (j := (0 : Int32)) (v := (.int u0)) (own_at e71 Ar74.1) (State.isArrayOf_alike hZ.alike Ar74.2.1) Ar74.2.2 hin75 (H74.at hin75 rfl) (g := (mkF m 115 #[.val (.ref a1), .val (.int p2)] [(.int (0 : Int32)), (.ref a1), (.int (0 : Int32)), (.ref b71), (.ref b71), (.ref b69), (.ref b69)])) rfl rfl (hb hby d10_115)) ?_
            show GoJ _ _ _ _ _ _ _ _ (T71.setTop (mkF m 116 #[.val (.ref a1), .val (.int p2)] [(.int u0), (.int (0 : Int32)), (.ref b71), (.ref b71), (.ref b69), (.ref b69)]))
            obtain ⟨cl76, Ar76, q76, S76, N76', H76, G76⟩ := id V71
            have hin76 := inb_of S76 (j := (0 : Int32)) ⟨by decide, by decide⟩
            obtain ⟨T76, h76, X76, e76, W76, st76⟩ := stC X71 hx hZ e71 Ar76 (j := (0 : Int32)) hin76 (g := (mkF m 116 #[.val (.ref a1), .val (.int p2)] [(.int u0), (.int (0 : Int32)), (.ref b71), (.ref b71), (.ref b69), (.ref b69)])) rfl rfl (hb hby d10_116)
            have V76 : Arv Z h76 b71 k71 .char (4 : Int32) [(.int (nar .char u0)), (.int (0 : Int32)), (.int (0 : Int32)), (.int (0 : Int32))] (.int (0 : Int32)) := Arv.set Ar76 q76 S76 N76' H76 G76 (fits_nar_char _) W76 0 rfl (Nat.le_of_ble_eq_true rfl)
            refine GoJ.of st76 ?_
            have hs77 : h71.size ≤ h76.size := Nat.le_of_eq W76.size.symm
            have N76 := Fr.snoc X76 N0 (by omega)
            show GoJ _ _ _ _ _ _ _ _ (T76.setTop (mkF m 117 #[.val (.ref a1), .val (.int p2)] [(.ref b71), (.ref b69), (.ref b69)]))
            refine GoJ.of (fun t k => XS.dup X76.here hx rfl (hb hby d10_117) rfl rfl k) ?_
            show GoJ _ _ _ _ _ _ _ _ (T76.setTop (mkF m 118 #[.val (.ref a1), .val (.int p2)] [(.ref b71), (.ref b71), (.ref b69), (.ref b69)]))
            refine GoJ.of (fun t k => XS.iconst X76.here hx rfl (hb hby d10_118) k) ?_
            show GoJ _ _ _ _ _ _ _ _ (T76.setTop (mkF m 119 #[.val (.ref a1), .val (.int p2)] [(.int (1 : Int32)), (.ref b71), (.ref b71), (.ref b69), (.ref b69)]))
            refine GoJ.of (fun t k => XS.aloadN X76.here hx rfl (hb hby d10_119) rfl rfl k) ?_
            show GoJ _ _ _ _ _ _ _ _ (T76.setTop (mkF m 120 #[.val (.ref a1), .val (.int p2)] [(.ref a1), (.int (1 : Int32)), (.ref b71), (.ref b71), (.ref b69), (.ref b69)]))
            refine GoJ.of (fun t k => XS.iconst X76.here hx rfl (hb hby d10_120) k) ?_
            show GoJ _ _ _ _ _ _ _ _ (T76.setTop (mkF m 121 #[.val (.ref a1), .val (.int p2)] [(.int (1 : Int32)), (.ref a1), (.int (1 : Int32)), (.ref b71), (.ref b71), (.ref b69), (.ref b69)]))
            have f78 := (f73.other W76 (by omega : a1 ≠ b71))
            obtain ⟨cl79, Ar79, q79, S79, N79, H79, G79⟩ := id f78
            have hin80 := inb_of S79 (j := (1 : Int32)) ⟨by decide, by decide⟩
            refine GoJ.of (X76.caload hx (j := (1 : Int32)) (v := (.int u1)) (own_at e76 Ar79.1) (State.isArrayOf_alike hZ.alike Ar79.2.1) Ar79.2.2 hin80 (H79.at hin80 rfl) (g := (mkF m 121 #[.val (.ref a1), .val (.int p2)] [(.int (1 : Int32)), (.ref a1), (.int (1 : Int32)), (.ref b71), (.ref b71), (.ref b69), (.ref b69)])) rfl rfl (hb hby d10_121)) ?_
            show GoJ _ _ _ _ _ _ _ _ (T76.setTop (mkF m 122 #[.val (.ref a1), .val (.int p2)] [(.int u1), (.int (1 : Int32)), (.ref b71), (.ref b71), (.ref b69), (.ref b69)]))
            obtain ⟨cl81, Ar81, q81, S81, N81', H81, G81⟩ := id V76
            have hin81 := inb_of S81 (j := (1 : Int32)) ⟨by decide, by decide⟩
            obtain ⟨T81, h81, X81, e81, W81, st81⟩ := stC X76 hx hZ e76 Ar81 (j := (1 : Int32)) hin81 (g := (mkF m 122 #[.val (.ref a1), .val (.int p2)] [(.int u1), (.int (1 : Int32)), (.ref b71), (.ref b71), (.ref b69), (.ref b69)])) rfl rfl (hb hby d10_122)
            have V81 : Arv Z h81 b71 k71 .char (4 : Int32) [(.int (nar .char u0)), (.int (nar .char u1)), (.int (0 : Int32)), (.int (0 : Int32))] (.int (0 : Int32)) := Arv.set Ar81 q81 S81 N81' H81 G81 (fits_nar_char _) W81 1 rfl (Nat.le_of_ble_eq_true rfl)
            refine GoJ.of st81 ?_
            have hs82 : h76.size ≤ h81.size := Nat.le_of_eq W81.size.symm
            have N81 := Fr.snoc X81 N76 (by omega)
            show GoJ _ _ _ _ _ _ _ _ (T81.setTop (mkF m 123 #[.val (.ref a1), .val (.int p2)] [(.ref b71), (.ref b69), (.ref b69)]))
            refine GoJ.of (fun t k => XS.dup X81.here hx rfl (hb hby d10_123) rfl rfl k) ?_
            show GoJ _ _ _ _ _ _ _ _ (T81.setTop (mkF m 124 #[.val (.ref a1), .val (.int p2)] [(.ref b71), (.ref b71), (.ref b69), (.ref b69)]))
            refine GoJ.of (fun t k => XS.iconst X81.here hx rfl (hb hby d10_124) k) ?_
            show GoJ _ _ _ _ _ _ _ _ (T81.setTop (mkF m 125 #[.val (.ref a1), .val (.int p2)] [(.int (2 : Int32)), (.ref b71), (.ref b71), (.ref b69), (.ref b69)]))
            refine GoJ.of (fun t k => XS.aloadN X81.here hx rfl (hb hby d10_125) rfl rfl k) ?_
            show GoJ _ _ _ _ _ _ _ _ (T81.setTop (mkF m 126 #[.val (.ref a1), .val (.int p2)] [(.ref a1), (.int (2 : Int32)), (.ref b71), (.ref b71), (.ref b69), (.ref b69)]))
            refine GoJ.of (fun t k => XS.iconst X81.here hx rfl (hb hby d10_126) k) ?_
            show GoJ _ _ _ _ _ _ _ _ (T81.setTop (mkF m 127 #[.val (.ref a1), .val (.int p2)] [(.int (2 : Int32)), (.ref a1), (.int (2 : Int32)), (.ref b71), (.ref b71), (.ref b69), (.ref b69)]))
            have f83 := (f78.other W81 (by omega : a1 ≠ b71))
            obtain ⟨cl84, Ar84, q84, S84, N84, H84, G84⟩ := id f83
            have hin85 := inb_of S84 (j := (2 : Int32)) ⟨by decide, by decide⟩
            refine GoJ.of (X81.caload hx (j := (2 : Int32)) (v := (.int u2)) (own_at e81 Ar84.1) (State.isArrayOf_alike hZ.alike Ar84.2.1) Ar84.2.2 hin85 (H84.at hin85 rfl) (g := (mkF m 127 #[.val (.ref a1), .val (.int p2)] [(.int (2 : Int32)), (.ref a1), (.int (2 : Int32)), (.ref b71), (.ref b71), (.ref b69), (.ref b69)])) rfl rfl (hb hby d10_127)) ?_
            show GoJ _ _ _ _ _ _ _ _ (T81.setTop (mkF m 128 #[.val (.ref a1), .val (.int p2)] [(.int u2), (.int (2 : Int32)), (.ref b71), (.ref b71), (.ref b69), (.ref b69)]))
            obtain ⟨cl86, Ar86, q86, S86, N86', H86, G86⟩ := id V81
            have hin86 := inb_of S86 (j := (2 : Int32)) ⟨by decide, by decide⟩
            obtain ⟨T86, h86, X86, e86, W86, st86⟩ := stC X81 hx hZ e81 Ar86 (j := (2 : Int32)) hin86 (g := (mkF m 128 #[.val (.ref a1), .val (.int p2)] [(.int u2), (.int (2 : Int32)), (.ref b71), (.ref b71), (.ref b69), (.ref b69)])) rfl rfl (hb hby d10_128)
            have V86 : Arv Z h86 b71 k71 .char (4 : Int32) [(.int (nar .char u0)), (.int (nar .char u1)), (.int (nar .char u2)), (.int (0 : Int32))] (.int (0 : Int32)) := Arv.set Ar86 q86 S86 N86' H86 G86 (fits_nar_char _) W86 2 rfl (Nat.le_of_ble_eq_true rfl)
            refine GoJ.of st86 ?_
            have hs87 : h81.size ≤ h86.size := Nat.le_of_eq W86.size.symm
            have N86 := Fr.snoc X86 N81 (by omega)
            show GoJ _ _ _ _ _ _ _ _ (T86.setTop (mkF m 129 #[.val (.ref a1), .val (.int p2)] [(.ref b71), (.ref b69), (.ref b69)]))
            refine GoJ.of (fun t k => XS.dup X86.here hx rfl (hb hby d10_129) rfl rfl k) ?_
            show GoJ _ _ _ _ _ _ _ _ (T86.setTop (mkF m 130 #[.val (.ref a1), .val (.int p2)] [(.ref b71), (.ref b71), (.ref b69), (.ref b69)]))
            refine GoJ.of (fun t k => XS.iconst X86.here hx rfl (hb hby d10_130) k) ?_
            show GoJ _ _ _ _ _ _ _ _ (T86.setTop (mkF m 131 #[.val (.ref a1), .val (.int p2)] [(.int (3 : Int32)), (.ref b71), (.ref b71), (.ref b69), (.ref b69)]))
            refine GoJ.of (fun t k => XS.aloadN X86.here hx rfl (hb hby d10_131) rfl rfl k) ?_
            show GoJ _ _ _ _ _ _ _ _ (T86.setTop (mkF m 132 #[.val (.ref a1), .val (.int p2)] [(.ref a1), (.int (3 : Int32)), (.ref b71), (.ref b71), (.ref b69), (.ref b69)]))
            refine GoJ.of (fun t k => XS.iconst X86.here hx rfl (hb hby d10_132) k) ?_
            show GoJ _ _ _ _ _ _ _ _ (T86.setTop (mkF m 133 #[.val (.ref a1), .val (.int p2)] [(.int (3 : Int32)), (.ref a1), (.int (3 : Int32)), (.ref b71), (.ref b71), (.ref b69), (.ref b69)]))
            have f88 := (f83.other W86 (by omega : a1 ≠ b71))
            obtain ⟨cl89, Ar89, q89, S89, N89, H89, G89⟩ := id f88
            have hin90 := inb_of S89 (j := (3 : Int32)) ⟨by decide, by decide⟩
            refine GoJ.of (X86.caload hx (j := (3 : Int32)) (v := (.int u3)) (own_at e86 Ar89.1) (State.isArrayOf_alike hZ.alike Ar89.2.1) Ar89.2.2 hin90 (H89.at hin90 rfl) (g := (mkF m 133 #[.val (.ref a1), .val (.int p2)] [(.int (3 : Int32)), (.ref a1), (.int (3 : Int32)), (.ref b71), (.ref b71), (.ref b69), (.ref b69)])) rfl rfl (hb hby d10_133)) ?_
            show GoJ _ _ _ _ _ _ _ _ (T86.setTop (mkF m 134 #[.val (.ref a1), .val (.int p2)] [(.int u3), (.int (3 : Int32)), (.ref b71), (.ref b71), (.ref b69), (.ref b69)]))
            obtain ⟨cl91, Ar91, q91, S91, N91', H91, G91⟩ := id V86
            have hin91 := inb_of S91 (j := (3 : Int32)) ⟨by decide, by decide⟩
            obtain ⟨T91, h91, X91, e91, W91, st91⟩ := stC X86 hx hZ e86 Ar91 (j := (3 : Int32)) hin91 (g := (mkF m 134 #[.val (.ref a1), .val (.int p2)] [(.int u3), (.int (3 : Int32)), (.ref b71), (.ref b71), (.ref b69), (.ref b69)])) rfl rfl (hb hby d10_134)
            have V91 : Arv Z h91 b71 k71 .char (4 : Int32) [(.int (nar .char u0)), (.int (nar .char u1)), (.int (nar .char u2)), (.int (nar .char u3))] (.int (0 : Int32)) := Arv.set Ar91 q91 S91 N91' H91 G91 (fits_nar_char _) W91 3 rfl (Nat.le_of_ble_eq_true rfl)
            refine GoJ.of st91 ?_
            have hs92 : h86.size ≤ h91.size := Nat.le_of_eq W91.size.symm
            have N91 := Fr.snoc X91 N86 (by omega)
            show GoJ _ _ _ _ _ _ _ _ (T91.setTop (mkF m 135 #[.val (.ref a1), .val (.int p2)] [(.ref b71), (.ref b69), (.ref b69)]))
            have hcs93 : ∀ c ∈ ([(nar .char u0), (nar .char u1), (nar .char u2), (nar .char u3)] : List Int32), ¬ c < 0 ∧ ¬ (255 : Int32) < c := by
              intro c hc
              simp only [List.mem_cons, List.not_mem_nil, or_false] at hc
              rcases hc with rfl | rfl | rfl | rfl
              · exact own_narr hu0
              · exact own_narr hu1
              · exact own_narr hu2
              · exact own_narr hu3
            have f94 := (((((A69.ext E71).wr W76).wr W81).wr W86).wr W91)
            have f95 := (((((F69_value.ext E71).other W76 (Or.inl (by omega : b69 ≠ b71))).other W81 (Or.inl (by omega : b69 ≠ b71))).other W86 (Or.inl (by omega : b69 ≠ b71))).other W91 (Or.inl (by omega : b69 ≠ b71)))
            have f96 := (((((F69_coder.ext E71).other W76 (Or.inl (by omega : b69 ≠ b71))).other W81 (Or.inl (by omega : b69 ≠ b71))).other W86 (Or.inl (by omega : b69 ≠ b71))).other W91 (Or.inl (by omega : b69 ≠ b71)))
            have f97 := ((((((O0.ext E69).ext E71).wr W76 (by omega)).wr W81 (by omega)).wr W86 (by omega)).wr W91 (by omega))
            obtain ⟨v98, _, ⟨T98, L98, k98, n98⟩, -, X98, ⟨Lc98, hQ98, l98, y98, z98⟩, st98⟩ := X91.specialBack hx (y := (⟨"java/lang/String", "<init>", "([C)V"⟩ : MethodName)) rfl hown (mvT hZ (own_w hw 56 rfl)) (mvT hZ (own_w hw 57 rfl)) (mvT hZ (own_w hw 58 rfl)) (by decide) (StrChars.Road.backV (W := 1) hZ (own_words hw) (kI := 4) (own_w hw 7 rfl) (cs := ([(nar .char u0), (nar .char u1), (nar .char u2), (nar .char u3)] : List Int32)) (bs := ([(nar .char u0), (nar .char u1), (nar .char u2), (nar .char u3)] : List Int32).map (fun c => c.toInt8.toInt32)) (n := 4) (n0 := n0) (by omega) (by omega) f94 f95 f96 V91 (S_cs.ext f97.2) hcs rfl rfl (by decide) (by decide) hcs93 rfl (by decide) (by decide)) (g := (mkF m 135 #[.val (.ref a1), .val (.int p2)] [(.ref b71), (.ref b69), (.ref b69)])) rfl (by rw [hml]; rfl) (Steps.refl _) (a := b69) (argsL := [(.ref b71)]) (rest := [(.ref b69)]) (lenOf pd_3 rfl) rfl (by show 2 * 0 + _ ≤ _; exact Nat.le_of_eq rfl) (hb hby d10_135) (fun _ _ => ⟨rfl, e91, (by decide : 2 + 1 ≤ _), (by decide : 8 + 4 ≤ _)⟩)
            dsimp only [Pt.U, Pt.locs, Pt.cells, Pt.slots] at X98 l98 y98 z98 st98 hQ98
            replace y98 : k98 = 3 := y98.trans (by decide)
            replace z98 : n98 = 12 := z98.trans (by decide)
            subst l98 y98 z98
            obtain ⟨rfl, N98q, K98, Ex98, Fc98, t98, kb98, -, -, -, Fv98, Va98⟩ := hQ98
            have N98 := Fr.app N91 N98q
            refine GoJ.tr st98 ?_
            have hs99 : h91.size ≤ T98.heap.size := K98.1
            have Sn98 : own_Str Z T98.heap b69 ([(nar .char u0), (nar .char u1), (nar .char u2), (nar .char u3)] : List Int32) := ⟨t98, kb98, Ex98, Fv98, Fc98, Va98, Nat.le_of_ble_eq_true rfl, hcs93⟩
            show GoJ _ _ _ _ _ _ _ _ (T98.setTop (mkF m 138 #[.val (.ref a1), .val (.int p2)] [(.ref b69)]))
            refine GoJ.out X98 hS (by omega) (own_J.keep hJ ((((((((Keep.refl h0 []).ext E69).ext E71).wr W76 (Or.inr (by omega))).wr W81 (Or.inr (by omega))).wr W86 (Or.inr (by omega))).wr W91 (Or.inr (by omega))).trans K98 (allS (Or.inr (by omega)) all0))) (v := some (.ref b69)) (fun h => by rw [Bd.returns] at h; cases h) hlk (fun fs hr => retOut X98 hx (t := (.object "java/lang/String")) Bd.returns rfl (Or.inr (Or.inr (Or.inr (Or.inr ⟨rfl, rfl, rfl⟩)))) (hb hby d10_138) hr) ?_ (by decide) (by decide)
            show Q10 Z a1 p2 cs h0 n0 _ T98.heap _
            exact ⟨b69, _, rfl, N98, ((((((((Keep.refl h0 []).ext E69).ext E71).wr W76 (Or.inr (by omega))).wr W81 (Or.inr (by omega))).wr W86 (Or.inr (by omega))).wr W91 (Or.inr (by omega))).trans K98 (allS (Or.inr (by omega)) all0)), Sn98⟩
          · skip
            refine GoJ.of (fun t k => XS.icmpYes X0.here hx rfl (pc0 := 101) (pc' := 139) rfl (hb hby d10_101) rfl (feq hc101_68).2 (by decide) (by decide) k) ?_
            show GoJ _ _ _ _ _ _ _ _ (s₁.setTop (mkF m 139 #[.val (.ref a1), .val (.int p2)] []))
            refine GoJ.of (fun t k => XS.iloadN X0.here hx rfl (hb hby d10_139) rfl k) ?_
            show GoJ _ _ _ _ _ _ _ _ (s₁.setTop (mkF m 140 #[.val (.ref a1), .val (.int p2)] [(.int p2)]))
            refine GoJ.of (fun t k => XS.iconst X0.here hx rfl (hb hby d10_140) k) ?_
            show GoJ _ _ _ _ _ _ _ _ (s₁.setTop (mkF m 141 #[.val (.ref a1), .val (.int p2)] [(.int (5 : Int32)), (.int p2)]))
            by_cases hc141_100 : p2 = (5 : Int32)
            · skip
              refine GoJ.of (fun t k => XS.icmpNo X0.here hx rfl (hb hby d10_141) rfl (teq hc141_100).2 k) ?_
              show GoJ _ _ _ _ _ _ _ _ (s₁.setTop (mkF m 144 #[.val (.ref a1), .val (.int p2)] []))
              obtain ⟨T101, h101, X101, e101, E101, A101, D101, -, st101⟩ := newO X0 hx hZ hown (own_w hw 55 rfl) (own_w hw 7 rfl) (own_w hw 6 rfl) e0 (g := (mkF m 144 #[.val (.ref a1), .val (.int p2)] [])) rfl (hb hby d10_144) (by decide) (by decide)
              obtain ⟨b101, g101⟩ : ∃ z, z = h0.size := ⟨_, rfl⟩
              rw [← g101] at A101 D101 st101
              have lt101 : b101 < h101.size := A101.lt
              refine GoJ.of st101 ?_
              have hs102 : h0.size ≤ h101.size := E101.1
              have F101_value : Fld Z h101 b101 "java/lang/String" "value" "[B" .null := D101 (Or.inr (own_w hw 9 rfl)) (ty := (.array .byte)) (by decide)
              have F101_coder : Fld Z h101 b101 "java/lang/String" "coder" "B" (.int (0 : Int32)) := D101 (Or.inr (own_w hw 10 rfl)) (ty := .byte) (by decide)
              show GoJ _ _ _ _ _ _ _ _ (T101.setTop (mkF m 147 #[.val (.ref a1), .val (.int p2)] [(.ref b101)]))
              refine GoJ.of (fun t k => XS.dup X101.here hx rfl (hb hby d10_147) rfl rfl k) ?_
              show GoJ _ _ _ _ _ _ _ _ (T101.setTop (mkF m 148 #[.val (.ref a1), .val (.int p2)] [(.ref b101), (.ref b101)]))
              refine GoJ.of (fun t k => XS.iconst X101.here hx rfl (hb hby d10_148) k) ?_
              show GoJ _ _ _ _ _ _ _ _ (T101.setTop (mkF m 149 #[.val (.ref a1), .val (.int p2)] [(.int (5 : Int32)), (.ref b101), (.ref b101)]))
              obtain ⟨T103, h103, k103, X103, e103, E103, A103, st103⟩ := newP X101 hx hZ (own_w hw 26 rfl) e101 (g := (mkF m 149 #[.val (.ref a1), .val (.int p2)] [(.int (5 : Int32)), (.ref b101), (.ref b101)])) rfl (hb hby d10_149) rfl (by decide) (cap := 5) (by decide) (by decide) (by decide) (by decide)
              obtain ⟨b103, g103⟩ : ∃ z, z = h101.size := ⟨_, rfl⟩
              rw [← g103] at A103 st103
              have lt103 : b103 < h103.size := A103.lt
              refine GoJ.of st103 ?_
              have hs104 : h101.size ≤ h103.size := E103.1
              have V103 : Arv Z h103 b103 k103 .char (5 : Int32) [(.int (0 : Int32)), (.int (0 : Int32)), (.int (0 : Int32)), (.int (0 : Int32)), (.int (0 : Int32))] (.int (0 : Int32)) := (Arv.new A103 (by decide)).pad (pad_rep [] (.int (0 : Int32)) 5)
              show GoJ _ _ _ _ _ _ _ _ (T103.setTop (mkF m 151 #[.val (.ref a1), .val (.int p2)] [(.ref b103), (.ref b101), (.ref b101)]))
              refine GoJ.of (fun t k => XS.dup X103.here hx rfl (hb hby d10_151) rfl rfl k) ?_
              show GoJ _ _ _ _ _ _ _ _ (T103.setTop (mkF m 152 #[.val (.ref a1), .val (.int p2)] [(.ref b103), (.ref b103), (.ref b101), (.ref b101)]))
              refine GoJ.of (fun t k => XS.iconst X103.here hx rfl (hb hby d10_152) k) ?_
              show GoJ _ _ _ _ _ _ _ _ (T103.setTop (mkF m 153 #[.val (.ref a1), .val (.int p2)] [(.int (0 : Int32)), (.ref b103), (.ref b103), (.ref b101), (.ref b101)]))
              refine GoJ.of (fun t k => XS.aloadN X103.here hx rfl (hb hby d10_153) rfl rfl k) ?_
              show GoJ _ _ _ _ _ _ _ _ (T103.setTop (mkF m 154 #[.val (.ref a1), .val (.int p2)] [(.ref a1), (.int (0 : Int32)), (.ref b103), (.ref b103), (.ref b101), (.ref b101)]))
              refine GoJ.of (fun t k => XS.iconst X103.here hx rfl (hb hby d10_154) k) ?_
              show GoJ _ _ _ _ _ _ _ _ (T103.setTop (mkF m 155 #[.val (.ref a1), .val (.int p2)] [(.int (0 : Int32)), (.ref a1), (.int (0 : Int32)), (.ref b103), (.ref b103), (.ref b101), (.ref b101)]))
              have f105 := ((V1.ext E101).ext E103)
              obtain ⟨cl106, Ar106, q106, S106, N106, H106, G106⟩ := id f105
              have hin107 := inb_of S106 (j := (0 : Int32)) ⟨by decide, by decide⟩
              refine GoJ.of (X103.caload hx (j := (0 : Int32)) (v := (.int u0)) (own_at e103 Ar106.1) (State.isArrayOf_alike hZ.alike Ar106.2.1) Ar106.2.2 hin107 (H106.at hin107 rfl) (g := (mkF m 155 #[.val (.ref a1), .val (.int p2)] [(.int (0 : Int32)), (.ref a1), (.int (0 : Int32)), (.ref b103), (.ref b103), (.ref b101), (.ref b101)])) rfl rfl (hb hby d10_155)) ?_
              show GoJ _ _ _ _ _ _ _ _ (T103.setTop (mkF m 156 #[.val (.ref a1), .val (.int p2)] [(.int u0), (.int (0 : Int32)), (.ref b103), (.ref b103), (.ref b101), (.ref b101)]))
              obtain ⟨cl108, Ar108, q108, S108, N108', H108, G108⟩ := id V103
              have hin108 := inb_of S108 (j := (0 : Int32)) ⟨by decide, by decide⟩
              obtain ⟨T108, h108, X108, e108, W108, st108⟩ := stC X103 hx hZ e103 Ar108 (j := (0 : Int32)) hin108 (g := (mkF m 156 #[.val (.ref a1), .val (.int p2)] [(.int u0), (.int (0 : Int32)), (.ref b103), (.ref b103), (.ref b101), (.ref b101)])) rfl rfl (hb hby d10_156)
              have V108 : Arv Z h108 b103 k103 .char (5 : Int32) [(.int (nar .char u0)), (.int (0 : Int32)), (.int (0 : Int32)), (.int (0 : Int32)), (.int (0 : Int32))] (.int (0 : Int32)) := Arv.set Ar108 q108 S108 N108' H108 G108 (fits_nar_char _) W108 0 rfl (Nat.le_of_ble_eq_true rfl)
              refine GoJ.of st108 ?_
              have hs109 : h103.size ≤ h108.size := Nat.le_of_eq W108.size.symm
              have N108 := Fr.snoc X108 N0 (by omega)
              show GoJ _ _ _ _ _ _ _ _ (T108.setTop (mkF m 157 #[.val (.ref a1), .val (.int p2)] [(.ref b103), (.ref b101), (.ref b101)]))
              refine GoJ.of (fun t k => XS.dup X108.here hx rfl (hb hby d10_157) rfl rfl k) ?_
              show GoJ _ _ _ _ _ _ _ _ (T108.setTop (mkF m 158 #[.val (.ref a1), .val (.int p2)] [(.ref b103), (.ref b103), (.ref b101), (.ref b101)]))
              refine GoJ.of (fun t k => XS.iconst X108.here hx rfl (hb hby d10_158) k) ?_
              show GoJ _ _ _ _ _ _ _ _ (T108.setTop (mkF m 159 #[.val (.ref a1), .val (.int p2)] [(.int (1 : Int32)), (.ref b103), (.ref b103), (.ref b101), (.ref b101)]))
              refine GoJ.of (fun t k => XS.aloadN X108.here hx rfl (hb hby d10_159) rfl rfl k) ?_
              show GoJ _ _ _ _ _ _ _ _ (T108.setTop (mkF m 160 #[.val (.ref a1), .val (.int p2)] [(.ref a1), (.int (1 : Int32)), (.ref b103), (.ref b103), (.ref b101), (.ref b101)]))
              refine GoJ.of (fun t k => XS.iconst X108.here hx rfl (hb hby d10_160) k) ?_
              show GoJ _ _ _ _ _ _ _ _ (T108.setTop (mkF m 161 #[.val (.ref a1), .val (.int p2)] [(.int (1 : Int32)), (.ref a1), (.int (1 : Int32)), (.ref b103), (.ref b103), (.ref b101), (.ref b101)]))
              have f110 := (f105.other W108 (by omega : a1 ≠ b103))
              obtain ⟨cl111, Ar111, q111, S111, N111, H111, G111⟩ := id f110
              have hin112 := inb_of S111 (j := (1 : Int32)) ⟨by decide, by decide⟩
              refine GoJ.of (X108.caload hx (j := (1 : Int32)) (v := (.int u1)) (own_at e108 Ar111.1) (State.isArrayOf_alike hZ.alike Ar111.2.1) Ar111.2.2 hin112 (H111.at hin112 rfl) (g := (mkF m 161 #[.val (.ref a1), .val (.int p2)] [(.int (1 : Int32)), (.ref a1), (.int (1 : Int32)), (.ref b103), (.ref b103), (.ref b101), (.ref b101)])) rfl rfl (hb hby d10_161)) ?_
              show GoJ _ _ _ _ _ _ _ _ (T108.setTop (mkF m 162 #[.val (.ref a1), .val (.int p2)] [(.int u1), (.int (1 : Int32)), (.ref b103), (.ref b103), (.ref b101), (.ref b101)]))
              obtain ⟨cl113, Ar113, q113, S113, N113', H113, G113⟩ := id V108
              have hin113 := inb_of S113 (j := (1 : Int32)) ⟨by decide, by decide⟩
              obtain ⟨T113, h113, X113, e113, W113, st113⟩ := stC X108 hx hZ e108 Ar113 (j := (1 : Int32)) hin113 (g := (mkF m 162 #[.val (.ref a1), .val (.int p2)] [(.int u1), (.int (1 : Int32)), (.ref b103), (.ref b103), (.ref b101), (.ref b101)])) rfl rfl (hb hby d10_162)
              have V113 : Arv Z h113 b103 k103 .char (5 : Int32) [(.int (nar .char u0)), (.int (nar .char u1)), (.int (0 : Int32)), (.int (0 : Int32)), (.int (0 : Int32))] (.int (0 : Int32)) := Arv.set Ar113 q113 S113 N113' H113 G113 (fits_nar_char _) W113 1 rfl (Nat.le_of_ble_eq_true rfl)
              refine GoJ.of st113 ?_
              have hs114 : h108.size ≤ h113.size := Nat.le_of_eq W113.size.symm
              have N113 := Fr.snoc X113 N108 (by omega)
              show GoJ _ _ _ _ _ _ _ _ (T113.setTop (mkF m 163 #[.val (.ref a1), .val (.int p2)] [(.ref b103), (.ref b101), (.ref b101)]))
              refine GoJ.of (fun t k => XS.dup X113.here hx rfl (hb hby d10_163) rfl rfl k) ?_
              show GoJ _ _ _ _ _ _ _ _ (T113.setTop (mkF m 164 #[.val (.ref a1), .val (.int p2)] [(.ref b103), (.ref b103), (.ref b101), (.ref b101)]))
              refine GoJ.of (fun t k => XS.iconst X113.here hx rfl (hb hby d10_164) k) ?_
              show GoJ _ _ _ _ _ _ _ _ (T113.setTop (mkF m 165 #[.val (.ref a1), .val (.int p2)] [(.int (2 : Int32)), (.ref b103), (.ref b103), (.ref b101), (.ref b101)]))
              refine GoJ.of (fun t k => XS.aloadN X113.here hx rfl (hb hby d10_165) rfl rfl k) ?_
              show GoJ _ _ _ _ _ _ _ _ (T113.setTop (mkF m 166 #[.val (.ref a1), .val (.int p2)] [(.ref a1), (.int (2 : Int32)), (.ref b103), (.ref b103), (.ref b101), (.ref b101)]))
              refine GoJ.of (fun t k => XS.iconst X113.here hx rfl (hb hby d10_166) k) ?_
              show GoJ _ _ _ _ _ _ _ _ (T113.setTop (mkF m 167 #[.val (.ref a1), .val (.int p2)] [(.int (2 : Int32)), (.ref a1), (.int (2 : Int32)), (.ref b103), (.ref b103), (.ref b101), (.ref b101)]))
              have f115 := (f110.other W113 (by omega : a1 ≠ b103))
              obtain ⟨cl116, Ar116, q116, S116, N116, H116, G116⟩ := id f115
              have hin117 := inb_of S116 (j := (2 : Int32)) ⟨by decide, by decide⟩
              refine GoJ.of (X113.caload hx (j := (2 : Int32)) (v := (.int u2)) (own_at e113 Ar116.1) (State.isArrayOf_alike hZ.alike Ar116.2.1) Ar116.2.2 hin117 (H116.at hin117 rfl) (g := (mkF m 167 #[.val (.ref a1), .val (.int p2)] [(.int (2 : Int32)), (.ref a1), (.int (2 : Int32)), (.ref b103), (.ref b103), (.ref b101), (.ref b101)])) rfl rfl (hb hby d10_167)) ?_
              show GoJ _ _ _ _ _ _ _ _ (T113.setTop (mkF m 168 #[.val (.ref a1), .val (.int p2)] [(.int u2), (.int (2 : Int32)), (.ref b103), (.ref b103), (.ref b101), (.ref b101)]))
              obtain ⟨cl118, Ar118, q118, S118, N118', H118, G118⟩ := id V113
              have hin118 := inb_of S118 (j := (2 : Int32)) ⟨by decide, by decide⟩
              obtain ⟨T118, h118, X118, e118, W118, st118⟩ := stC X113 hx hZ e113 Ar118 (j := (2 : Int32)) hin118 (g := (mkF m 168 #[.val (.ref a1), .val (.int p2)] [(.int u2), (.int (2 : Int32)), (.ref b103), (.ref b103), (.ref b101), (.ref b101)])) rfl rfl (hb hby d10_168)
              have V118 : Arv Z h118 b103 k103 .char (5 : Int32) [(.int (nar .char u0)), (.int (nar .char u1)), (.int (nar .char u2)), (.int (0 : Int32)), (.int (0 : Int32))] (.int (0 : Int32)) := Arv.set Ar118 q118 S118 N118' H118 G118 (fits_nar_char _) W118 2 rfl (Nat.le_of_ble_eq_true rfl)
              refine GoJ.of st118 ?_
              have hs119 : h113.size ≤ h118.size := Nat.le_of_eq W118.size.symm
              have N118 := Fr.snoc X118 N113 (by omega)
              show GoJ _ _ _ _ _ _ _ _ (T118.setTop (mkF m 169 #[.val (.ref a1), .val (.int p2)] [(.ref b103), (.ref b101), (.ref b101)]))
              refine GoJ.of (fun t k => XS.dup X118.here hx rfl (hb hby d10_169) rfl rfl k) ?_
              show GoJ _ _ _ _ _ _ _ _ (T118.setTop (mkF m 170 #[.val (.ref a1), .val (.int p2)] [(.ref b103), (.ref b103), (.ref b101), (.ref b101)]))
              refine GoJ.of (fun t k => XS.iconst X118.here hx rfl (hb hby d10_170) k) ?_
              show GoJ _ _ _ _ _ _ _ _ (T118.setTop (mkF m 171 #[.val (.ref a1), .val (.int p2)] [(.int (3 : Int32)), (.ref b103), (.ref b103), (.ref b101), (.ref b101)]))
              refine GoJ.of (fun t k => XS.aloadN X118.here hx rfl (hb hby d10_171) rfl rfl k) ?_
              show GoJ _ _ _ _ _ _ _ _ (T118.setTop (mkF m 172 #[.val (.ref a1), .val (.int p2)] [(.ref a1), (.int (3 : Int32)), (.ref b103), (.ref b103), (.ref b101), (.ref b101)]))
              refine GoJ.of (fun t k => XS.iconst X118.here hx rfl (hb hby d10_172) k) ?_
              show GoJ _ _ _ _ _ _ _ _ (T118.setTop (mkF m 173 #[.val (.ref a1), .val (.int p2)] [(.int (3 : Int32)), (.ref a1), (.int (3 : Int32)), (.ref b103), (.ref b103), (.ref b101), (.ref b101)]))
              have f120 := (f115.other W118 (by omega : a1 ≠ b103))
              obtain ⟨cl121, Ar121, q121, S121, N121, H121, G121⟩ := id f120
              have hin122 := inb_of S121 (j := (3 : Int32)) ⟨by decide, by decide⟩
              refine GoJ.of (X118.caload hx (j := (3 : Int32)) (v := (.int u3)) (own_at e118 Ar121.1) (State.isArrayOf_alike hZ.alike Ar121.2.1) Ar121.2.2 hin122 (H121.at hin122 rfl) (g := (mkF m 173 #[.val (.ref a1), .val (.int p2)] [(.int (3 : Int32)), (.ref a1), (.int (3 : Int32)), (.ref b103), (.ref b103), (.ref b101), (.ref b101)])) rfl rfl (hb hby d10_173)) ?_
              show GoJ _ _ _ _ _ _ _ _ (T118.setTop (mkF m 174 #[.val (.ref a1), .val (.int p2)] [(.int u3), (.int (3 : Int32)), (.ref b103), (.ref b103), (.ref b101), (.ref b101)]))
              obtain ⟨cl123, Ar123, q123, S123, N123', H123, G123⟩ := id V118
              have hin123 := inb_of S123 (j := (3 : Int32)) ⟨by decide, by decide⟩
              obtain ⟨T123, h123, X123, e123, W123, st123⟩ := stC X118 hx hZ e118 Ar123 (j := (3 : Int32)) hin123 (g := (mkF m 174 #[.val (.ref a1), .val (.int p2)] [(.int u3), (.int (3 : Int32)), (.ref b103), (.ref b103), (.ref b101), (.ref b101)])) rfl rfl (hb hby d10_174)
              have V123 : Arv Z h123 b103 k103 .char (5 : Int32) [(.int (nar .char u0)), (.int (nar .char u1)), (.int (nar .char u2)), (.int (nar .char u3)), (.int (0 : Int32))] (.int (0 : Int32)) := Arv.set Ar123 q123 S123 N123' H123 G123 (fits_nar_char _) W123 3 rfl (Nat.le_of_ble_eq_true rfl)
              refine GoJ.of st123 ?_
              have hs124 : h118.size ≤ h123.size := Nat.le_of_eq W123.size.symm
              have N123 := Fr.snoc X123 N118 (by omega)
              show GoJ _ _ _ _ _ _ _ _ (T123.setTop (mkF m 175 #[.val (.ref a1), .val (.int p2)] [(.ref b103), (.ref b101), (.ref b101)]))
              refine GoJ.of (fun t k => XS.dup X123.here hx rfl (hb hby d10_175) rfl rfl k) ?_
              show GoJ _ _ _ _ _ _ _ _ (T123.setTop (mkF m 176 #[.val (.ref a1), .val (.int p2)] [(.ref b103), (.ref b103), (.ref b101), (.ref b101)]))
              refine GoJ.of (fun t k => XS.iconst X123.here hx rfl (hb hby d10_176) k) ?_
              show GoJ _ _ _ _ _ _ _ _ (T123.setTop (mkF m 177 #[.val (.ref a1), .val (.int p2)] [(.int (4 : Int32)), (.ref b103), (.ref b103), (.ref b101), (.ref b101)]))
              refine GoJ.of (fun t k => XS.aloadN X123.here hx rfl (hb hby d10_177) rfl rfl k) ?_
              show GoJ _ _ _ _ _ _ _ _ (T123.setTop (mkF m 178 #[.val (.ref a1), .val (.int p2)] [(.ref a1), (.int (4 : Int32)), (.ref b103), (.ref b103), (.ref b101), (.ref b101)]))
              refine GoJ.of (fun t k => XS.iconst X123.here hx rfl (hb hby d10_178) k) ?_
              show GoJ _ _ _ _ _ _ _ _ (T123.setTop (mkF m 179 #[.val (.ref a1), .val (.int p2)] [(.int (4 : Int32)), (.ref a1), (.int (4 : Int32)), (.ref b103), (.ref b103), (.ref b101), (.ref b101)]))
              have f125 := (f120.other W123 (by omega : a1 ≠ b103))
              obtain ⟨cl126, Ar126, q126, S126, N126, H126, G126⟩ := id f125
              have hin127 := inb_of S126 (j := (4 : Int32)) ⟨by decide, by decide⟩
              refine GoJ.of (X123.caload hx (j := (4 : Int32)) (v := (.int u4)) (own_at e123 Ar126.1) (State.isArrayOf_alike hZ.alike Ar126.2.1) Ar126.2.2 hin127 (H126.at hin127 rfl) (g := (mkF m 179 #[.val (.ref a1), .val (.int p2)] [(.int (4 : Int32)), (.ref a1), (.int (4 : Int32)), (.ref b103), (.ref b103), (.ref b101), (.ref b101)])) rfl rfl (hb hby d10_179)) ?_
              show GoJ _ _ _ _ _ _ _ _ (T123.setTop (mkF m 180 #[.val (.ref a1), .val (.int p2)] [(.int u4), (.int (4 : Int32)), (.ref b103), (.ref b103), (.ref b101), (.ref b101)]))
              obtain ⟨cl128, Ar128, q128, S128, N128', H128, G128⟩ := id V123
              have hin128 := inb_of S128 (j := (4 : Int32)) ⟨by decide, by decide⟩
              obtain ⟨T128, h128, X128, e128, W128, st128⟩ := stC X123 hx hZ e123 Ar128 (j := (4 : Int32)) hin128 (g := (mkF m 180 #[.val (.ref a1), .val (.int p2)] [(.int u4), (.int (4 : Int32)), (.ref b103), (.ref b103), (.ref b101), (.ref b101)])) rfl rfl (hb hby d10_180)
              have V128 : Arv Z h128 b103 k103 .char (5 : Int32) [(.int (nar .char u0)), (.int (nar .char u1)), (.int (nar .char u2)), (.int (nar .char u3)), (.int (nar .char u4))] (.int (0 : Int32)) := Arv.set Ar128 q128 S128 N128' H128 G128 (fits_nar_char _) W128 4 rfl (Nat.le_of_ble_eq_true rfl)
              refine GoJ.of st128 ?_
              have hs129 : h123.size ≤ h128.size := Nat.le_of_eq W128.size.symm
              have N128 := Fr.snoc X128 N123 (by omega)
              show GoJ _ _ _ _ _ _ _ _ (T128.setTop (mkF m 181 #[.val (.ref a1), .val (.int p2)] [(.ref b103), (.ref b101), (.ref b101)]))
              have hcs130 : ∀ c ∈ ([(nar .char u0), (nar .char u1), (nar .char u2), (nar .char u3), (nar .char u4)] : List Int32), ¬ c < 0 ∧ ¬ (255 : Int32) < c := by
                intro c hc
                simp only [List.mem_cons, List.not_mem_nil, or_false] at hc
                rcases hc with rfl | rfl | rfl | rfl | rfl
                · exact own_narr hu0
                · exact own_narr hu1
                · exact own_narr hu2
                · exact own_narr hu3
                · exact own_narr hu4
              have f131 := ((((((A101.ext E103).wr W108).wr W113).wr W118).wr W123).wr W128)
              have f132 := ((((((F101_value.ext E103).other W108 (Or.inl (by omega : b101 ≠ b103))).other W113 (Or.inl (by omega : b101 ≠ b103))).other W118 (Or.inl (by omega : b101 ≠ b103))).other W123 (Or.inl (by omega : b101 ≠ b103))).other W128 (Or.inl (by omega : b101 ≠ b103)))
              have f133 := ((((((F101_coder.ext E103).other W108 (Or.inl (by omega : b101 ≠ b103))).other W113 (Or.inl (by omega : b101 ≠ b103))).other W118 (Or.inl (by omega : b101 ≠ b103))).other W123 (Or.inl (by omega : b101 ≠ b103))).other W128 (Or.inl (by omega : b101 ≠ b103)))
              have f134 := (((((((O0.ext E101).ext E103).wr W108 (by omega)).wr W113 (by omega)).wr W118 (by omega)).wr W123 (by omega)).wr W128 (by omega))
              obtain ⟨v135, _, ⟨T135, L135, k135, n135⟩, -, X135, ⟨Lc135, hQ135, l135, y135, z135⟩, st135⟩ := X128.specialBack hx (y := (⟨"java/lang/String", "<init>", "([C)V"⟩ : MethodName)) rfl hown (mvT hZ (own_w hw 56 rfl)) (mvT hZ (own_w hw 57 rfl)) (mvT hZ (own_w hw 58 rfl)) (by decide) (StrChars.Road.backV (W := 1) hZ (own_words hw) (kI := 4) (own_w hw 7 rfl) (cs := ([(nar .char u0), (nar .char u1), (nar .char u2), (nar .char u3), (nar .char u4)] : List Int32)) (bs := ([(nar .char u0), (nar .char u1), (nar .char u2), (nar .char u3), (nar .char u4)] : List Int32).map (fun c => c.toInt8.toInt32)) (n := 5) (n0 := n0) (by omega) (by omega) f131 f132 f133 V128 (S_cs.ext f134.2) hcs rfl rfl (by decide) (by decide) hcs130 rfl (by decide) (by decide)) (g := (mkF m 181 #[.val (.ref a1), .val (.int p2)] [(.ref b103), (.ref b101), (.ref b101)])) rfl (by rw [hml]; rfl) (Steps.refl _) (a := b101) (argsL := [(.ref b103)]) (rest := [(.ref b101)]) (lenOf pd_3 rfl) rfl (by show 2 * 0 + _ ≤ _; exact Nat.le_of_eq rfl) (hb hby d10_181) (fun _ _ => ⟨rfl, e128, (by decide : 2 + 1 ≤ _), (by decide : 9 + 5 ≤ _)⟩)
              dsimp only [Pt.U, Pt.locs, Pt.cells, Pt.slots] at X135 l135 y135 z135 st135 hQ135
              replace y135 : k135 = 3 := y135.trans (by decide)
              replace z135 : n135 = 14 := z135.trans (by decide)
              subst l135 y135 z135
              obtain ⟨rfl, N135q, K135, Ex135, Fc135, t135, kb135, -, -, -, Fv135, Va135⟩ := hQ135
              have N135 := Fr.app N128 N135q
              refine GoJ.tr st135 ?_
              have hs136 : h128.size ≤ T135.heap.size := K135.1
              have Sn135 : own_Str Z T135.heap b101 ([(nar .char u0), (nar .char u1), (nar .char u2), (nar .char u3), (nar .char u4)] : List Int32) := ⟨t135, kb135, Ex135, Fv135, Fc135, Va135, Nat.le_of_ble_eq_true rfl, hcs130⟩
              show GoJ _ _ _ _ _ _ _ _ (T135.setTop (mkF m 184 #[.val (.ref a1), .val (.int p2)] [(.ref b101)]))
              refine GoJ.out X135 hS (by omega) (own_J.keep hJ (((((((((Keep.refl h0 []).ext E101).ext E103).wr W108 (Or.inr (by omega))).wr W113 (Or.inr (by omega))).wr W118 (Or.inr (by omega))).wr W123 (Or.inr (by omega))).wr W128 (Or.inr (by omega))).trans K135 (allS (Or.inr (by omega)) all0))) (v := some (.ref b101)) (fun h => by rw [Bd.returns] at h; cases h) hlk (fun fs hr => retOut X135 hx (t := (.object "java/lang/String")) Bd.returns rfl (Or.inr (Or.inr (Or.inr (Or.inr ⟨rfl, rfl, rfl⟩)))) (hb hby d10_184) hr) ?_ (by decide) (by decide)
              show Q10 Z a1 p2 cs h0 n0 _ T135.heap _
              exact ⟨b101, _, rfl, N135, (((((((((Keep.refl h0 []).ext E101).ext E103).wr W108 (Or.inr (by omega))).wr W113 (Or.inr (by omega))).wr W118 (Or.inr (by omega))).wr W123 (Or.inr (by omega))).wr W128 (Or.inr (by omega))).trans K135 (allS (Or.inr (by omega)) all0)), Sn135⟩
            · skip
              refine GoJ.of (fun t k => XS.icmpYes X0.here hx rfl (pc0 := 141) (pc' := 185) rfl (hb hby d10_141) rfl (feq hc141_100).2 (by decide) (by decide) k) ?_
              show GoJ _ _ _ _ _ _ _ _ (s₁.setTop (mkF m 185 #[.val (.ref a1), .val (.int p2)] []))
              refine GoJ.of (fun t k => XS.iloadN X0.here hx rfl (hb hby d10_185) rfl k) ?_
              show GoJ _ _ _ _ _ _ _ _ (s₁.setTop (mkF m 186 #[.val (.ref a1), .val (.int p2)] [(.int p2)]))
              refine GoJ.of (fun t k => XS.bipush X0.here hx rfl (hb hby d10_186) k) ?_
              show GoJ _ _ _ _ _ _ _ _ (s₁.setTop (mkF m 188 #[.val (.ref a1), .val (.int p2)] [(.int (6 : Int32)), (.int p2)]))
              by_cases hc188_137 : p2 = (6 : Int32)
              · skip
                refine GoJ.of (fun t k => XS.icmpNo X0.here hx rfl (hb hby d10_188) rfl (teq hc188_137).2 k) ?_
                show GoJ _ _ _ _ _ _ _ _ (s₁.setTop (mkF m 191 #[.val (.ref a1), .val (.int p2)] []))
                obtain ⟨T138, h138, X138, e138, E138, A138, D138, -, st138⟩ := newO X0 hx hZ hown (own_w hw 55 rfl) (own_w hw 7 rfl) (own_w hw 6 rfl) e0 (g := (mkF m 191 #[.val (.ref a1), .val (.int p2)] [])) rfl (hb hby d10_191) (by decide) (by decide)
                obtain ⟨b138, g138⟩ : ∃ z, z = h0.size := ⟨_, rfl⟩
                rw [← g138] at A138 D138 st138
                have lt138 : b138 < h138.size := A138.lt
                refine GoJ.of st138 ?_
                have hs139 : h0.size ≤ h138.size := E138.1
                have F138_value : Fld Z h138 b138 "java/lang/String" "value" "[B" .null := D138 (Or.inr (own_w hw 9 rfl)) (ty := (.array .byte)) (by decide)
                have F138_coder : Fld Z h138 b138 "java/lang/String" "coder" "B" (.int (0 : Int32)) := D138 (Or.inr (own_w hw 10 rfl)) (ty := .byte) (by decide)
                show GoJ _ _ _ _ _ _ _ _ (T138.setTop (mkF m 194 #[.val (.ref a1), .val (.int p2)] [(.ref b138)]))
                refine GoJ.of (fun t k => XS.dup X138.here hx rfl (hb hby d10_194) rfl rfl k) ?_
                show GoJ _ _ _ _ _ _ _ _ (T138.setTop (mkF m 195 #[.val (.ref a1), .val (.int p2)] [(.ref b138), (.ref b138)]))
                refine GoJ.of (fun t k => XS.bipush X138.here hx rfl (hb hby d10_195) k) ?_
                show GoJ _ _ _ _ _ _ _ _ (T138.setTop (mkF m 197 #[.val (.ref a1), .val (.int p2)] [(.int (6 : Int32)), (.ref b138), (.ref b138)]))
                obtain ⟨T140, h140, k140, X140, e140, E140, A140, st140⟩ := newP X138 hx hZ (own_w hw 26 rfl) e138 (g := (mkF m 197 #[.val (.ref a1), .val (.int p2)] [(.int (6 : Int32)), (.ref b138), (.ref b138)])) rfl (hb hby d10_197) rfl (by decide) (cap := 6) (by decide) (by decide) (by decide) (by decide)
                obtain ⟨b140, g140⟩ : ∃ z, z = h138.size := ⟨_, rfl⟩
                rw [← g140] at A140 st140
                have lt140 : b140 < h140.size := A140.lt
                refine GoJ.of st140 ?_
                have hs141 : h138.size ≤ h140.size := E140.1
                have V140 : Arv Z h140 b140 k140 .char (6 : Int32) [(.int (0 : Int32)), (.int (0 : Int32)), (.int (0 : Int32)), (.int (0 : Int32)), (.int (0 : Int32)), (.int (0 : Int32))] (.int (0 : Int32)) := (Arv.new A140 (by decide)).pad (pad_rep [] (.int (0 : Int32)) 6)
                show GoJ _ _ _ _ _ _ _ _ (T140.setTop (mkF m 199 #[.val (.ref a1), .val (.int p2)] [(.ref b140), (.ref b138), (.ref b138)]))
                refine GoJ.of (fun t k => XS.dup X140.here hx rfl (hb hby d10_199) rfl rfl k) ?_
                show GoJ _ _ _ _ _ _ _ _ (T140.setTop (mkF m 200 #[.val (.ref a1), .val (.int p2)] [(.ref b140), (.ref b140), (.ref b138), (.ref b138)]))
                refine GoJ.of (fun t k => XS.iconst X140.here hx rfl (hb hby d10_200) k) ?_
                show GoJ _ _ _ _ _ _ _ _ (T140.setTop (mkF m 201 #[.val (.ref a1), .val (.int p2)] [(.int (0 : Int32)), (.ref b140), (.ref b140), (.ref b138), (.ref b138)]))
                refine GoJ.of (fun t k => XS.aloadN X140.here hx rfl (hb hby d10_201) rfl rfl k) ?_
                show GoJ _ _ _ _ _ _ _ _ (T140.setTop (mkF m 202 #[.val (.ref a1), .val (.int p2)] [(.ref a1), (.int (0 : Int32)), (.ref b140), (.ref b140), (.ref b138), (.ref b138)]))
                refine GoJ.of (fun t k => XS.iconst X140.here hx rfl (hb hby d10_202) k) ?_
                show GoJ _ _ _ _ _ _ _ _ (T140.setTop (mkF m 203 #[.val (.ref a1), .val (.int p2)] [(.int (0 : Int32)), (.ref a1), (.int (0 : Int32)), (.ref b140), (.ref b140), (.ref b138), (.ref b138)]))
                have f142 := ((V1.ext E138).ext E140)
                obtain ⟨cl143, Ar143, q143, S143, N143, H143, G143⟩ := id f142
                have hin144 := inb_of S143 (j := (0 : Int32)) ⟨by decide, by decide⟩
                refine GoJ.of (X140.caload hx (j := (0 : Int32)) (v := (.int u0)) (own_at e140 Ar143.1) (State.isArrayOf_alike hZ.alike Ar143.2.1) Ar143.2.2 hin144 (H143.at hin144 rfl) (g := (mkF m 203 #[.val (.ref a1), .val (.int p2)] [(.int (0 : Int32)), (.ref a1), (.int (0 : Int32)), (.ref b140), (.ref b140), (.ref b138), (.ref b138)])) rfl rfl (hb hby d10_203)) ?_
                show GoJ _ _ _ _ _ _ _ _ (T140.setTop (mkF m 204 #[.val (.ref a1), .val (.int p2)] [(.int u0), (.int (0 : Int32)), (.ref b140), (.ref b140), (.ref b138), (.ref b138)]))
                obtain ⟨cl145, Ar145, q145, S145, N145', H145, G145⟩ := id V140
                have hin145 := inb_of S145 (j := (0 : Int32)) ⟨by decide, by decide⟩
                obtain ⟨T145, h145, X145, e145, W145, st145⟩ := stC X140 hx hZ e140 Ar145 (j := (0 : Int32)) hin145 (g := (mkF m 204 #[.val (.ref a1), .val (.int p2)] [(.int u0), (.int (0 : Int32)), (.ref b140), (.ref b140), (.ref b138), (.ref b138)])) rfl rfl (hb hby d10_204)
                have V145 : Arv Z h145 b140 k140 .char (6 : Int32) [(.int (nar .char u0)), (.int (0 : Int32)), (.int (0 : Int32)), (.int (0 : Int32)), (.int (0 : Int32)), (.int (0 : Int32))] (.int (0 : Int32)) := Arv.set Ar145 q145 S145 N145' H145 G145 (fits_nar_char _) W145 0 rfl (Nat.le_of_ble_eq_true rfl)
                refine GoJ.of st145 ?_
                have hs146 : h140.size ≤ h145.size := Nat.le_of_eq W145.size.symm
                have N145 := Fr.snoc X145 N0 (by omega)
                show GoJ _ _ _ _ _ _ _ _ (T145.setTop (mkF m 205 #[.val (.ref a1), .val (.int p2)] [(.ref b140), (.ref b138), (.ref b138)]))
                refine GoJ.of (fun t k => XS.dup X145.here hx rfl (hb hby d10_205) rfl rfl k) ?_
                show GoJ _ _ _ _ _ _ _ _ (T145.setTop (mkF m 206 #[.val (.ref a1), .val (.int p2)] [(.ref b140), (.ref b140), (.ref b138), (.ref b138)]))
                refine GoJ.of (fun t k => XS.iconst X145.here hx rfl (hb hby d10_206) k) ?_
                show GoJ _ _ _ _ _ _ _ _ (T145.setTop (mkF m 207 #[.val (.ref a1), .val (.int p2)] [(.int (1 : Int32)), (.ref b140), (.ref b140), (.ref b138), (.ref b138)]))
                refine GoJ.of (fun t k => XS.aloadN X145.here hx rfl (hb hby d10_207) rfl rfl k) ?_
                show GoJ _ _ _ _ _ _ _ _ (T145.setTop (mkF m 208 #[.val (.ref a1), .val (.int p2)] [(.ref a1), (.int (1 : Int32)), (.ref b140), (.ref b140), (.ref b138), (.ref b138)]))
                refine GoJ.of (fun t k => XS.iconst X145.here hx rfl (hb hby d10_208) k) ?_
                show GoJ _ _ _ _ _ _ _ _ (T145.setTop (mkF m 209 #[.val (.ref a1), .val (.int p2)] [(.int (1 : Int32)), (.ref a1), (.int (1 : Int32)), (.ref b140), (.ref b140), (.ref b138), (.ref b138)]))
                have f147 := (f142.other W145 (by omega : a1 ≠ b140))
                obtain ⟨cl148, Ar148, q148, S148, N148, H148, G148⟩ := id f147
                have hin149 := inb_of S148 (j := (1 : Int32)) ⟨by decide, by decide⟩
                refine GoJ.of (X145.caload hx (j := (1 : Int32)) (v := (.int u1)) (own_at e145 Ar148.1) (State.isArrayOf_alike hZ.alike Ar148.2.1) Ar148.2.2 hin149 (H148.at hin149 rfl) (g := (mkF m 209 #[.val (.ref a1), .val (.int p2)] [(.int (1 : Int32)), (.ref a1), (.int (1 : Int32)), (.ref b140), (.ref b140), (.ref b138), (.ref b138)])) rfl rfl (hb hby d10_209)) ?_
                show GoJ _ _ _ _ _ _ _ _ (T145.setTop (mkF m 210 #[.val (.ref a1), .val (.int p2)] [(.int u1), (.int (1 : Int32)), (.ref b140), (.ref b140), (.ref b138), (.ref b138)]))
                obtain ⟨cl150, Ar150, q150, S150, N150', H150, G150⟩ := id V145
                have hin150 := inb_of S150 (j := (1 : Int32)) ⟨by decide, by decide⟩
                obtain ⟨T150, h150, X150, e150, W150, st150⟩ := stC X145 hx hZ e145 Ar150 (j := (1 : Int32)) hin150 (g := (mkF m 210 #[.val (.ref a1), .val (.int p2)] [(.int u1), (.int (1 : Int32)), (.ref b140), (.ref b140), (.ref b138), (.ref b138)])) rfl rfl (hb hby d10_210)
                have V150 : Arv Z h150 b140 k140 .char (6 : Int32) [(.int (nar .char u0)), (.int (nar .char u1)), (.int (0 : Int32)), (.int (0 : Int32)), (.int (0 : Int32)), (.int (0 : Int32))] (.int (0 : Int32)) := Arv.set Ar150 q150 S150 N150' H150 G150 (fits_nar_char _) W150 1 rfl (Nat.le_of_ble_eq_true rfl)
                refine GoJ.of st150 ?_
                have hs151 : h145.size ≤ h150.size := Nat.le_of_eq W150.size.symm
                have N150 := Fr.snoc X150 N145 (by omega)
                show GoJ _ _ _ _ _ _ _ _ (T150.setTop (mkF m 211 #[.val (.ref a1), .val (.int p2)] [(.ref b140), (.ref b138), (.ref b138)]))
                refine GoJ.of (fun t k => XS.dup X150.here hx rfl (hb hby d10_211) rfl rfl k) ?_
                show GoJ _ _ _ _ _ _ _ _ (T150.setTop (mkF m 212 #[.val (.ref a1), .val (.int p2)] [(.ref b140), (.ref b140), (.ref b138), (.ref b138)]))
                refine GoJ.of (fun t k => XS.iconst X150.here hx rfl (hb hby d10_212) k) ?_
                show GoJ _ _ _ _ _ _ _ _ (T150.setTop (mkF m 213 #[.val (.ref a1), .val (.int p2)] [(.int (2 : Int32)), (.ref b140), (.ref b140), (.ref b138), (.ref b138)]))
                refine GoJ.of (fun t k => XS.aloadN X150.here hx rfl (hb hby d10_213) rfl rfl k) ?_
                show GoJ _ _ _ _ _ _ _ _ (T150.setTop (mkF m 214 #[.val (.ref a1), .val (.int p2)] [(.ref a1), (.int (2 : Int32)), (.ref b140), (.ref b140), (.ref b138), (.ref b138)]))
                refine GoJ.of (fun t k => XS.iconst X150.here hx rfl (hb hby d10_214) k) ?_
                show GoJ _ _ _ _ _ _ _ _ (T150.setTop (mkF m 215 #[.val (.ref a1), .val (.int p2)] [(.int (2 : Int32)), (.ref a1), (.int (2 : Int32)), (.ref b140), (.ref b140), (.ref b138), (.ref b138)]))
                have f152 := (f147.other W150 (by omega : a1 ≠ b140))
                obtain ⟨cl153, Ar153, q153, S153, N153, H153, G153⟩ := id f152
                have hin154 := inb_of S153 (j := (2 : Int32)) ⟨by decide, by decide⟩
                refine GoJ.of (X150.caload hx (j := (2 : Int32)) (v := (.int u2)) (own_at e150 Ar153.1) (State.isArrayOf_alike hZ.alike Ar153.2.1) Ar153.2.2 hin154 (H153.at hin154 rfl) (g := (mkF m 215 #[.val (.ref a1), .val (.int p2)] [(.int (2 : Int32)), (.ref a1), (.int (2 : Int32)), (.ref b140), (.ref b140), (.ref b138), (.ref b138)])) rfl rfl (hb hby d10_215)) ?_
                show GoJ _ _ _ _ _ _ _ _ (T150.setTop (mkF m 216 #[.val (.ref a1), .val (.int p2)] [(.int u2), (.int (2 : Int32)), (.ref b140), (.ref b140), (.ref b138), (.ref b138)]))
                obtain ⟨cl155, Ar155, q155, S155, N155', H155, G155⟩ := id V150
                have hin155 := inb_of S155 (j := (2 : Int32)) ⟨by decide, by decide⟩
                obtain ⟨T155, h155, X155, e155, W155, st155⟩ := stC X150 hx hZ e150 Ar155 (j := (2 : Int32)) hin155 (g := (mkF m 216 #[.val (.ref a1), .val (.int p2)] [(.int u2), (.int (2 : Int32)), (.ref b140), (.ref b140), (.ref b138), (.ref b138)])) rfl rfl (hb hby d10_216)
                have V155 : Arv Z h155 b140 k140 .char (6 : Int32) [(.int (nar .char u0)), (.int (nar .char u1)), (.int (nar .char u2)), (.int (0 : Int32)), (.int (0 : Int32)), (.int (0 : Int32))] (.int (0 : Int32)) := Arv.set Ar155 q155 S155 N155' H155 G155 (fits_nar_char _) W155 2 rfl (Nat.le_of_ble_eq_true rfl)
                refine GoJ.of st155 ?_
                have hs156 : h150.size ≤ h155.size := Nat.le_of_eq W155.size.symm
                have N155 := Fr.snoc X155 N150 (by omega)
                show GoJ _ _ _ _ _ _ _ _ (T155.setTop (mkF m 217 #[.val (.ref a1), .val (.int p2)] [(.ref b140), (.ref b138), (.ref b138)]))
                refine GoJ.of (fun t k => XS.dup X155.here hx rfl (hb hby d10_217) rfl rfl k) ?_
                show GoJ _ _ _ _ _ _ _ _ (T155.setTop (mkF m 218 #[.val (.ref a1), .val (.int p2)] [(.ref b140), (.ref b140), (.ref b138), (.ref b138)]))
                refine GoJ.of (fun t k => XS.iconst X155.here hx rfl (hb hby d10_218) k) ?_
                show GoJ _ _ _ _ _ _ _ _ (T155.setTop (mkF m 219 #[.val (.ref a1), .val (.int p2)] [(.int (3 : Int32)), (.ref b140), (.ref b140), (.ref b138), (.ref b138)]))
                refine GoJ.of (fun t k => XS.aloadN X155.here hx rfl (hb hby d10_219) rfl rfl k) ?_
                show GoJ _ _ _ _ _ _ _ _ (T155.setTop (mkF m 220 #[.val (.ref a1), .val (.int p2)] [(.ref a1), (.int (3 : Int32)), (.ref b140), (.ref b140), (.ref b138), (.ref b138)]))
                refine GoJ.of (fun t k => XS.iconst X155.here hx rfl (hb hby d10_220) k) ?_
                show GoJ _ _ _ _ _ _ _ _ (T155.setTop (mkF m 221 #[.val (.ref a1), .val (.int p2)] [(.int (3 : Int32)), (.ref a1), (.int (3 : Int32)), (.ref b140), (.ref b140), (.ref b138), (.ref b138)]))
                have f157 := (f152.other W155 (by omega : a1 ≠ b140))
                obtain ⟨cl158, Ar158, q158, S158, N158, H158, G158⟩ := id f157
                have hin159 := inb_of S158 (j := (3 : Int32)) ⟨by decide, by decide⟩
                refine GoJ.of (X155.caload hx (j := (3 : Int32)) (v := (.int u3)) (own_at e155 Ar158.1) (State.isArrayOf_alike hZ.alike Ar158.2.1) Ar158.2.2 hin159 (H158.at hin159 rfl) (g := (mkF m 221 #[.val (.ref a1), .val (.int p2)] [(.int (3 : Int32)), (.ref a1), (.int (3 : Int32)), (.ref b140), (.ref b140), (.ref b138), (.ref b138)])) rfl rfl (hb hby d10_221)) ?_
                show GoJ _ _ _ _ _ _ _ _ (T155.setTop (mkF m 222 #[.val (.ref a1), .val (.int p2)] [(.int u3), (.int (3 : Int32)), (.ref b140), (.ref b140), (.ref b138), (.ref b138)]))
                obtain ⟨cl160, Ar160, q160, S160, N160', H160, G160⟩ := id V155
                have hin160 := inb_of S160 (j := (3 : Int32)) ⟨by decide, by decide⟩
                obtain ⟨T160, h160, X160, e160, W160, st160⟩ := stC X155 hx hZ e155 Ar160 (j := (3 : Int32)) hin160 (g := (mkF m 222 #[.val (.ref a1), .val (.int p2)] [(.int u3), (.int (3 : Int32)), (.ref b140), (.ref b140), (.ref b138), (.ref b138)])) rfl rfl (hb hby d10_222)
                have V160 : Arv Z h160 b140 k140 .char (6 : Int32) [(.int (nar .char u0)), (.int (nar .char u1)), (.int (nar .char u2)), (.int (nar .char u3)), (.int (0 : Int32)), (.int (0 : Int32))] (.int (0 : Int32)) := Arv.set Ar160 q160 S160 N160' H160 G160 (fits_nar_char _) W160 3 rfl (Nat.le_of_ble_eq_true rfl)
                refine GoJ.of st160 ?_
                have hs161 : h155.size ≤ h160.size := Nat.le_of_eq W160.size.symm
                have N160 := Fr.snoc X160 N155 (by omega)
                show GoJ _ _ _ _ _ _ _ _ (T160.setTop (mkF m 223 #[.val (.ref a1), .val (.int p2)] [(.ref b140), (.ref b138), (.ref b138)]))
                refine GoJ.of (fun t k => XS.dup X160.here hx rfl (hb hby d10_223) rfl rfl k) ?_
                show GoJ _ _ _ _ _ _ _ _ (T160.setTop (mkF m 224 #[.val (.ref a1), .val (.int p2)] [(.ref b140), (.ref b140), (.ref b138), (.ref b138)]))
                refine GoJ.of (fun t k => XS.iconst X160.here hx rfl (hb hby d10_224) k) ?_
                show GoJ _ _ _ _ _ _ _ _ (T160.setTop (mkF m 225 #[.val (.ref a1), .val (.int p2)] [(.int (4 : Int32)), (.ref b140), (.ref b140), (.ref b138), (.ref b138)]))
                refine GoJ.of (fun t k => XS.aloadN X160.here hx rfl (hb hby d10_225) rfl rfl k) ?_
                show GoJ _ _ _ _ _ _ _ _ (T160.setTop (mkF m 226 #[.val (.ref a1), .val (.int p2)] [(.ref a1), (.int (4 : Int32)), (.ref b140), (.ref b140), (.ref b138), (.ref b138)]))
                refine GoJ.of (fun t k => XS.iconst X160.here hx rfl (hb hby d10_226) k) ?_
                show GoJ _ _ _ _ _ _ _ _ (T160.setTop (mkF m 227 #[.val (.ref a1), .val (.int p2)] [(.int (4 : Int32)), (.ref a1), (.int (4 : Int32)), (.ref b140), (.ref b140), (.ref b138), (.ref b138)]))
                have f162 := (f157.other W160 (by omega : a1 ≠ b140))
                obtain ⟨cl163, Ar163, q163, S163, N163, H163, G163⟩ := id f162
                have hin164 := inb_of S163 (j := (4 : Int32)) ⟨by decide, by decide⟩
                refine GoJ.of (X160.caload hx (j := (4 : Int32)) (v := (.int u4)) (own_at e160 Ar163.1) (State.isArrayOf_alike hZ.alike Ar163.2.1) Ar163.2.2 hin164 (H163.at hin164 rfl) (g := (mkF m 227 #[.val (.ref a1), .val (.int p2)] [(.int (4 : Int32)), (.ref a1), (.int (4 : Int32)), (.ref b140), (.ref b140), (.ref b138), (.ref b138)])) rfl rfl (hb hby d10_227)) ?_
                show GoJ _ _ _ _ _ _ _ _ (T160.setTop (mkF m 228 #[.val (.ref a1), .val (.int p2)] [(.int u4), (.int (4 : Int32)), (.ref b140), (.ref b140), (.ref b138), (.ref b138)]))
                obtain ⟨cl165, Ar165, q165, S165, N165', H165, G165⟩ := id V160
                have hin165 := inb_of S165 (j := (4 : Int32)) ⟨by decide, by decide⟩
                obtain ⟨T165, h165, X165, e165, W165, st165⟩ := stC X160 hx hZ e160 Ar165 (j := (4 : Int32)) hin165 (g := (mkF m 228 #[.val (.ref a1), .val (.int p2)] [(.int u4), (.int (4 : Int32)), (.ref b140), (.ref b140), (.ref b138), (.ref b138)])) rfl rfl (hb hby d10_228)
                have V165 : Arv Z h165 b140 k140 .char (6 : Int32) [(.int (nar .char u0)), (.int (nar .char u1)), (.int (nar .char u2)), (.int (nar .char u3)), (.int (nar .char u4)), (.int (0 : Int32))] (.int (0 : Int32)) := Arv.set Ar165 q165 S165 N165' H165 G165 (fits_nar_char _) W165 4 rfl (Nat.le_of_ble_eq_true rfl)
                refine GoJ.of st165 ?_
                have hs166 : h160.size ≤ h165.size := Nat.le_of_eq W165.size.symm
                have N165 := Fr.snoc X165 N160 (by omega)
                show GoJ _ _ _ _ _ _ _ _ (T165.setTop (mkF m 229 #[.val (.ref a1), .val (.int p2)] [(.ref b140), (.ref b138), (.ref b138)]))
                refine GoJ.of (fun t k => XS.dup X165.here hx rfl (hb hby d10_229) rfl rfl k) ?_
                show GoJ _ _ _ _ _ _ _ _ (T165.setTop (mkF m 230 #[.val (.ref a1), .val (.int p2)] [(.ref b140), (.ref b140), (.ref b138), (.ref b138)]))
                refine GoJ.of (fun t k => XS.iconst X165.here hx rfl (hb hby d10_230) k) ?_
                show GoJ _ _ _ _ _ _ _ _ (T165.setTop (mkF m 231 #[.val (.ref a1), .val (.int p2)] [(.int (5 : Int32)), (.ref b140), (.ref b140), (.ref b138), (.ref b138)]))
                refine GoJ.of (fun t k => XS.aloadN X165.here hx rfl (hb hby d10_231) rfl rfl k) ?_
                show GoJ _ _ _ _ _ _ _ _ (T165.setTop (mkF m 232 #[.val (.ref a1), .val (.int p2)] [(.ref a1), (.int (5 : Int32)), (.ref b140), (.ref b140), (.ref b138), (.ref b138)]))
                refine GoJ.of (fun t k => XS.iconst X165.here hx rfl (hb hby d10_232) k) ?_
                show GoJ _ _ _ _ _ _ _ _ (T165.setTop (mkF m 233 #[.val (.ref a1), .val (.int p2)] [(.int (5 : Int32)), (.ref a1), (.int (5 : Int32)), (.ref b140), (.ref b140), (.ref b138), (.ref b138)]))
                have f167 := (f162.other W165 (by omega : a1 ≠ b140))
                obtain ⟨cl168, Ar168, q168, S168, N168, H168, G168⟩ := id f167
                have hin169 := inb_of S168 (j := (5 : Int32)) ⟨by decide, by decide⟩
                refine GoJ.of (X165.caload hx (j := (5 : Int32)) (v := (.int u5)) (own_at e165 Ar168.1) (State.isArrayOf_alike hZ.alike Ar168.2.1) Ar168.2.2 hin169 (H168.at hin169 rfl) (g := (mkF m 233 #[.val (.ref a1), .val (.int p2)] [(.int (5 : Int32)), (.ref a1), (.int (5 : Int32)), (.ref b140), (.ref b140), (.ref b138), (.ref b138)])) rfl rfl (hb hby d10_233)) ?_
                show GoJ _ _ _ _ _ _ _ _ (T165.setTop (mkF m 234 #[.val (.ref a1), .val (.int p2)] [(.int u5), (.int (5 : Int32)), (.ref b140), (.ref b140), (.ref b138), (.ref b138)]))
                obtain ⟨cl170, Ar170, q170, S170, N170', H170, G170⟩ := id V165
                have hin170 := inb_of S170 (j := (5 : Int32)) ⟨by decide, by decide⟩
                obtain ⟨T170, h170, X170, e170, W170, st170⟩ := stC X165 hx hZ e165 Ar170 (j := (5 : Int32)) hin170 (g := (mkF m 234 #[.val (.ref a1), .val (.int p2)] [(.int u5), (.int (5 : Int32)), (.ref b140), (.ref b140), (.ref b138), (.ref b138)])) rfl rfl (hb hby d10_234)
                have V170 : Arv Z h170 b140 k140 .char (6 : Int32) [(.int (nar .char u0)), (.int (nar .char u1)), (.int (nar .char u2)), (.int (nar .char u3)), (.int (nar .char u4)), (.int (nar .char u5))] (.int (0 : Int32)) := Arv.set Ar170 q170 S170 N170' H170 G170 (fits_nar_char _) W170 5 rfl (Nat.le_of_ble_eq_true rfl)
                refine GoJ.of st170 ?_
                have hs171 : h165.size ≤ h170.size := Nat.le_of_eq W170.size.symm
                have N170 := Fr.snoc X170 N165 (by omega)
                show GoJ _ _ _ _ _ _ _ _ (T170.setTop (mkF m 235 #[.val (.ref a1), .val (.int p2)] [(.ref b140), (.ref b138), (.ref b138)]))
                have hcs172 : ∀ c ∈ ([(nar .char u0), (nar .char u1), (nar .char u2), (nar .char u3), (nar .char u4), (nar .char u5)] : List Int32), ¬ c < 0 ∧ ¬ (255 : Int32) < c := by
                  intro c hc
                  simp only [List.mem_cons, List.not_mem_nil, or_false] at hc
                  rcases hc with rfl | rfl | rfl | rfl | rfl | rfl
                  · exact own_narr hu0
                  · exact own_narr hu1
                  · exact own_narr hu2
                  · exact own_narr hu3
                  · exact own_narr hu4
                  · exact own_narr hu5
                have f173 := (((((((A138.ext E140).wr W145).wr W150).wr W155).wr W160).wr W165).wr W170)
                have f174 := (((((((F138_value.ext E140).other W145 (Or.inl (by omega : b138 ≠ b140))).other W150 (Or.inl (by omega : b138 ≠ b140))).other W155 (Or.inl (by omega : b138 ≠ b140))).other W160 (Or.inl (by omega : b138 ≠ b140))).other W165 (Or.inl (by omega : b138 ≠ b140))).other W170 (Or.inl (by omega : b138 ≠ b140)))
                have f175 := (((((((F138_coder.ext E140).other W145 (Or.inl (by omega : b138 ≠ b140))).other W150 (Or.inl (by omega : b138 ≠ b140))).other W155 (Or.inl (by omega : b138 ≠ b140))).other W160 (Or.inl (by omega : b138 ≠ b140))).other W165 (Or.inl (by omega : b138 ≠ b140))).other W170 (Or.inl (by omega : b138 ≠ b140)))
                have f176 := ((((((((O0.ext E138).ext E140).wr W145 (by omega)).wr W150 (by omega)).wr W155 (by omega)).wr W160 (by omega)).wr W165 (by omega)).wr W170 (by omega))
                obtain ⟨v177, _, ⟨T177, L177, k177, n177⟩, -, X177, ⟨Lc177, hQ177, l177, y177, z177⟩, st177⟩ := X170.specialBack hx (y := (⟨"java/lang/String", "<init>", "([C)V"⟩ : MethodName)) rfl hown (mvT hZ (own_w hw 56 rfl)) (mvT hZ (own_w hw 57 rfl)) (mvT hZ (own_w hw 58 rfl)) (by decide) (StrChars.Road.backV (W := 1) hZ (own_words hw) (kI := 4) (own_w hw 7 rfl) (cs := ([(nar .char u0), (nar .char u1), (nar .char u2), (nar .char u3), (nar .char u4), (nar .char u5)] : List Int32)) (bs := ([(nar .char u0), (nar .char u1), (nar .char u2), (nar .char u3), (nar .char u4), (nar .char u5)] : List Int32).map (fun c => c.toInt8.toInt32)) (n := 6) (n0 := n0) (by omega) (by omega) f173 f174 f175 V170 (S_cs.ext f176.2) hcs rfl rfl (by decide) (by decide) hcs172 rfl (by decide) (by decide)) (g := (mkF m 235 #[.val (.ref a1), .val (.int p2)] [(.ref b140), (.ref b138), (.ref b138)])) rfl (by rw [hml]; rfl) (Steps.refl _) (a := b138) (argsL := [(.ref b140)]) (rest := [(.ref b138)]) (lenOf pd_3 rfl) rfl (by show 2 * 0 + _ ≤ _; exact Nat.le_of_eq rfl) (hb hby d10_235) (fun _ _ => ⟨rfl, e170, (by decide : 2 + 1 ≤ _), (by decide : 10 + 6 ≤ _)⟩)
                dsimp only [Pt.U, Pt.locs, Pt.cells, Pt.slots] at X177 l177 y177 z177 st177 hQ177
                replace y177 : k177 = 3 := y177.trans (by decide)
                replace z177 : n177 = 16 := z177.trans (by decide)
                subst l177 y177 z177
                obtain ⟨rfl, N177q, K177, Ex177, Fc177, t177, kb177, -, -, -, Fv177, Va177⟩ := hQ177
                have N177 := Fr.app N170 N177q
                refine GoJ.tr st177 ?_
                have hs178 : h170.size ≤ T177.heap.size := K177.1
                have Sn177 : own_Str Z T177.heap b138 ([(nar .char u0), (nar .char u1), (nar .char u2), (nar .char u3), (nar .char u4), (nar .char u5)] : List Int32) := ⟨t177, kb177, Ex177, Fv177, Fc177, Va177, Nat.le_of_ble_eq_true rfl, hcs172⟩
                show GoJ _ _ _ _ _ _ _ _ (T177.setTop (mkF m 238 #[.val (.ref a1), .val (.int p2)] [(.ref b138)]))
                refine GoJ.out X177 hS (by omega) (own_J.keep hJ ((((((((((Keep.refl h0 []).ext E138).ext E140).wr W145 (Or.inr (by omega))).wr W150 (Or.inr (by omega))).wr W155 (Or.inr (by omega))).wr W160 (Or.inr (by omega))).wr W165 (Or.inr (by omega))).wr W170 (Or.inr (by omega))).trans K177 (allS (Or.inr (by omega)) all0))) (v := some (.ref b138)) (fun h => by rw [Bd.returns] at h; cases h) hlk (fun fs hr => retOut X177 hx (t := (.object "java/lang/String")) Bd.returns rfl (Or.inr (Or.inr (Or.inr (Or.inr ⟨rfl, rfl, rfl⟩)))) (hb hby d10_238) hr) ?_ (by decide) (by decide)
                show Q10 Z a1 p2 cs h0 n0 _ T177.heap _
                exact ⟨b138, _, rfl, N177, ((((((((((Keep.refl h0 []).ext E138).ext E140).wr W145 (Or.inr (by omega))).wr W150 (Or.inr (by omega))).wr W155 (Or.inr (by omega))).wr W160 (Or.inr (by omega))).wr W165 (Or.inr (by omega))).wr W170 (Or.inr (by omega))).trans K177 (allS (Or.inr (by omega)) all0)), Sn177⟩
              · skip
                refine GoJ.of (fun t k => XS.icmpYes X0.here hx rfl (pc0 := 188) (pc' := 239) rfl (hb hby d10_188) rfl (feq hc188_137).2 (by decide) (by decide) k) ?_
                show GoJ _ _ _ _ _ _ _ _ (s₁.setTop (mkF m 239 #[.val (.ref a1), .val (.int p2)] []))
                refine GoJ.of (fun t k => XS.iloadN X0.here hx rfl (hb hby d10_239) rfl k) ?_
                show GoJ _ _ _ _ _ _ _ _ (s₁.setTop (mkF m 240 #[.val (.ref a1), .val (.int p2)] [(.int p2)]))
                refine GoJ.of (fun t k => XS.bipush X0.here hx rfl (hb hby d10_240) k) ?_
                show GoJ _ _ _ _ _ _ _ _ (s₁.setTop (mkF m 242 #[.val (.ref a1), .val (.int p2)] [(.int (7 : Int32)), (.int p2)]))
                by_cases hc242_179 : p2 = (7 : Int32)
                · skip
                  refine GoJ.of (fun t k => XS.icmpNo X0.here hx rfl (hb hby d10_242) rfl (teq hc242_179).2 k) ?_
                  show GoJ _ _ _ _ _ _ _ _ (s₁.setTop (mkF m 245 #[.val (.ref a1), .val (.int p2)] []))
                  obtain ⟨T180, h180, X180, e180, E180, A180, D180, -, st180⟩ := newO X0 hx hZ hown (own_w hw 55 rfl) (own_w hw 7 rfl) (own_w hw 6 rfl) e0 (g := (mkF m 245 #[.val (.ref a1), .val (.int p2)] [])) rfl (hb hby d10_245) (by decide) (by decide)
                  obtain ⟨b180, g180⟩ : ∃ z, z = h0.size := ⟨_, rfl⟩
                  rw [← g180] at A180 D180 st180
                  have lt180 : b180 < h180.size := A180.lt
                  refine GoJ.of st180 ?_
                  have hs181 : h0.size ≤ h180.size := E180.1
                  have F180_value : Fld Z h180 b180 "java/lang/String" "value" "[B" .null := D180 (Or.inr (own_w hw 9 rfl)) (ty := (.array .byte)) (by decide)
                  have F180_coder : Fld Z h180 b180 "java/lang/String" "coder" "B" (.int (0 : Int32)) := D180 (Or.inr (own_w hw 10 rfl)) (ty := .byte) (by decide)
                  show GoJ _ _ _ _ _ _ _ _ (T180.setTop (mkF m 248 #[.val (.ref a1), .val (.int p2)] [(.ref b180)]))
                  refine GoJ.of (fun t k => XS.dup X180.here hx rfl (hb hby d10_248) rfl rfl k) ?_
                  show GoJ _ _ _ _ _ _ _ _ (T180.setTop (mkF m 249 #[.val (.ref a1), .val (.int p2)] [(.ref b180), (.ref b180)]))
                  refine GoJ.of (fun t k => XS.bipush X180.here hx rfl (hb hby d10_249) k) ?_
                  show GoJ _ _ _ _ _ _ _ _ (T180.setTop (mkF m 251 #[.val (.ref a1), .val (.int p2)] [(.int (7 : Int32)), (.ref b180), (.ref b180)]))
                  obtain ⟨T182, h182, k182, X182, e182, E182, A182, st182⟩ := newP X180 hx hZ (own_w hw 26 rfl) e180 (g := (mkF m 251 #[.val (.ref a1), .val (.int p2)] [(.int (7 : Int32)), (.ref b180), (.ref b180)])) rfl (hb hby d10_251) rfl (by decide) (cap := 7) (by decide) (by decide) (by decide) (by decide)
                  obtain ⟨b182, g182⟩ : ∃ z, z = h180.size := ⟨_, rfl⟩
                  rw [← g182] at A182 st182
                  have lt182 : b182 < h182.size := A182.lt
                  refine GoJ.of st182 ?_
                  have hs183 : h180.size ≤ h182.size := E182.1
                  have V182 : Arv Z h182 b182 k182 .char (7 : Int32) [(.int (0 : Int32)), (.int (0 : Int32)), (.int (0 : Int32)), (.int (0 : Int32)), (.int (0 : Int32)), (.int (0 : Int32)), (.int (0 : Int32))] (.int (0 : Int32)) := (Arv.new A182 (by decide)).pad (pad_rep [] (.int (0 : Int32)) 7)
                  show GoJ _ _ _ _ _ _ _ _ (T182.setTop (mkF m 253 #[.val (.ref a1), .val (.int p2)] [(.ref b182), (.ref b180), (.ref b180)]))
                  refine GoJ.of (fun t k => XS.dup X182.here hx rfl (hb hby d10_253) rfl rfl k) ?_
                  show GoJ _ _ _ _ _ _ _ _ (T182.setTop (mkF m 254 #[.val (.ref a1), .val (.int p2)] [(.ref b182), (.ref b182), (.ref b180), (.ref b180)]))
                  refine GoJ.of (fun t k => XS.iconst X182.here hx rfl (hb hby d10_254) k) ?_
                  show GoJ _ _ _ _ _ _ _ _ (T182.setTop (mkF m 255 #[.val (.ref a1), .val (.int p2)] [(.int (0 : Int32)), (.ref b182), (.ref b182), (.ref b180), (.ref b180)]))
                  refine GoJ.of (fun t k => XS.aloadN X182.here hx rfl (hb hby d10_255) rfl rfl k) ?_
                  show GoJ _ _ _ _ _ _ _ _ (T182.setTop (mkF m 256 #[.val (.ref a1), .val (.int p2)] [(.ref a1), (.int (0 : Int32)), (.ref b182), (.ref b182), (.ref b180), (.ref b180)]))
                  refine GoJ.of (fun t k => XS.iconst X182.here hx rfl (hb hby d10_256) k) ?_
                  show GoJ _ _ _ _ _ _ _ _ (T182.setTop (mkF m 257 #[.val (.ref a1), .val (.int p2)] [(.int (0 : Int32)), (.ref a1), (.int (0 : Int32)), (.ref b182), (.ref b182), (.ref b180), (.ref b180)]))
                  have f184 := ((V1.ext E180).ext E182)
                  obtain ⟨cl185, Ar185, q185, S185, N185, H185, G185⟩ := id f184
                  have hin186 := inb_of S185 (j := (0 : Int32)) ⟨by decide, by decide⟩
                  refine GoJ.of (X182.caload hx (j := (0 : Int32)) (v := (.int u0)) (own_at e182 Ar185.1) (State.isArrayOf_alike hZ.alike Ar185.2.1) Ar185.2.2 hin186 (H185.at hin186 rfl) (g := (mkF m 257 #[.val (.ref a1), .val (.int p2)] [(.int (0 : Int32)), (.ref a1), (.int (0 : Int32)), (.ref b182), (.ref b182), (.ref b180), (.ref b180)])) rfl rfl (hb hby d10_257)) ?_
                  show GoJ _ _ _ _ _ _ _ _ (T182.setTop (mkF m 258 #[.val (.ref a1), .val (.int p2)] [(.int u0), (.int (0 : Int32)), (.ref b182), (.ref b182), (.ref b180), (.ref b180)]))
                  obtain ⟨cl187, Ar187, q187, S187, N187', H187, G187⟩ := id V182
                  have hin187 := inb_of S187 (j := (0 : Int32)) ⟨by decide, by decide⟩
                  obtain ⟨T187, h187, X187, e187, W187, st187⟩ := stC X182 hx hZ e182 Ar187 (j := (0 : Int32)) hin187 (g := (mkF m 258 #[.val (.ref a1), .val (.int p2)] [(.int u0), (.int (0 : Int32)), (.ref b182), (.ref b182), (.ref b180), (.ref b180)])) rfl rfl (hb hby d10_258)
                  have V187 : Arv Z h187 b182 k182 .char (7 : Int32) [(.int (nar .char u0)), (.int (0 : Int32)), (.int (0 : Int32)), (.int (0 : Int32)), (.int (0 : Int32)), (.int (0 : Int32)), (.int (0 : Int32))] (.int (0 : Int32)) := Arv.set Ar187 q187 S187 N187' H187 G187 (fits_nar_char _) W187 0 rfl (Nat.le_of_ble_eq_true rfl)
                  refine GoJ.of st187 ?_
                  have hs188 : h182.size ≤ h187.size := Nat.le_of_eq W187.size.symm
                  have N187 := Fr.snoc X187 N0 (by omega)
                  show GoJ _ _ _ _ _ _ _ _ (T187.setTop (mkF m 259 #[.val (.ref a1), .val (.int p2)] [(.ref b182), (.ref b180), (.ref b180)]))
                  refine GoJ.of (fun t k => XS.dup X187.here hx rfl (hb hby d10_259) rfl rfl k) ?_
                  show GoJ _ _ _ _ _ _ _ _ (T187.setTop (mkF m 260 #[.val (.ref a1), .val (.int p2)] [(.ref b182), (.ref b182), (.ref b180), (.ref b180)]))
                  refine GoJ.of (fun t k => XS.iconst X187.here hx rfl (hb hby d10_260) k) ?_
                  show GoJ _ _ _ _ _ _ _ _ (T187.setTop (mkF m 261 #[.val (.ref a1), .val (.int p2)] [(.int (1 : Int32)), (.ref b182), (.ref b182), (.ref b180), (.ref b180)]))
                  refine GoJ.of (fun t k => XS.aloadN X187.here hx rfl (hb hby d10_261) rfl rfl k) ?_
                  show GoJ _ _ _ _ _ _ _ _ (T187.setTop (mkF m 262 #[.val (.ref a1), .val (.int p2)] [(.ref a1), (.int (1 : Int32)), (.ref b182), (.ref b182), (.ref b180), (.ref b180)]))
                  refine GoJ.of (fun t k => XS.iconst X187.here hx rfl (hb hby d10_262) k) ?_
                  show GoJ _ _ _ _ _ _ _ _ (T187.setTop (mkF m 263 #[.val (.ref a1), .val (.int p2)] [(.int (1 : Int32)), (.ref a1), (.int (1 : Int32)), (.ref b182), (.ref b182), (.ref b180), (.ref b180)]))
                  have f189 := (f184.other W187 (by omega : a1 ≠ b182))
                  obtain ⟨cl190, Ar190, q190, S190, N190, H190, G190⟩ := id f189
                  have hin191 := inb_of S190 (j := (1 : Int32)) ⟨by decide, by decide⟩
                  refine GoJ.of (X187.caload hx (j := (1 : Int32)) (v := (.int u1)) (own_at e187 Ar190.1) (State.isArrayOf_alike hZ.alike Ar190.2.1) Ar190.2.2 hin191 (H190.at hin191 rfl) (g := (mkF m 263 #[.val (.ref a1), .val (.int p2)] [(.int (1 : Int32)), (.ref a1), (.int (1 : Int32)), (.ref b182), (.ref b182), (.ref b180), (.ref b180)])) rfl rfl (hb hby d10_263)) ?_
                  show GoJ _ _ _ _ _ _ _ _ (T187.setTop (mkF m 264 #[.val (.ref a1), .val (.int p2)] [(.int u1), (.int (1 : Int32)), (.ref b182), (.ref b182), (.ref b180), (.ref b180)]))
                  obtain ⟨cl192, Ar192, q192, S192, N192', H192, G192⟩ := id V187
                  have hin192 := inb_of S192 (j := (1 : Int32)) ⟨by decide, by decide⟩
                  obtain ⟨T192, h192, X192, e192, W192, st192⟩ := stC X187 hx hZ e187 Ar192 (j := (1 : Int32)) hin192 (g := (mkF m 264 #[.val (.ref a1), .val (.int p2)] [(.int u1), (.int (1 : Int32)), (.ref b182), (.ref b182), (.ref b180), (.ref b180)])) rfl rfl (hb hby d10_264)
                  have V192 : Arv Z h192 b182 k182 .char (7 : Int32) [(.int (nar .char u0)), (.int (nar .char u1)), (.int (0 : Int32)), (.int (0 : Int32)), (.int (0 : Int32)), (.int (0 : Int32)), (.int (0 : Int32))] (.int (0 : Int32)) := Arv.set Ar192 q192 S192 N192' H192 G192 (fits_nar_char _) W192 1 rfl (Nat.le_of_ble_eq_true rfl)
                  refine GoJ.of st192 ?_
                  have hs193 : h187.size ≤ h192.size := Nat.le_of_eq W192.size.symm
                  have N192 := Fr.snoc X192 N187 (by omega)
                  show GoJ _ _ _ _ _ _ _ _ (T192.setTop (mkF m 265 #[.val (.ref a1), .val (.int p2)] [(.ref b182), (.ref b180), (.ref b180)]))
                  refine GoJ.of (fun t k => XS.dup X192.here hx rfl (hb hby d10_265) rfl rfl k) ?_
                  show GoJ _ _ _ _ _ _ _ _ (T192.setTop (mkF m 266 #[.val (.ref a1), .val (.int p2)] [(.ref b182), (.ref b182), (.ref b180), (.ref b180)]))
                  refine GoJ.of (fun t k => XS.iconst X192.here hx rfl (hb hby d10_266) k) ?_
                  show GoJ _ _ _ _ _ _ _ _ (T192.setTop (mkF m 267 #[.val (.ref a1), .val (.int p2)] [(.int (2 : Int32)), (.ref b182), (.ref b182), (.ref b180), (.ref b180)]))
                  refine GoJ.of (fun t k => XS.aloadN X192.here hx rfl (hb hby d10_267) rfl rfl k) ?_
                  show GoJ _ _ _ _ _ _ _ _ (T192.setTop (mkF m 268 #[.val (.ref a1), .val (.int p2)] [(.ref a1), (.int (2 : Int32)), (.ref b182), (.ref b182), (.ref b180), (.ref b180)]))
                  refine GoJ.of (fun t k => XS.iconst X192.here hx rfl (hb hby d10_268) k) ?_
                  show GoJ _ _ _ _ _ _ _ _ (T192.setTop (mkF m 269 #[.val (.ref a1), .val (.int p2)] [(.int (2 : Int32)), (.ref a1), (.int (2 : Int32)), (.ref b182), (.ref b182), (.ref b180), (.ref b180)]))
                  have f194 := (f189.other W192 (by omega : a1 ≠ b182))
                  obtain ⟨cl195, Ar195, q195, S195, N195, H195, G195⟩ := id f194
                  have hin196 := inb_of S195 (j := (2 : Int32)) ⟨by decide, by decide⟩
                  refine GoJ.of (X192.caload hx (j := (2 : Int32)) (v := (.int u2)) (own_at e192 Ar195.1) (State.isArrayOf_alike hZ.alike Ar195.2.1) Ar195.2.2 hin196 (H195.at hin196 rfl) (g := (mkF m 269 #[.val (.ref a1), .val (.int p2)] [(.int (2 : Int32)), (.ref a1), (.int (2 : Int32)), (.ref b182), (.ref b182), (.ref b180), (.ref b180)])) rfl rfl (hb hby d10_269)) ?_
                  show GoJ _ _ _ _ _ _ _ _ (T192.setTop (mkF m 270 #[.val (.ref a1), .val (.int p2)] [(.int u2), (.int (2 : Int32)), (.ref b182), (.ref b182), (.ref b180), (.ref b180)]))
                  obtain ⟨cl197, Ar197, q197, S197, N197', H197, G197⟩ := id V192
                  have hin197 := inb_of S197 (j := (2 : Int32)) ⟨by decide, by decide⟩
                  obtain ⟨T197, h197, X197, e197, W197, st197⟩ := stC X192 hx hZ e192 Ar197 (j := (2 : Int32)) hin197 (g := (mkF m 270 #[.val (.ref a1), .val (.int p2)] [(.int u2), (.int (2 : Int32)), (.ref b182), (.ref b182), (.ref b180), (.ref b180)])) rfl rfl (hb hby d10_270)
                  have V197 : Arv Z h197 b182 k182 .char (7 : Int32) [(.int (nar .char u0)), (.int (nar .char u1)), (.int (nar .char u2)), (.int (0 : Int32)), (.int (0 : Int32)), (.int (0 : Int32)), (.int (0 : Int32))] (.int (0 : Int32)) := Arv.set Ar197 q197 S197 N197' H197 G197 (fits_nar_char _) W197 2 rfl (Nat.le_of_ble_eq_true rfl)
                  refine GoJ.of st197 ?_
                  have hs198 : h192.size ≤ h197.size := Nat.le_of_eq W197.size.symm
                  have N197 := Fr.snoc X197 N192 (by omega)
                  show GoJ _ _ _ _ _ _ _ _ (T197.setTop (mkF m 271 #[.val (.ref a1), .val (.int p2)] [(.ref b182), (.ref b180), (.ref b180)]))
                  refine GoJ.of (fun t k => XS.dup X197.here hx rfl (hb hby d10_271) rfl rfl k) ?_
                  show GoJ _ _ _ _ _ _ _ _ (T197.setTop (mkF m 272 #[.val (.ref a1), .val (.int p2)] [(.ref b182), (.ref b182), (.ref b180), (.ref b180)]))
                  refine GoJ.of (fun t k => XS.iconst X197.here hx rfl (hb hby d10_272) k) ?_
                  show GoJ _ _ _ _ _ _ _ _ (T197.setTop (mkF m 273 #[.val (.ref a1), .val (.int p2)] [(.int (3 : Int32)), (.ref b182), (.ref b182), (.ref b180), (.ref b180)]))
                  refine GoJ.of (fun t k => XS.aloadN X197.here hx rfl (hb hby d10_273) rfl rfl k) ?_
                  show GoJ _ _ _ _ _ _ _ _ (T197.setTop (mkF m 274 #[.val (.ref a1), .val (.int p2)] [(.ref a1), (.int (3 : Int32)), (.ref b182), (.ref b182), (.ref b180), (.ref b180)]))
                  refine GoJ.of (fun t k => XS.iconst X197.here hx rfl (hb hby d10_274) k) ?_
                  show GoJ _ _ _ _ _ _ _ _ (T197.setTop (mkF m 275 #[.val (.ref a1), .val (.int p2)] [(.int (3 : Int32)), (.ref a1), (.int (3 : Int32)), (.ref b182), (.ref b182), (.ref b180), (.ref b180)]))
                  have f199 := (f194.other W197 (by omega : a1 ≠ b182))
                  obtain ⟨cl200, Ar200, q200, S200, N200, H200, G200⟩ := id f199
                  have hin201 := inb_of S200 (j := (3 : Int32)) ⟨by decide, by decide⟩
                  refine GoJ.of (X197.caload hx (j := (3 : Int32)) (v := (.int u3)) (own_at e197 Ar200.1) (State.isArrayOf_alike hZ.alike Ar200.2.1) Ar200.2.2 hin201 (H200.at hin201 rfl) (g := (mkF m 275 #[.val (.ref a1), .val (.int p2)] [(.int (3 : Int32)), (.ref a1), (.int (3 : Int32)), (.ref b182), (.ref b182), (.ref b180), (.ref b180)])) rfl rfl (hb hby d10_275)) ?_
                  show GoJ _ _ _ _ _ _ _ _ (T197.setTop (mkF m 276 #[.val (.ref a1), .val (.int p2)] [(.int u3), (.int (3 : Int32)), (.ref b182), (.ref b182), (.ref b180), (.ref b180)]))
                  obtain ⟨cl202, Ar202, q202, S202, N202', H202, G202⟩ := id V197
                  have hin202 := inb_of S202 (j := (3 : Int32)) ⟨by decide, by decide⟩
                  obtain ⟨T202, h202, X202, e202, W202, st202⟩ := stC X197 hx hZ e197 Ar202 (j := (3 : Int32)) hin202 (g := (mkF m 276 #[.val (.ref a1), .val (.int p2)] [(.int u3), (.int (3 : Int32)), (.ref b182), (.ref b182), (.ref b180), (.ref b180)])) rfl rfl (hb hby d10_276)
                  have V202 : Arv Z h202 b182 k182 .char (7 : Int32) [(.int (nar .char u0)), (.int (nar .char u1)), (.int (nar .char u2)), (.int (nar .char u3)), (.int (0 : Int32)), (.int (0 : Int32)), (.int (0 : Int32))] (.int (0 : Int32)) := Arv.set Ar202 q202 S202 N202' H202 G202 (fits_nar_char _) W202 3 rfl (Nat.le_of_ble_eq_true rfl)
                  refine GoJ.of st202 ?_
                  have hs203 : h197.size ≤ h202.size := Nat.le_of_eq W202.size.symm
                  have N202 := Fr.snoc X202 N197 (by omega)
                  show GoJ _ _ _ _ _ _ _ _ (T202.setTop (mkF m 277 #[.val (.ref a1), .val (.int p2)] [(.ref b182), (.ref b180), (.ref b180)]))
                  refine GoJ.of (fun t k => XS.dup X202.here hx rfl (hb hby d10_277) rfl rfl k) ?_
                  show GoJ _ _ _ _ _ _ _ _ (T202.setTop (mkF m 278 #[.val (.ref a1), .val (.int p2)] [(.ref b182), (.ref b182), (.ref b180), (.ref b180)]))
                  refine GoJ.of (fun t k => XS.iconst X202.here hx rfl (hb hby d10_278) k) ?_
                  show GoJ _ _ _ _ _ _ _ _ (T202.setTop (mkF m 279 #[.val (.ref a1), .val (.int p2)] [(.int (4 : Int32)), (.ref b182), (.ref b182), (.ref b180), (.ref b180)]))
                  refine GoJ.of (fun t k => XS.aloadN X202.here hx rfl (hb hby d10_279) rfl rfl k) ?_
                  show GoJ _ _ _ _ _ _ _ _ (T202.setTop (mkF m 280 #[.val (.ref a1), .val (.int p2)] [(.ref a1), (.int (4 : Int32)), (.ref b182), (.ref b182), (.ref b180), (.ref b180)]))
                  refine GoJ.of (fun t k => XS.iconst X202.here hx rfl (hb hby d10_280) k) ?_
                  show GoJ _ _ _ _ _ _ _ _ (T202.setTop (mkF m 281 #[.val (.ref a1), .val (.int p2)] [(.int (4 : Int32)), (.ref a1), (.int (4 : Int32)), (.ref b182), (.ref b182), (.ref b180), (.ref b180)]))
                  have f204 := (f199.other W202 (by omega : a1 ≠ b182))
                  obtain ⟨cl205, Ar205, q205, S205, N205, H205, G205⟩ := id f204
                  have hin206 := inb_of S205 (j := (4 : Int32)) ⟨by decide, by decide⟩
                  refine GoJ.of (X202.caload hx (j := (4 : Int32)) (v := (.int u4)) (own_at e202 Ar205.1) (State.isArrayOf_alike hZ.alike Ar205.2.1) Ar205.2.2 hin206 (H205.at hin206 rfl) (g := (mkF m 281 #[.val (.ref a1), .val (.int p2)] [(.int (4 : Int32)), (.ref a1), (.int (4 : Int32)), (.ref b182), (.ref b182), (.ref b180), (.ref b180)])) rfl rfl (hb hby d10_281)) ?_
                  show GoJ _ _ _ _ _ _ _ _ (T202.setTop (mkF m 282 #[.val (.ref a1), .val (.int p2)] [(.int u4), (.int (4 : Int32)), (.ref b182), (.ref b182), (.ref b180), (.ref b180)]))
                  obtain ⟨cl207, Ar207, q207, S207, N207', H207, G207⟩ := id V202
                  have hin207 := inb_of S207 (j := (4 : Int32)) ⟨by decide, by decide⟩
                  obtain ⟨T207, h207, X207, e207, W207, st207⟩ := stC X202 hx hZ e202 Ar207 (j := (4 : Int32)) hin207 (g := (mkF m 282 #[.val (.ref a1), .val (.int p2)] [(.int u4), (.int (4 : Int32)), (.ref b182), (.ref b182), (.ref b180), (.ref b180)])) rfl rfl (hb hby d10_282)
                  have V207 : Arv Z h207 b182 k182 .char (7 : Int32) [(.int (nar .char u0)), (.int (nar .char u1)), (.int (nar .char u2)), (.int (nar .char u3)), (.int (nar .char u4)), (.int (0 : Int32)), (.int (0 : Int32))] (.int (0 : Int32)) := Arv.set Ar207 q207 S207 N207' H207 G207 (fits_nar_char _) W207 4 rfl (Nat.le_of_ble_eq_true rfl)
                  refine GoJ.of st207 ?_
                  have hs208 : h202.size ≤ h207.size := Nat.le_of_eq W207.size.symm
                  have N207 := Fr.snoc X207 N202 (by omega)
                  show GoJ _ _ _ _ _ _ _ _ (T207.setTop (mkF m 283 #[.val (.ref a1), .val (.int p2)] [(.ref b182), (.ref b180), (.ref b180)]))
                  refine GoJ.of (fun t k => XS.dup X207.here hx rfl (hb hby d10_283) rfl rfl k) ?_
                  show GoJ _ _ _ _ _ _ _ _ (T207.setTop (mkF m 284 #[.val (.ref a1), .val (.int p2)] [(.ref b182), (.ref b182), (.ref b180), (.ref b180)]))
                  refine GoJ.of (fun t k => XS.iconst X207.here hx rfl (hb hby d10_284) k) ?_
                  show GoJ _ _ _ _ _ _ _ _ (T207.setTop (mkF m 285 #[.val (.ref a1), .val (.int p2)] [(.int (5 : Int32)), (.ref b182), (.ref b182), (.ref b180), (.ref b180)]))
                  refine GoJ.of (fun t k => XS.aloadN X207.here hx rfl (hb hby d10_285) rfl rfl k) ?_
                  show GoJ _ _ _ _ _ _ _ _ (T207.setTop (mkF m 286 #[.val (.ref a1), .val (.int p2)] [(.ref a1), (.int (5 : Int32)), (.ref b182), (.ref b182), (.ref b180), (.ref b180)]))
                  refine GoJ.of (fun t k => XS.iconst X207.here hx rfl (hb hby d10_286) k) ?_
                  show GoJ _ _ _ _ _ _ _ _ (T207.setTop (mkF m 287 #[.val (.ref a1), .val (.int p2)] [(.int (5 : Int32)), (.ref a1), (.int (5 : Int32)), (.ref b182), (.ref b182), (.ref b180), (.ref b180)]))
                  have f209 := (f204.other W207 (by omega : a1 ≠ b182))
                  obtain ⟨cl210, Ar210, q210, S210, N210, H210, G210⟩ := id f209
                  have hin211 := inb_of S210 (j := (5 : Int32)) ⟨by decide, by decide⟩
                  refine GoJ.of (X207.caload hx (j := (5 : Int32)) (v := (.int u5)) (own_at e207 Ar210.1) (State.isArrayOf_alike hZ.alike Ar210.2.1) Ar210.2.2 hin211 (H210.at hin211 rfl) (g := (mkF m 287 #[.val (.ref a1), .val (.int p2)] [(.int (5 : Int32)), (.ref a1), (.int (5 : Int32)), (.ref b182), (.ref b182), (.ref b180), (.ref b180)])) rfl rfl (hb hby d10_287)) ?_
                  show GoJ _ _ _ _ _ _ _ _ (T207.setTop (mkF m 288 #[.val (.ref a1), .val (.int p2)] [(.int u5), (.int (5 : Int32)), (.ref b182), (.ref b182), (.ref b180), (.ref b180)]))
                  obtain ⟨cl212, Ar212, q212, S212, N212', H212, G212⟩ := id V207
                  have hin212 := inb_of S212 (j := (5 : Int32)) ⟨by decide, by decide⟩
                  obtain ⟨T212, h212, X212, e212, W212, st212⟩ := stC X207 hx hZ e207 Ar212 (j := (5 : Int32)) hin212 (g := (mkF m 288 #[.val (.ref a1), .val (.int p2)] [(.int u5), (.int (5 : Int32)), (.ref b182), (.ref b182), (.ref b180), (.ref b180)])) rfl rfl (hb hby d10_288)
                  have V212 : Arv Z h212 b182 k182 .char (7 : Int32) [(.int (nar .char u0)), (.int (nar .char u1)), (.int (nar .char u2)), (.int (nar .char u3)), (.int (nar .char u4)), (.int (nar .char u5)), (.int (0 : Int32))] (.int (0 : Int32)) := Arv.set Ar212 q212 S212 N212' H212 G212 (fits_nar_char _) W212 5 rfl (Nat.le_of_ble_eq_true rfl)
                  refine GoJ.of st212 ?_
                  have hs213 : h207.size ≤ h212.size := Nat.le_of_eq W212.size.symm
                  have N212 := Fr.snoc X212 N207 (by omega)
                  show GoJ _ _ _ _ _ _ _ _ (T212.setTop (mkF m 289 #[.val (.ref a1), .val (.int p2)] [(.ref b182), (.ref b180), (.ref b180)]))
                  refine GoJ.of (fun t k => XS.dup X212.here hx rfl (hb hby d10_289) rfl rfl k) ?_
                  show GoJ _ _ _ _ _ _ _ _ (T212.setTop (mkF m 290 #[.val (.ref a1), .val (.int p2)] [(.ref b182), (.ref b182), (.ref b180), (.ref b180)]))
                  refine GoJ.of (fun t k => XS.bipush X212.here hx rfl (hb hby d10_290) k) ?_
                  show GoJ _ _ _ _ _ _ _ _ (T212.setTop (mkF m 292 #[.val (.ref a1), .val (.int p2)] [(.int (6 : Int32)), (.ref b182), (.ref b182), (.ref b180), (.ref b180)]))
                  refine GoJ.of (fun t k => XS.aloadN X212.here hx rfl (hb hby d10_292) rfl rfl k) ?_
                  show GoJ _ _ _ _ _ _ _ _ (T212.setTop (mkF m 293 #[.val (.ref a1), .val (.int p2)] [(.ref a1), (.int (6 : Int32)), (.ref b182), (.ref b182), (.ref b180), (.ref b180)]))
                  refine GoJ.of (fun t k => XS.bipush X212.here hx rfl (hb hby d10_293) k) ?_
                  show GoJ _ _ _ _ _ _ _ _ (T212.setTop (mkF m 295 #[.val (.ref a1), .val (.int p2)] [(.int (6 : Int32)), (.ref a1), (.int (6 : Int32)), (.ref b182), (.ref b182), (.ref b180), (.ref b180)]))
                  have f214 := (f209.other W212 (by omega : a1 ≠ b182))
                  obtain ⟨cl215, Ar215, q215, S215, N215, H215, G215⟩ := id f214
                  have hin216 := inb_of S215 (j := (6 : Int32)) ⟨by decide, by decide⟩
                  refine GoJ.of (X212.caload hx (j := (6 : Int32)) (v := (.int u6)) (own_at e212 Ar215.1) (State.isArrayOf_alike hZ.alike Ar215.2.1) Ar215.2.2 hin216 (H215.at hin216 rfl) (g := (mkF m 295 #[.val (.ref a1), .val (.int p2)] [(.int (6 : Int32)), (.ref a1), (.int (6 : Int32)), (.ref b182), (.ref b182), (.ref b180), (.ref b180)])) rfl rfl (hb hby d10_295)) ?_
                  show GoJ _ _ _ _ _ _ _ _ (T212.setTop (mkF m 296 #[.val (.ref a1), .val (.int p2)] [(.int u6), (.int (6 : Int32)), (.ref b182), (.ref b182), (.ref b180), (.ref b180)]))
                  obtain ⟨cl217, Ar217, q217, S217, N217', H217, G217⟩ := id V212
                  have hin217 := inb_of S217 (j := (6 : Int32)) ⟨by decide, by decide⟩
                  obtain ⟨T217, h217, X217, e217, W217, st217⟩ := stC X212 hx hZ e212 Ar217 (j := (6 : Int32)) hin217 (g := (mkF m 296 #[.val (.ref a1), .val (.int p2)] [(.int u6), (.int (6 : Int32)), (.ref b182), (.ref b182), (.ref b180), (.ref b180)])) rfl rfl (hb hby d10_296)
                  have V217 : Arv Z h217 b182 k182 .char (7 : Int32) [(.int (nar .char u0)), (.int (nar .char u1)), (.int (nar .char u2)), (.int (nar .char u3)), (.int (nar .char u4)), (.int (nar .char u5)), (.int (nar .char u6))] (.int (0 : Int32)) := Arv.set Ar217 q217 S217 N217' H217 G217 (fits_nar_char _) W217 6 rfl (Nat.le_of_ble_eq_true rfl)
                  refine GoJ.of st217 ?_
                  have hs218 : h212.size ≤ h217.size := Nat.le_of_eq W217.size.symm
                  have N217 := Fr.snoc X217 N212 (by omega)
                  show GoJ _ _ _ _ _ _ _ _ (T217.setTop (mkF m 297 #[.val (.ref a1), .val (.int p2)] [(.ref b182), (.ref b180), (.ref b180)]))
                  have hcs219 : ∀ c ∈ ([(nar .char u0), (nar .char u1), (nar .char u2), (nar .char u3), (nar .char u4), (nar .char u5), (nar .char u6)] : List Int32), ¬ c < 0 ∧ ¬ (255 : Int32) < c := by
                    intro c hc
                    simp only [List.mem_cons, List.not_mem_nil, or_false] at hc
                    rcases hc with rfl | rfl | rfl | rfl | rfl | rfl | rfl
                    · exact own_narr hu0
                    · exact own_narr hu1
                    · exact own_narr hu2
                    · exact own_narr hu3
                    · exact own_narr hu4
                    · exact own_narr hu5
                    · exact own_narr hu6
                  have f220 := ((((((((A180.ext E182).wr W187).wr W192).wr W197).wr W202).wr W207).wr W212).wr W217)
                  have f221 := ((((((((F180_value.ext E182).other W187 (Or.inl (by omega : b180 ≠ b182))).other W192 (Or.inl (by omega : b180 ≠ b182))).other W197 (Or.inl (by omega : b180 ≠ b182))).other W202 (Or.inl (by omega : b180 ≠ b182))).other W207 (Or.inl (by omega : b180 ≠ b182))).other W212 (Or.inl (by omega : b180 ≠ b182))).other W217 (Or.inl (by omega : b180 ≠ b182)))
                  have f222 := ((((((((F180_coder.ext E182).other W187 (Or.inl (by omega : b180 ≠ b182))).other W192 (Or.inl (by omega : b180 ≠ b182))).other W197 (Or.inl (by omega : b180 ≠ b182))).other W202 (Or.inl (by omega : b180 ≠ b182))).other W207 (Or.inl (by omega : b180 ≠ b182))).other W212 (Or.inl (by omega : b180 ≠ b182))).other W217 (Or.inl (by omega : b180 ≠ b182)))
                  have f223 := (((((((((O0.ext E180).ext E182).wr W187 (by omega)).wr W192 (by omega)).wr W197 (by omega)).wr W202 (by omega)).wr W207 (by omega)).wr W212 (by omega)).wr W217 (by omega))
                  obtain ⟨v224, _, ⟨T224, L224, k224, n224⟩, -, X224, ⟨Lc224, hQ224, l224, y224, z224⟩, st224⟩ := X217.specialBack hx (y := (⟨"java/lang/String", "<init>", "([C)V"⟩ : MethodName)) rfl hown (mvT hZ (own_w hw 56 rfl)) (mvT hZ (own_w hw 57 rfl)) (mvT hZ (own_w hw 58 rfl)) (by decide) (StrChars.Road.backV (W := 1) hZ (own_words hw) (kI := 4) (own_w hw 7 rfl) (cs := ([(nar .char u0), (nar .char u1), (nar .char u2), (nar .char u3), (nar .char u4), (nar .char u5), (nar .char u6)] : List Int32)) (bs := ([(nar .char u0), (nar .char u1), (nar .char u2), (nar .char u3), (nar .char u4), (nar .char u5), (nar .char u6)] : List Int32).map (fun c => c.toInt8.toInt32)) (n := 7) (n0 := n0) (by omega) (by omega) f220 f221 f222 V217 (S_cs.ext f223.2) hcs rfl rfl (by decide) (by decide) hcs219 rfl (by decide) (by decide)) (g := (mkF m 297 #[.val (.ref a1), .val (.int p2)] [(.ref b182), (.ref b180), (.ref b180)])) rfl (by rw [hml]; rfl) (Steps.refl _) (a := b180) (argsL := [(.ref b182)]) (rest := [(.ref b180)]) (lenOf pd_3 rfl) rfl (by show 2 * 0 + _ ≤ _; exact Nat.le_of_eq rfl) (hb hby d10_297) (fun _ _ => ⟨rfl, e217, (by decide : 2 + 1 ≤ _), (by decide : 11 + 7 ≤ _)⟩)
                  dsimp only [Pt.U, Pt.locs, Pt.cells, Pt.slots] at X224 l224 y224 z224 st224 hQ224
                  replace y224 : k224 = 3 := y224.trans (by decide)
                  replace z224 : n224 = 18 := z224.trans (by decide)
                  subst l224 y224 z224
                  obtain ⟨rfl, N224q, K224, Ex224, Fc224, t224, kb224, -, -, -, Fv224, Va224⟩ := hQ224
                  have N224 := Fr.app N217 N224q
                  refine GoJ.tr st224 ?_
                  have hs225 : h217.size ≤ T224.heap.size := K224.1
                  have Sn224 : own_Str Z T224.heap b180 ([(nar .char u0), (nar .char u1), (nar .char u2), (nar .char u3), (nar .char u4), (nar .char u5), (nar .char u6)] : List Int32) := ⟨t224, kb224, Ex224, Fv224, Fc224, Va224, Nat.le_of_ble_eq_true rfl, hcs219⟩
                  show GoJ _ _ _ _ _ _ _ _ (T224.setTop (mkF m 300 #[.val (.ref a1), .val (.int p2)] [(.ref b180)]))
                  refine GoJ.out X224 hS (by omega) (own_J.keep hJ (((((((((((Keep.refl h0 []).ext E180).ext E182).wr W187 (Or.inr (by omega))).wr W192 (Or.inr (by omega))).wr W197 (Or.inr (by omega))).wr W202 (Or.inr (by omega))).wr W207 (Or.inr (by omega))).wr W212 (Or.inr (by omega))).wr W217 (Or.inr (by omega))).trans K224 (allS (Or.inr (by omega)) all0))) (v := some (.ref b180)) (fun h => by rw [Bd.returns] at h; cases h) hlk (fun fs hr => retOut X224 hx (t := (.object "java/lang/String")) Bd.returns rfl (Or.inr (Or.inr (Or.inr (Or.inr ⟨rfl, rfl, rfl⟩)))) (hb hby d10_300) hr) ?_ (by decide) (by decide)
                  show Q10 Z a1 p2 cs h0 n0 _ T224.heap _
                  exact ⟨b180, _, rfl, N224, (((((((((((Keep.refl h0 []).ext E180).ext E182).wr W187 (Or.inr (by omega))).wr W192 (Or.inr (by omega))).wr W197 (Or.inr (by omega))).wr W202 (Or.inr (by omega))).wr W207 (Or.inr (by omega))).wr W212 (Or.inr (by omega))).wr W217 (Or.inr (by omega))).trans K224 (allS (Or.inr (by omega)) all0)), Sn224⟩
                · skip
                  refine GoJ.of (fun t k => XS.icmpYes X0.here hx rfl (pc0 := 242) (pc' := 301) rfl (hb hby d10_242) rfl (feq hc242_179).2 (by decide) (by decide) k) ?_
                  show GoJ _ _ _ _ _ _ _ _ (s₁.setTop (mkF m 301 #[.val (.ref a1), .val (.int p2)] []))
                  obtain ⟨T226, h226, X226, e226, E226, A226, D226, -, st226⟩ := newO X0 hx hZ hown (own_w hw 55 rfl) (own_w hw 7 rfl) (own_w hw 6 rfl) e0 (g := (mkF m 301 #[.val (.ref a1), .val (.int p2)] [])) rfl (hb hby d10_301) (by decide) (by decide)
                  obtain ⟨b226, g226⟩ : ∃ z, z = h0.size := ⟨_, rfl⟩
                  rw [← g226] at A226 D226 st226
                  have lt226 : b226 < h226.size := A226.lt
                  refine GoJ.of st226 ?_
                  have hs227 : h0.size ≤ h226.size := E226.1
                  have F226_value : Fld Z h226 b226 "java/lang/String" "value" "[B" .null := D226 (Or.inr (own_w hw 9 rfl)) (ty := (.array .byte)) (by decide)
                  have F226_coder : Fld Z h226 b226 "java/lang/String" "coder" "B" (.int (0 : Int32)) := D226 (Or.inr (own_w hw 10 rfl)) (ty := .byte) (by decide)
                  show GoJ _ _ _ _ _ _ _ _ (T226.setTop (mkF m 304 #[.val (.ref a1), .val (.int p2)] [(.ref b226)]))
                  refine GoJ.of (fun t k => XS.dup X226.here hx rfl (hb hby d10_304) rfl rfl k) ?_
                  show GoJ _ _ _ _ _ _ _ _ (T226.setTop (mkF m 305 #[.val (.ref a1), .val (.int p2)] [(.ref b226), (.ref b226)]))
                  refine GoJ.of (fun t k => XS.bipush X226.here hx rfl (hb hby d10_305) k) ?_
                  show GoJ _ _ _ _ _ _ _ _ (T226.setTop (mkF m 307 #[.val (.ref a1), .val (.int p2)] [(.int (8 : Int32)), (.ref b226), (.ref b226)]))
                  obtain ⟨T228, h228, k228, X228, e228, E228, A228, st228⟩ := newP X226 hx hZ (own_w hw 26 rfl) e226 (g := (mkF m 307 #[.val (.ref a1), .val (.int p2)] [(.int (8 : Int32)), (.ref b226), (.ref b226)])) rfl (hb hby d10_307) rfl (by decide) (cap := 8) (by decide) (by decide) (by decide) (by decide)
                  obtain ⟨b228, g228⟩ : ∃ z, z = h226.size := ⟨_, rfl⟩
                  rw [← g228] at A228 st228
                  have lt228 : b228 < h228.size := A228.lt
                  refine GoJ.of st228 ?_
                  have hs229 : h226.size ≤ h228.size := E228.1
                  have V228 : Arv Z h228 b228 k228 .char (8 : Int32) [(.int (0 : Int32)), (.int (0 : Int32)), (.int (0 : Int32)), (.int (0 : Int32)), (.int (0 : Int32)), (.int (0 : Int32)), (.int (0 : Int32)), (.int (0 : Int32))] (.int (0 : Int32)) := (Arv.new A228 (by decide)).pad (pad_rep [] (.int (0 : Int32)) 8)
                  show GoJ _ _ _ _ _ _ _ _ (T228.setTop (mkF m 309 #[.val (.ref a1), .val (.int p2)] [(.ref b228), (.ref b226), (.ref b226)]))
                  refine GoJ.of (fun t k => XS.dup X228.here hx rfl (hb hby d10_309) rfl rfl k) ?_
                  show GoJ _ _ _ _ _ _ _ _ (T228.setTop (mkF m 310 #[.val (.ref a1), .val (.int p2)] [(.ref b228), (.ref b228), (.ref b226), (.ref b226)]))
                  refine GoJ.of (fun t k => XS.iconst X228.here hx rfl (hb hby d10_310) k) ?_
                  show GoJ _ _ _ _ _ _ _ _ (T228.setTop (mkF m 311 #[.val (.ref a1), .val (.int p2)] [(.int (0 : Int32)), (.ref b228), (.ref b228), (.ref b226), (.ref b226)]))
                  refine GoJ.of (fun t k => XS.aloadN X228.here hx rfl (hb hby d10_311) rfl rfl k) ?_
                  show GoJ _ _ _ _ _ _ _ _ (T228.setTop (mkF m 312 #[.val (.ref a1), .val (.int p2)] [(.ref a1), (.int (0 : Int32)), (.ref b228), (.ref b228), (.ref b226), (.ref b226)]))
                  refine GoJ.of (fun t k => XS.iconst X228.here hx rfl (hb hby d10_312) k) ?_
                  show GoJ _ _ _ _ _ _ _ _ (T228.setTop (mkF m 313 #[.val (.ref a1), .val (.int p2)] [(.int (0 : Int32)), (.ref a1), (.int (0 : Int32)), (.ref b228), (.ref b228), (.ref b226), (.ref b226)]))
                  have f230 := ((V1.ext E226).ext E228)
                  obtain ⟨cl231, Ar231, q231, S231, N231, H231, G231⟩ := id f230
                  have hin232 := inb_of S231 (j := (0 : Int32)) ⟨by decide, by decide⟩
                  refine GoJ.of (X228.caload hx (j := (0 : Int32)) (v := (.int u0)) (own_at e228 Ar231.1) (State.isArrayOf_alike hZ.alike Ar231.2.1) Ar231.2.2 hin232 (H231.at hin232 rfl) (g := (mkF m 313 #[.val (.ref a1), .val (.int p2)] [(.int (0 : Int32)), (.ref a1), (.int (0 : Int32)), (.ref b228), (.ref b228), (.ref b226), (.ref b226)])) rfl rfl (hb hby d10_313)) ?_
                  show GoJ _ _ _ _ _ _ _ _ (T228.setTop (mkF m 314 #[.val (.ref a1), .val (.int p2)] [(.int u0), (.int (0 : Int32)), (.ref b228), (.ref b228), (.ref b226), (.ref b226)]))
                  obtain ⟨cl233, Ar233, q233, S233, N233', H233, G233⟩ := id V228
                  have hin233 := inb_of S233 (j := (0 : Int32)) ⟨by decide, by decide⟩
                  obtain ⟨T233, h233, X233, e233, W233, st233⟩ := stC X228 hx hZ e228 Ar233 (j := (0 : Int32)) hin233 (g := (mkF m 314 #[.val (.ref a1), .val (.int p2)] [(.int u0), (.int (0 : Int32)), (.ref b228), (.ref b228), (.ref b226), (.ref b226)])) rfl rfl (hb hby d10_314)
                  have V233 : Arv Z h233 b228 k228 .char (8 : Int32) [(.int (nar .char u0)), (.int (0 : Int32)), (.int (0 : Int32)), (.int (0 : Int32)), (.int (0 : Int32)), (.int (0 : Int32)), (.int (0 : Int32)), (.int (0 : Int32))] (.int (0 : Int32)) := Arv.set Ar233 q233 S233 N233' H233 G233 (fits_nar_char _) W233 0 rfl (Nat.le_of_ble_eq_true rfl)
                  refine GoJ.of st233 ?_
                  have hs234 : h228.size ≤ h233.size := Nat.le_of_eq W233.size.symm
                  have N233 := Fr.snoc X233 N0 (by omega)
                  show GoJ _ _ _ _ _ _ _ _ (T233.setTop (mkF m 315 #[.val (.ref a1), .val (.int p2)] [(.ref b228), (.ref b226), (.ref b226)]))
                  refine GoJ.of (fun t k => XS.dup X233.here hx rfl (hb hby d10_315) rfl rfl k) ?_
                  show GoJ _ _ _ _ _ _ _ _ (T233.setTop (mkF m 316 #[.val (.ref a1), .val (.int p2)] [(.ref b228), (.ref b228), (.ref b226), (.ref b226)]))
                  refine GoJ.of (fun t k => XS.iconst X233.here hx rfl (hb hby d10_316) k) ?_
                  show GoJ _ _ _ _ _ _ _ _ (T233.setTop (mkF m 317 #[.val (.ref a1), .val (.int p2)] [(.int (1 : Int32)), (.ref b228), (.ref b228), (.ref b226), (.ref b226)]))
                  refine GoJ.of (fun t k => XS.aloadN X233.here hx rfl (hb hby d10_317) rfl rfl k) ?_
                  show GoJ _ _ _ _ _ _ _ _ (T233.setTop (mkF m 318 #[.val (.ref a1), .val (.int p2)] [(.ref a1), (.int (1 : Int32)), (.ref b228), (.ref b228), (.ref b226), (.ref b226)]))
                  refine GoJ.of (fun t k => XS.iconst X233.here hx rfl (hb hby d10_318) k) ?_
                  show GoJ _ _ _ _ _ _ _ _ (T233.setTop (mkF m 319 #[.val (.ref a1), .val (.int p2)] [(.int (1 : Int32)), (.ref a1), (.int (1 : Int32)), (.ref b228), (.ref b228), (.ref b226), (.ref b226)]))
                  have f235 := (f230.other W233 (by omega : a1 ≠ b228))
                  obtain ⟨cl236, Ar236, q236, S236, N236, H236, G236⟩ := id f235
                  have hin237 := inb_of S236 (j := (1 : Int32)) ⟨by decide, by decide⟩
                  refine GoJ.of (X233.caload hx (j := (1 : Int32)) (v := (.int u1)) (own_at e233 Ar236.1) (State.isArrayOf_alike hZ.alike Ar236.2.1) Ar236.2.2 hin237 (H236.at hin237 rfl) (g := (mkF m 319 #[.val (.ref a1), .val (.int p2)] [(.int (1 : Int32)), (.ref a1), (.int (1 : Int32)), (.ref b228), (.ref b228), (.ref b226), (.ref b226)])) rfl rfl (hb hby d10_319)) ?_
                  show GoJ _ _ _ _ _ _ _ _ (T233.setTop (mkF m 320 #[.val (.ref a1), .val (.int p2)] [(.int u1), (.int (1 : Int32)), (.ref b228), (.ref b228), (.ref b226), (.ref b226)]))
                  obtain ⟨cl238, Ar238, q238, S238, N238', H238, G238⟩ := id V233
                  have hin238 := inb_of S238 (j := (1 : Int32)) ⟨by decide, by decide⟩
                  obtain ⟨T238, h238, X238, e238, W238, st238⟩ := stC X233 hx hZ e233 Ar238 (j := (1 : Int32)) hin238 (g := (mkF m 320 #[.val (.ref a1), .val (.int p2)] [(.int u1), (.int (1 : Int32)), (.ref b228), (.ref b228), (.ref b226), (.ref b226)])) rfl rfl (hb hby d10_320)
                  have V238 : Arv Z h238 b228 k228 .char (8 : Int32) [(.int (nar .char u0)), (.int (nar .char u1)), (.int (0 : Int32)), (.int (0 : Int32)), (.int (0 : Int32)), (.int (0 : Int32)), (.int (0 : Int32)), (.int (0 : Int32))] (.int (0 : Int32)) := Arv.set Ar238 q238 S238 N238' H238 G238 (fits_nar_char _) W238 1 rfl (Nat.le_of_ble_eq_true rfl)
                  refine GoJ.of st238 ?_
                  have hs239 : h233.size ≤ h238.size := Nat.le_of_eq W238.size.symm
                  have N238 := Fr.snoc X238 N233 (by omega)
                  show GoJ _ _ _ _ _ _ _ _ (T238.setTop (mkF m 321 #[.val (.ref a1), .val (.int p2)] [(.ref b228), (.ref b226), (.ref b226)]))
                  refine GoJ.of (fun t k => XS.dup X238.here hx rfl (hb hby d10_321) rfl rfl k) ?_
                  show GoJ _ _ _ _ _ _ _ _ (T238.setTop (mkF m 322 #[.val (.ref a1), .val (.int p2)] [(.ref b228), (.ref b228), (.ref b226), (.ref b226)]))
                  refine GoJ.of (fun t k => XS.iconst X238.here hx rfl (hb hby d10_322) k) ?_
                  show GoJ _ _ _ _ _ _ _ _ (T238.setTop (mkF m 323 #[.val (.ref a1), .val (.int p2)] [(.int (2 : Int32)), (.ref b228), (.ref b228), (.ref b226), (.ref b226)]))
                  refine GoJ.of (fun t k => XS.aloadN X238.here hx rfl (hb hby d10_323) rfl rfl k) ?_
                  show GoJ _ _ _ _ _ _ _ _ (T238.setTop (mkF m 324 #[.val (.ref a1), .val (.int p2)] [(.ref a1), (.int (2 : Int32)), (.ref b228), (.ref b228), (.ref b226), (.ref b226)]))
                  refine GoJ.of (fun t k => XS.iconst X238.here hx rfl (hb hby d10_324) k) ?_
                  show GoJ _ _ _ _ _ _ _ _ (T238.setTop (mkF m 325 #[.val (.ref a1), .val (.int p2)] [(.int (2 : Int32)), (.ref a1), (.int (2 : Int32)), (.ref b228), (.ref b228), (.ref b226), (.ref b226)]))
                  have f240 := (f235.other W238 (by omega : a1 ≠ b228))
                  obtain ⟨cl241, Ar241, q241, S241, N241, H241, G241⟩ := id f240
                  have hin242 := inb_of S241 (j := (2 : Int32)) ⟨by decide, by decide⟩
                  refine GoJ.of (X238.caload hx (j := (2 : Int32)) (v := (.int u2)) (own_at e238 Ar241.1) (State.isArrayOf_alike hZ.alike Ar241.2.1) Ar241.2.2 hin242 (H241.at hin242 rfl) (g := (mkF m 325 #[.val (.ref a1), .val (.int p2)] [(.int (2 : Int32)), (.ref a1), (.int (2 : Int32)), (.ref b228), (.ref b228), (.ref b226), (.ref b226)])) rfl rfl (hb hby d10_325)) ?_
                  show GoJ _ _ _ _ _ _ _ _ (T238.setTop (mkF m 326 #[.val (.ref a1), .val (.int p2)] [(.int u2), (.int (2 : Int32)), (.ref b228), (.ref b228), (.ref b226), (.ref b226)]))
                  obtain ⟨cl243, Ar243, q243, S243, N243', H243, G243⟩ := id V238
                  have hin243 := inb_of S243 (j := (2 : Int32)) ⟨by decide, by decide⟩
                  obtain ⟨T243, h243, X243, e243, W243, st243⟩ := stC X238 hx hZ e238 Ar243 (j := (2 : Int32)) hin243 (g := (mkF m 326 #[.val (.ref a1), .val (.int p2)] [(.int u2), (.int (2 : Int32)), (.ref b228), (.ref b228), (.ref b226), (.ref b226)])) rfl rfl (hb hby d10_326)
                  have V243 : Arv Z h243 b228 k228 .char (8 : Int32) [(.int (nar .char u0)), (.int (nar .char u1)), (.int (nar .char u2)), (.int (0 : Int32)), (.int (0 : Int32)), (.int (0 : Int32)), (.int (0 : Int32)), (.int (0 : Int32))] (.int (0 : Int32)) := Arv.set Ar243 q243 S243 N243' H243 G243 (fits_nar_char _) W243 2 rfl (Nat.le_of_ble_eq_true rfl)
                  refine GoJ.of st243 ?_
                  have hs244 : h238.size ≤ h243.size := Nat.le_of_eq W243.size.symm
                  have N243 := Fr.snoc X243 N238 (by omega)
                  show GoJ _ _ _ _ _ _ _ _ (T243.setTop (mkF m 327 #[.val (.ref a1), .val (.int p2)] [(.ref b228), (.ref b226), (.ref b226)]))
                  refine GoJ.of (fun t k => XS.dup X243.here hx rfl (hb hby d10_327) rfl rfl k) ?_
                  show GoJ _ _ _ _ _ _ _ _ (T243.setTop (mkF m 328 #[.val (.ref a1), .val (.int p2)] [(.ref b228), (.ref b228), (.ref b226), (.ref b226)]))
                  refine GoJ.of (fun t k => XS.iconst X243.here hx rfl (hb hby d10_328) k) ?_
                  show GoJ _ _ _ _ _ _ _ _ (T243.setTop (mkF m 329 #[.val (.ref a1), .val (.int p2)] [(.int (3 : Int32)), (.ref b228), (.ref b228), (.ref b226), (.ref b226)]))
                  refine GoJ.of (fun t k => XS.aloadN X243.here hx rfl (hb hby d10_329) rfl rfl k) ?_
                  show GoJ _ _ _ _ _ _ _ _ (T243.setTop (mkF m 330 #[.val (.ref a1), .val (.int p2)] [(.ref a1), (.int (3 : Int32)), (.ref b228), (.ref b228), (.ref b226), (.ref b226)]))
                  refine GoJ.of (fun t k => XS.iconst X243.here hx rfl (hb hby d10_330) k) ?_
                  show GoJ _ _ _ _ _ _ _ _ (T243.setTop (mkF m 331 #[.val (.ref a1), .val (.int p2)] [(.int (3 : Int32)), (.ref a1), (.int (3 : Int32)), (.ref b228), (.ref b228), (.ref b226), (.ref b226)]))
                  have f245 := (f240.other W243 (by omega : a1 ≠ b228))
                  obtain ⟨cl246, Ar246, q246, S246, N246, H246, G246⟩ := id f245
                  have hin247 := inb_of S246 (j := (3 : Int32)) ⟨by decide, by decide⟩
                  refine GoJ.of (X243.caload hx (j := (3 : Int32)) (v := (.int u3)) (own_at e243 Ar246.1) (State.isArrayOf_alike hZ.alike Ar246.2.1) Ar246.2.2 hin247 (H246.at hin247 rfl) (g := (mkF m 331 #[.val (.ref a1), .val (.int p2)] [(.int (3 : Int32)), (.ref a1), (.int (3 : Int32)), (.ref b228), (.ref b228), (.ref b226), (.ref b226)])) rfl rfl (hb hby d10_331)) ?_
                  show GoJ _ _ _ _ _ _ _ _ (T243.setTop (mkF m 332 #[.val (.ref a1), .val (.int p2)] [(.int u3), (.int (3 : Int32)), (.ref b228), (.ref b228), (.ref b226), (.ref b226)]))
                  obtain ⟨cl248, Ar248, q248, S248, N248', H248, G248⟩ := id V243
                  have hin248 := inb_of S248 (j := (3 : Int32)) ⟨by decide, by decide⟩
                  obtain ⟨T248, h248, X248, e248, W248, st248⟩ := stC X243 hx hZ e243 Ar248 (j := (3 : Int32)) hin248 (g := (mkF m 332 #[.val (.ref a1), .val (.int p2)] [(.int u3), (.int (3 : Int32)), (.ref b228), (.ref b228), (.ref b226), (.ref b226)])) rfl rfl (hb hby d10_332)
                  have V248 : Arv Z h248 b228 k228 .char (8 : Int32) [(.int (nar .char u0)), (.int (nar .char u1)), (.int (nar .char u2)), (.int (nar .char u3)), (.int (0 : Int32)), (.int (0 : Int32)), (.int (0 : Int32)), (.int (0 : Int32))] (.int (0 : Int32)) := Arv.set Ar248 q248 S248 N248' H248 G248 (fits_nar_char _) W248 3 rfl (Nat.le_of_ble_eq_true rfl)
                  refine GoJ.of st248 ?_
                  have hs249 : h243.size ≤ h248.size := Nat.le_of_eq W248.size.symm
                  have N248 := Fr.snoc X248 N243 (by omega)
                  show GoJ _ _ _ _ _ _ _ _ (T248.setTop (mkF m 333 #[.val (.ref a1), .val (.int p2)] [(.ref b228), (.ref b226), (.ref b226)]))
                  refine GoJ.of (fun t k => XS.dup X248.here hx rfl (hb hby d10_333) rfl rfl k) ?_
                  show GoJ _ _ _ _ _ _ _ _ (T248.setTop (mkF m 334 #[.val (.ref a1), .val (.int p2)] [(.ref b228), (.ref b228), (.ref b226), (.ref b226)]))
                  refine GoJ.of (fun t k => XS.iconst X248.here hx rfl (hb hby d10_334) k) ?_
                  show GoJ _ _ _ _ _ _ _ _ (T248.setTop (mkF m 335 #[.val (.ref a1), .val (.int p2)] [(.int (4 : Int32)), (.ref b228), (.ref b228), (.ref b226), (.ref b226)]))
                  refine GoJ.of (fun t k => XS.aloadN X248.here hx rfl (hb hby d10_335) rfl rfl k) ?_
                  show GoJ _ _ _ _ _ _ _ _ (T248.setTop (mkF m 336 #[.val (.ref a1), .val (.int p2)] [(.ref a1), (.int (4 : Int32)), (.ref b228), (.ref b228), (.ref b226), (.ref b226)]))
                  refine GoJ.of (fun t k => XS.iconst X248.here hx rfl (hb hby d10_336) k) ?_
                  show GoJ _ _ _ _ _ _ _ _ (T248.setTop (mkF m 337 #[.val (.ref a1), .val (.int p2)] [(.int (4 : Int32)), (.ref a1), (.int (4 : Int32)), (.ref b228), (.ref b228), (.ref b226), (.ref b226)]))
                  have f250 := (f245.other W248 (by omega : a1 ≠ b228))
                  obtain ⟨cl251, Ar251, q251, S251, N251, H251, G251⟩ := id f250
                  have hin252 := inb_of S251 (j := (4 : Int32)) ⟨by decide, by decide⟩
                  refine GoJ.of (X248.caload hx (j := (4 : Int32)) (v := (.int u4)) (own_at e248 Ar251.1) (State.isArrayOf_alike hZ.alike Ar251.2.1) Ar251.2.2 hin252 (H251.at hin252 rfl) (g := (mkF m 337 #[.val (.ref a1), .val (.int p2)] [(.int (4 : Int32)), (.ref a1), (.int (4 : Int32)), (.ref b228), (.ref b228), (.ref b226), (.ref b226)])) rfl rfl (hb hby d10_337)) ?_
                  show GoJ _ _ _ _ _ _ _ _ (T248.setTop (mkF m 338 #[.val (.ref a1), .val (.int p2)] [(.int u4), (.int (4 : Int32)), (.ref b228), (.ref b228), (.ref b226), (.ref b226)]))
                  obtain ⟨cl253, Ar253, q253, S253, N253', H253, G253⟩ := id V248
                  have hin253 := inb_of S253 (j := (4 : Int32)) ⟨by decide, by decide⟩
                  obtain ⟨T253, h253, X253, e253, W253, st253⟩ := stC X248 hx hZ e248 Ar253 (j := (4 : Int32)) hin253 (g := (mkF m 338 #[.val (.ref a1), .val (.int p2)] [(.int u4), (.int (4 : Int32)), (.ref b228), (.ref b228), (.ref b226), (.ref b226)])) rfl rfl (hb hby d10_338)
                  have V253 : Arv Z h253 b228 k228 .char (8 : Int32) [(.int (nar .char u0)), (.int (nar .char u1)), (.int (nar .char u2)), (.int (nar .char u3)), (.int (nar .char u4)), (.int (0 : Int32)), (.int (0 : Int32)), (.int (0 : Int32))] (.int (0 : Int32)) := Arv.set Ar253 q253 S253 N253' H253 G253 (fits_nar_char _) W253 4 rfl (Nat.le_of_ble_eq_true rfl)
                  refine GoJ.of st253 ?_
                  have hs254 : h248.size ≤ h253.size := Nat.le_of_eq W253.size.symm
                  have N253 := Fr.snoc X253 N248 (by omega)
                  show GoJ _ _ _ _ _ _ _ _ (T253.setTop (mkF m 339 #[.val (.ref a1), .val (.int p2)] [(.ref b228), (.ref b226), (.ref b226)]))
                  refine GoJ.of (fun t k => XS.dup X253.here hx rfl (hb hby d10_339) rfl rfl k) ?_
                  show GoJ _ _ _ _ _ _ _ _ (T253.setTop (mkF m 340 #[.val (.ref a1), .val (.int p2)] [(.ref b228), (.ref b228), (.ref b226), (.ref b226)]))
                  refine GoJ.of (fun t k => XS.iconst X253.here hx rfl (hb hby d10_340) k) ?_
                  show GoJ _ _ _ _ _ _ _ _ (T253.setTop (mkF m 341 #[.val (.ref a1), .val (.int p2)] [(.int (5 : Int32)), (.ref b228), (.ref b228), (.ref b226), (.ref b226)]))
                  refine GoJ.of (fun t k => XS.aloadN X253.here hx rfl (hb hby d10_341) rfl rfl k) ?_
                  show GoJ _ _ _ _ _ _ _ _ (T253.setTop (mkF m 342 #[.val (.ref a1), .val (.int p2)] [(.ref a1), (.int (5 : Int32)), (.ref b228), (.ref b228), (.ref b226), (.ref b226)]))
                  refine GoJ.of (fun t k => XS.iconst X253.here hx rfl (hb hby d10_342) k) ?_
                  show GoJ _ _ _ _ _ _ _ _ (T253.setTop (mkF m 343 #[.val (.ref a1), .val (.int p2)] [(.int (5 : Int32)), (.ref a1), (.int (5 : Int32)), (.ref b228), (.ref b228), (.ref b226), (.ref b226)]))
                  have f255 := (f250.other W253 (by omega : a1 ≠ b228))
                  obtain ⟨cl256, Ar256, q256, S256, N256, H256, G256⟩ := id f255
                  have hin257 := inb_of S256 (j := (5 : Int32)) ⟨by decide, by decide⟩
                  refine GoJ.of (X253.caload hx (j := (5 : Int32)) (v := (.int u5)) (own_at e253 Ar256.1) (State.isArrayOf_alike hZ.alike Ar256.2.1) Ar256.2.2 hin257 (H256.at hin257 rfl) (g := (mkF m 343 #[.val (.ref a1), .val (.int p2)] [(.int (5 : Int32)), (.ref a1), (.int (5 : Int32)), (.ref b228), (.ref b228), (.ref b226), (.ref b226)])) rfl rfl (hb hby d10_343)) ?_
                  show GoJ _ _ _ _ _ _ _ _ (T253.setTop (mkF m 344 #[.val (.ref a1), .val (.int p2)] [(.int u5), (.int (5 : Int32)), (.ref b228), (.ref b228), (.ref b226), (.ref b226)]))
                  obtain ⟨cl258, Ar258, q258, S258, N258', H258, G258⟩ := id V253
                  have hin258 := inb_of S258 (j := (5 : Int32)) ⟨by decide, by decide⟩
                  obtain ⟨T258, h258, X258, e258, W258, st258⟩ := stC X253 hx hZ e253 Ar258 (j := (5 : Int32)) hin258 (g := (mkF m 344 #[.val (.ref a1), .val (.int p2)] [(.int u5), (.int (5 : Int32)), (.ref b228), (.ref b228), (.ref b226), (.ref b226)])) rfl rfl (hb hby d10_344)
                  have V258 : Arv Z h258 b228 k228 .char (8 : Int32) [(.int (nar .char u0)), (.int (nar .char u1)), (.int (nar .char u2)), (.int (nar .char u3)), (.int (nar .char u4)), (.int (nar .char u5)), (.int (0 : Int32)), (.int (0 : Int32))] (.int (0 : Int32)) := Arv.set Ar258 q258 S258 N258' H258 G258 (fits_nar_char _) W258 5 rfl (Nat.le_of_ble_eq_true rfl)
                  refine GoJ.of st258 ?_
                  have hs259 : h253.size ≤ h258.size := Nat.le_of_eq W258.size.symm
                  have N258 := Fr.snoc X258 N253 (by omega)
                  show GoJ _ _ _ _ _ _ _ _ (T258.setTop (mkF m 345 #[.val (.ref a1), .val (.int p2)] [(.ref b228), (.ref b226), (.ref b226)]))
                  refine GoJ.of (fun t k => XS.dup X258.here hx rfl (hb hby d10_345) rfl rfl k) ?_
                  show GoJ _ _ _ _ _ _ _ _ (T258.setTop (mkF m 346 #[.val (.ref a1), .val (.int p2)] [(.ref b228), (.ref b228), (.ref b226), (.ref b226)]))
                  refine GoJ.of (fun t k => XS.bipush X258.here hx rfl (hb hby d10_346) k) ?_
                  show GoJ _ _ _ _ _ _ _ _ (T258.setTop (mkF m 348 #[.val (.ref a1), .val (.int p2)] [(.int (6 : Int32)), (.ref b228), (.ref b228), (.ref b226), (.ref b226)]))
                  refine GoJ.of (fun t k => XS.aloadN X258.here hx rfl (hb hby d10_348) rfl rfl k) ?_
                  show GoJ _ _ _ _ _ _ _ _ (T258.setTop (mkF m 349 #[.val (.ref a1), .val (.int p2)] [(.ref a1), (.int (6 : Int32)), (.ref b228), (.ref b228), (.ref b226), (.ref b226)]))
                  refine GoJ.of (fun t k => XS.bipush X258.here hx rfl (hb hby d10_349) k) ?_
                  show GoJ _ _ _ _ _ _ _ _ (T258.setTop (mkF m 351 #[.val (.ref a1), .val (.int p2)] [(.int (6 : Int32)), (.ref a1), (.int (6 : Int32)), (.ref b228), (.ref b228), (.ref b226), (.ref b226)]))
                  have f260 := (f255.other W258 (by omega : a1 ≠ b228))
                  obtain ⟨cl261, Ar261, q261, S261, N261, H261, G261⟩ := id f260
                  have hin262 := inb_of S261 (j := (6 : Int32)) ⟨by decide, by decide⟩
                  refine GoJ.of (X258.caload hx (j := (6 : Int32)) (v := (.int u6)) (own_at e258 Ar261.1) (State.isArrayOf_alike hZ.alike Ar261.2.1) Ar261.2.2 hin262 (H261.at hin262 rfl) (g := (mkF m 351 #[.val (.ref a1), .val (.int p2)] [(.int (6 : Int32)), (.ref a1), (.int (6 : Int32)), (.ref b228), (.ref b228), (.ref b226), (.ref b226)])) rfl rfl (hb hby d10_351)) ?_
                  show GoJ _ _ _ _ _ _ _ _ (T258.setTop (mkF m 352 #[.val (.ref a1), .val (.int p2)] [(.int u6), (.int (6 : Int32)), (.ref b228), (.ref b228), (.ref b226), (.ref b226)]))
                  obtain ⟨cl263, Ar263, q263, S263, N263', H263, G263⟩ := id V258
                  have hin263 := inb_of S263 (j := (6 : Int32)) ⟨by decide, by decide⟩
                  obtain ⟨T263, h263, X263, e263, W263, st263⟩ := stC X258 hx hZ e258 Ar263 (j := (6 : Int32)) hin263 (g := (mkF m 352 #[.val (.ref a1), .val (.int p2)] [(.int u6), (.int (6 : Int32)), (.ref b228), (.ref b228), (.ref b226), (.ref b226)])) rfl rfl (hb hby d10_352)
                  have V263 : Arv Z h263 b228 k228 .char (8 : Int32) [(.int (nar .char u0)), (.int (nar .char u1)), (.int (nar .char u2)), (.int (nar .char u3)), (.int (nar .char u4)), (.int (nar .char u5)), (.int (nar .char u6)), (.int (0 : Int32))] (.int (0 : Int32)) := Arv.set Ar263 q263 S263 N263' H263 G263 (fits_nar_char _) W263 6 rfl (Nat.le_of_ble_eq_true rfl)
                  refine GoJ.of st263 ?_
                  have hs264 : h258.size ≤ h263.size := Nat.le_of_eq W263.size.symm
                  have N263 := Fr.snoc X263 N258 (by omega)
                  show GoJ _ _ _ _ _ _ _ _ (T263.setTop (mkF m 353 #[.val (.ref a1), .val (.int p2)] [(.ref b228), (.ref b226), (.ref b226)]))
                  refine GoJ.of (fun t k => XS.dup X263.here hx rfl (hb hby d10_353) rfl rfl k) ?_
                  show GoJ _ _ _ _ _ _ _ _ (T263.setTop (mkF m 354 #[.val (.ref a1), .val (.int p2)] [(.ref b228), (.ref b228), (.ref b226), (.ref b226)]))
                  refine GoJ.of (fun t k => XS.bipush X263.here hx rfl (hb hby d10_354) k) ?_
                  show GoJ _ _ _ _ _ _ _ _ (T263.setTop (mkF m 356 #[.val (.ref a1), .val (.int p2)] [(.int (7 : Int32)), (.ref b228), (.ref b228), (.ref b226), (.ref b226)]))
                  refine GoJ.of (fun t k => XS.aloadN X263.here hx rfl (hb hby d10_356) rfl rfl k) ?_
                  show GoJ _ _ _ _ _ _ _ _ (T263.setTop (mkF m 357 #[.val (.ref a1), .val (.int p2)] [(.ref a1), (.int (7 : Int32)), (.ref b228), (.ref b228), (.ref b226), (.ref b226)]))
                  refine GoJ.of (fun t k => XS.bipush X263.here hx rfl (hb hby d10_357) k) ?_
                  show GoJ _ _ _ _ _ _ _ _ (T263.setTop (mkF m 359 #[.val (.ref a1), .val (.int p2)] [(.int (7 : Int32)), (.ref a1), (.int (7 : Int32)), (.ref b228), (.ref b228), (.ref b226), (.ref b226)]))
                  have f265 := (f260.other W263 (by omega : a1 ≠ b228))
                  obtain ⟨cl266, Ar266, q266, S266, N266, H266, G266⟩ := id f265
                  have hin267 := inb_of S266 (j := (7 : Int32)) ⟨by decide, by decide⟩
                  refine GoJ.of (X263.caload hx (j := (7 : Int32)) (v := (.int u7)) (own_at e263 Ar266.1) (State.isArrayOf_alike hZ.alike Ar266.2.1) Ar266.2.2 hin267 (H266.at hin267 rfl) (g := (mkF m 359 #[.val (.ref a1), .val (.int p2)] [(.int (7 : Int32)), (.ref a1), (.int (7 : Int32)), (.ref b228), (.ref b228), (.ref b226), (.ref b226)])) rfl rfl (hb hby d10_359)) ?_
                  show GoJ _ _ _ _ _ _ _ _ (T263.setTop (mkF m 360 #[.val (.ref a1), .val (.int p2)] [(.int u7), (.int (7 : Int32)), (.ref b228), (.ref b228), (.ref b226), (.ref b226)]))
                  obtain ⟨cl268, Ar268, q268, S268, N268', H268, G268⟩ := id V263
                  have hin268 := inb_of S268 (j := (7 : Int32)) ⟨by decide, by decide⟩
                  obtain ⟨T268, h268, X268, e268, W268, st268⟩ := stC X263 hx hZ e263 Ar268 (j := (7 : Int32)) hin268 (g := (mkF m 360 #[.val (.ref a1), .val (.int p2)] [(.int u7), (.int (7 : Int32)), (.ref b228), (.ref b228), (.ref b226), (.ref b226)])) rfl rfl (hb hby d10_360)
                  have V268 : Arv Z h268 b228 k228 .char (8 : Int32) [(.int (nar .char u0)), (.int (nar .char u1)), (.int (nar .char u2)), (.int (nar .char u3)), (.int (nar .char u4)), (.int (nar .char u5)), (.int (nar .char u6)), (.int (nar .char u7))] (.int (0 : Int32)) := Arv.set Ar268 q268 S268 N268' H268 G268 (fits_nar_char _) W268 7 rfl (Nat.le_of_ble_eq_true rfl)
                  refine GoJ.of st268 ?_
                  have hs269 : h263.size ≤ h268.size := Nat.le_of_eq W268.size.symm
                  have N268 := Fr.snoc X268 N263 (by omega)
                  show GoJ _ _ _ _ _ _ _ _ (T268.setTop (mkF m 361 #[.val (.ref a1), .val (.int p2)] [(.ref b228), (.ref b226), (.ref b226)]))
                  have hcs270 : ∀ c ∈ ([(nar .char u0), (nar .char u1), (nar .char u2), (nar .char u3), (nar .char u4), (nar .char u5), (nar .char u6), (nar .char u7)] : List Int32), ¬ c < 0 ∧ ¬ (255 : Int32) < c := by
                    intro c hc
                    simp only [List.mem_cons, List.not_mem_nil, or_false] at hc
                    rcases hc with rfl | rfl | rfl | rfl | rfl | rfl | rfl | rfl
                    · exact own_narr hu0
                    · exact own_narr hu1
                    · exact own_narr hu2
                    · exact own_narr hu3
                    · exact own_narr hu4
                    · exact own_narr hu5
                    · exact own_narr hu6
                    · exact own_narr hu7
                  have f271 := (((((((((A226.ext E228).wr W233).wr W238).wr W243).wr W248).wr W253).wr W258).wr W263).wr W268)
                  have f272 := (((((((((F226_value.ext E228).other W233 (Or.inl (by omega : b226 ≠ b228))).other W238 (Or.inl (by omega : b226 ≠ b228))).other W243 (Or.inl (by omega : b226 ≠ b228))).other W248 (Or.inl (by omega : b226 ≠ b228))).other W253 (Or.inl (by omega : b226 ≠ b228))).other W258 (Or.inl (by omega : b226 ≠ b228))).other W263 (Or.inl (by omega : b226 ≠ b228))).other W268 (Or.inl (by omega : b226 ≠ b228)))
                  have f273 := (((((((((F226_coder.ext E228).other W233 (Or.inl (by omega : b226 ≠ b228))).other W238 (Or.inl (by omega : b226 ≠ b228))).other W243 (Or.inl (by omega : b226 ≠ b228))).other W248 (Or.inl (by omega : b226 ≠ b228))).other W253 (Or.inl (by omega : b226 ≠ b228))).other W258 (Or.inl (by omega : b226 ≠ b228))).other W263 (Or.inl (by omega : b226 ≠ b228))).other W268 (Or.inl (by omega : b226 ≠ b228)))
                  have f274 := ((((((((((O0.ext E226).ext E228).wr W233 (by omega)).wr W238 (by omega)).wr W243 (by omega)).wr W248 (by omega)).wr W253 (by omega)).wr W258 (by omega)).wr W263 (by omega)).wr W268 (by omega))
                  obtain ⟨v275, _, ⟨T275, L275, k275, n275⟩, -, X275, ⟨Lc275, hQ275, l275, y275, z275⟩, st275⟩ := X268.specialBack hx (y := (⟨"java/lang/String", "<init>", "([C)V"⟩ : MethodName)) rfl hown (mvT hZ (own_w hw 56 rfl)) (mvT hZ (own_w hw 57 rfl)) (mvT hZ (own_w hw 58 rfl)) (by decide) (StrChars.Road.backV (W := 1) hZ (own_words hw) (kI := 4) (own_w hw 7 rfl) (cs := ([(nar .char u0), (nar .char u1), (nar .char u2), (nar .char u3), (nar .char u4), (nar .char u5), (nar .char u6), (nar .char u7)] : List Int32)) (bs := ([(nar .char u0), (nar .char u1), (nar .char u2), (nar .char u3), (nar .char u4), (nar .char u5), (nar .char u6), (nar .char u7)] : List Int32).map (fun c => c.toInt8.toInt32)) (n := 8) (n0 := n0) (by omega) (by omega) f271 f272 f273 V268 (S_cs.ext f274.2) hcs rfl rfl (by decide) (by decide) hcs270 rfl (by decide) (by decide)) (g := (mkF m 361 #[.val (.ref a1), .val (.int p2)] [(.ref b228), (.ref b226), (.ref b226)])) rfl (by rw [hml]; rfl) (Steps.refl _) (a := b226) (argsL := [(.ref b228)]) (rest := [(.ref b226)]) (lenOf pd_3 rfl) rfl (by show 2 * 0 + _ ≤ _; exact Nat.le_of_eq rfl) (hb hby d10_361) (fun _ _ => ⟨rfl, e268, (by decide : 2 + 1 ≤ _), (by decide : 12 + 8 ≤ _)⟩)
                  dsimp only [Pt.U, Pt.locs, Pt.cells, Pt.slots] at X275 l275 y275 z275 st275 hQ275
                  replace y275 : k275 = 3 := y275.trans (by decide)
                  replace z275 : n275 = 20 := z275.trans (by decide)
                  subst l275 y275 z275
                  obtain ⟨rfl, N275q, K275, Ex275, Fc275, t275, kb275, -, -, -, Fv275, Va275⟩ := hQ275
                  have N275 := Fr.app N268 N275q
                  refine GoJ.tr st275 ?_
                  have hs276 : h268.size ≤ T275.heap.size := K275.1
                  have Sn275 : own_Str Z T275.heap b226 ([(nar .char u0), (nar .char u1), (nar .char u2), (nar .char u3), (nar .char u4), (nar .char u5), (nar .char u6), (nar .char u7)] : List Int32) := ⟨t275, kb275, Ex275, Fv275, Fc275, Va275, Nat.le_of_ble_eq_true rfl, hcs270⟩
                  show GoJ _ _ _ _ _ _ _ _ (T275.setTop (mkF m 364 #[.val (.ref a1), .val (.int p2)] [(.ref b226)]))
                  refine GoJ.out X275 hS (by omega) (own_J.keep hJ ((((((((((((Keep.refl h0 []).ext E226).ext E228).wr W233 (Or.inr (by omega))).wr W238 (Or.inr (by omega))).wr W243 (Or.inr (by omega))).wr W248 (Or.inr (by omega))).wr W253 (Or.inr (by omega))).wr W258 (Or.inr (by omega))).wr W263 (Or.inr (by omega))).wr W268 (Or.inr (by omega))).trans K275 (allS (Or.inr (by omega)) all0))) (v := some (.ref b226)) (fun h => by rw [Bd.returns] at h; cases h) hlk (fun fs hr => retOut X275 hx (t := (.object "java/lang/String")) Bd.returns rfl (Or.inr (Or.inr (Or.inr (Or.inr ⟨rfl, rfl, rfl⟩)))) (hb hby d10_364) hr) ?_ (by decide) (by decide)
                  show Q10 Z a1 p2 cs h0 n0 _ T275.heap _
                  exact ⟨b226, _, rfl, N275, ((((((((((((Keep.refl h0 []).ext E226).ext E228).wr W233 (Or.inr (by omega))).wr W238 (Or.inr (by omega))).wr W243 (Or.inr (by omega))).wr W248 (Or.inr (by omega))).wr W253 (Or.inr (by omega))).wr W258 (Or.inr (by omega))).wr W263 (Or.inr (by omega))).wr W268 (Or.inr (by omega))).trans K275 (allS (Or.inr (by omega)) all0)), Sn275⟩
  · skip
    refine GoJ.of (fun t k => XS.ifNo X0.here hx rfl (hb hby d10_1) rfl ((if0 _ _).trans (flt hc1_1).2.2.1) k) ?_
    show GoJ _ _ _ _ _ _ _ _ (s₁.setTop (mkF m 4 #[.val (.ref a1), .val (.int p2)] []))
    obtain ⟨T277, h277, X277, e277, E277, A277, D277, -, st277⟩ := newO X0 hx hZ hown (own_w hw 55 rfl) (own_w hw 7 rfl) (own_w hw 6 rfl) e0 (g := (mkF m 4 #[.val (.ref a1), .val (.int p2)] [])) rfl (hb hby d10_4) (by decide) (by decide)
    obtain ⟨b277, g277⟩ : ∃ z, z = h0.size := ⟨_, rfl⟩
    rw [← g277] at A277 D277 st277
    have lt277 : b277 < h277.size := A277.lt
    refine GoJ.of st277 ?_
    have hs278 : h0.size ≤ h277.size := E277.1
    have F277_value : Fld Z h277 b277 "java/lang/String" "value" "[B" .null := D277 (Or.inr (own_w hw 9 rfl)) (ty := (.array .byte)) (by decide)
    have F277_coder : Fld Z h277 b277 "java/lang/String" "coder" "B" (.int (0 : Int32)) := D277 (Or.inr (own_w hw 10 rfl)) (ty := .byte) (by decide)
    show GoJ _ _ _ _ _ _ _ _ (T277.setTop (mkF m 7 #[.val (.ref a1), .val (.int p2)] [(.ref b277)]))
    refine GoJ.of (fun t k => XS.dup X277.here hx rfl (hb hby d10_7) rfl rfl k) ?_
    show GoJ _ _ _ _ _ _ _ _ (T277.setTop (mkF m 8 #[.val (.ref a1), .val (.int p2)] [(.ref b277), (.ref b277)]))
    refine GoJ.of (fun t k => XS.iconst X277.here hx rfl (hb hby d10_8) k) ?_
    show GoJ _ _ _ _ _ _ _ _ (T277.setTop (mkF m 9 #[.val (.ref a1), .val (.int p2)] [(.int (0 : Int32)), (.ref b277), (.ref b277)]))
    obtain ⟨T279, h279, k279, X279, e279, E279, A279, st279⟩ := newP X277 hx hZ (own_w hw 26 rfl) e277 (g := (mkF m 9 #[.val (.ref a1), .val (.int p2)] [(.int (0 : Int32)), (.ref b277), (.ref b277)])) rfl (hb hby d10_9) rfl (by decide) (cap := 0) (by decide) (by decide) (by decide) (by decide)
    obtain ⟨b279, g279⟩ : ∃ z, z = h277.size := ⟨_, rfl⟩
    rw [← g279] at A279 st279
    have lt279 : b279 < h279.size := A279.lt
    refine GoJ.of st279 ?_
    have hs280 : h277.size ≤ h279.size := E279.1
    have V279 : Arv Z h279 b279 k279 .char (0 : Int32) [] (.int (0 : Int32)) := (Arv.new A279 (by decide)).pad (pad_rep [] (.int (0 : Int32)) 0)
    show GoJ _ _ _ _ _ _ _ _ (T279.setTop (mkF m 11 #[.val (.ref a1), .val (.int p2)] [(.ref b279), (.ref b277), (.ref b277)]))
    have f281 := ((O0.ext E277).ext E279)
    have f282 := (A277.ext E279)
    have f283 := (F277_value.ext E279)
    have f284 := (F277_coder.ext E279)
    obtain ⟨_, _, ⟨T285, L285, k285, n285⟩, -, X285, hS285, hgr285, ⟨Lc285, hQ285, hJ285, l285, y285, z285⟩, st285⟩ := X279.specialBackS hx (y := (⟨"java/lang/String", "<init>", "([C)V"⟩ : MethodName)) rfl hown (mvT hZ (own_w hw 56 rfl)) (mvT hZ (own_w hw 57 rfl)) (mvT hZ (own_w hw 58 rfl)) (by decide) (backOfJ (W := 1) (rmE1 l Z a0 hw [] b277 b279 k279 h279 n0 (by omega) f281 hcw hh0' hh1' hh2' hh3' hh4' hh5' f282 (by omega) f283 f284 V279) hZ (own_w hw 58 rfl) (own_w hw 6 rfl) (by decide) (by decide)) (g := (mkF m 11 #[.val (.ref a1), .val (.int p2)] [(.ref b279), (.ref b277), (.ref b277)])) rfl (by rw [hml]; rfl) (Steps.refl _) (a := b277) (argsL := [(.ref b279)]) (rest := [(.ref b277)]) (lenOf pd_3 rfl) rfl (by show 2 * 0 + _ ≤ _; exact Nat.le_of_eq rfl) (hb hby d10_11) (fun _ hw1 => ⟨rfl, e279, own_J.warm (own_J.keep hJ (((Keep.refl h0 []).ext E277).ext E279)) hw1, (by decide : 2 + 2 ≤ _), (by decide : 4 + 4 ≤ _)⟩)
    dsimp only [Pt.U, Pt.locs, Pt.cells, Pt.slots] at X285 l285 y285 z285 st285 hQ285 hS285 hgr285 hJ285
    replace y285 : k285 = 4 := y285.trans (by decide)
    replace z285 : n285 = 8 := z285.trans (by decide)
    subst y285 z285
    obtain ⟨X285, hS', hZ', hown'⟩ := rebS hS (by rw [e279]; omega) X285 hS285 hgr285 hZ hown
    have hk : T285.heap.size ≤ T285.heap.size := Nat.le_refl _
    have hS := hS'
    have hZ := hZ'
    have hown := hown'
    obtain ⟨rfl, N285q, K285, Se285⟩ := hQ285
    have N285 : Fr n0 L285 := by rw [l285]; exact Fr.app N0 N285q
    clear l285
    refine GoJ.tr st285 ?_
    have hs286 : h279.size ≤ T285.heap.size := K285.1
    show GoJ _ _ _ _ _ _ _ _ (T285.setTop (mkF m 14 #[.val (.ref a1), .val (.int p2)] [(.ref b277)]))
    refine GoJ.out X285 hS (by omega) hJ285 (v := some (.ref b277)) (fun h => by rw [Bd.returns] at h; cases h) hlk (fun fs hr => retOut X285 hx (t := (.object "java/lang/String")) Bd.returns rfl (Or.inr (Or.inr (Or.inr (Or.inr ⟨rfl, rfl, rfl⟩)))) (hb hby d10_14) hr) ?_ (by decide) (by decide)
    show Q10 Z a1 p2 cs h0 n0 _ T285.heap _
    exact ⟨b277, _, rfl, N285, ((((Keep.refl h0 []).ext E277).ext E279).trans K285 (allS (Or.inr (by omega)) all0)), Se285⟩
theorem pd_4 : parseMethodDescriptor "(Ljava/lang/Object;)Z" = some ⟨[(.object "java/lang/Object")], some .boolean⟩ := by decide +kernel
theorem d17_0 : decode method_4_code 0 = .ok (.aload_n 0, 1) := by decide +kernel
theorem d17_1 : decode method_4_code 1 = .ok (.ifnonnull 5, 3) := by decide +kernel
theorem d17_6 : decode method_4_code 6 = .ok (.aload_n 0, 1) := by decide +kernel
theorem d17_7 : decode method_4_code 7 = .ok (.ldc 53, 2) := by decide +kernel
theorem d17_9 : decode method_4_code 9 = .ok (.invokevirtual 63, 3) := by decide +kernel
theorem d17_12 : decode method_4_code 12 = .ok (.ifCond .eq 7, 3) := by decide +kernel
theorem d17_15 : decode method_4_code 15 = .ok (.getstatic 67, 3) := by decide +kernel
theorem d17_18 : decode method_4_code 18 = .ok (.areturn, 1) := by decide +kernel
theorem d17_19 : decode method_4_code 19 = .ok (.aload_n 0, 1) := by decide +kernel
theorem d17_20 : decode method_4_code 20 = .ok (.ldc 55, 2) := by decide +kernel
theorem d17_22 : decode method_4_code 22 = .ok (.invokevirtual 63, 3) := by decide +kernel
theorem d17_25 : decode method_4_code 25 = .ok (.ifCond .eq 7, 3) := by decide +kernel
theorem d17_28 : decode method_4_code 28 = .ok (.getstatic 71, 3) := by decide +kernel
theorem d17_31 : decode method_4_code 31 = .ok (.areturn, 1) := by decide +kernel
theorem d17_32 : decode method_4_code 32 = .ok (.aload_n 0, 1) := by decide +kernel
theorem d17_33 : decode method_4_code 33 = .ok (.ldc 57, 2) := by decide +kernel
theorem d17_35 : decode method_4_code 35 = .ok (.invokevirtual 63, 3) := by decide +kernel
theorem d17_38 : decode method_4_code 38 = .ok (.ifCond .eq 7, 3) := by decide +kernel
theorem d17_41 : decode method_4_code 41 = .ok (.getstatic 74, 3) := by decide +kernel
theorem d17_44 : decode method_4_code 44 = .ok (.areturn, 1) := by decide +kernel
theorem d17_45 : decode method_4_code 45 = .ok (.aload_n 0, 1) := by decide +kernel
theorem d17_46 : decode method_4_code 46 = .ok (.ldc 59, 2) := by decide +kernel
theorem d17_48 : decode method_4_code 48 = .ok (.invokevirtual 63, 3) := by decide +kernel
theorem d17_51 : decode method_4_code 51 = .ok (.ifCond .eq 7, 3) := by decide +kernel
theorem d17_54 : decode method_4_code 54 = .ok (.getstatic 77, 3) := by decide +kernel
theorem d17_57 : decode method_4_code 57 = .ok (.areturn, 1) := by decide +kernel
theorem d17_58 : decode method_4_code 58 = .ok (.aload_n 0, 1) := by decide +kernel
theorem d17_59 : decode method_4_code 59 = .ok (.ldc 61, 2) := by decide +kernel
theorem d17_61 : decode method_4_code 61 = .ok (.invokevirtual 63, 3) := by decide +kernel
theorem d17_64 : decode method_4_code 64 = .ok (.ifCond .eq 7, 3) := by decide +kernel
theorem d17_67 : decode method_4_code 67 = .ok (.getstatic 80, 3) := by decide +kernel
theorem d17_70 : decode method_4_code 70 = .ok (.areturn, 1) := by decide +kernel
theorem d17_71 : decode method_4_code 71 = .ok (.aconst_null, 1) := by decide +kernel
theorem d17_72 : decode method_4_code 72 = .ok (.areturn, 1) := by decide +kernel
def QXS (Z : State) (a1 : Nat) (xs : List Int32) (cs : Int32) (w0 : Nat) (w1 : Nat) (w2 : Nat) (w3 : Nat) (w4 : Nat) (h0 : Heap) (n0 : Nat) (v : Option Value) (h : Heap) (L : List Loc) : Prop := v = some (own_ev xs w0 w1 w2 w3 w4) ∧ Fr n0 L ∧ Keep h0 h []
set_option maxRecDepth 65536 in
set_option maxHeartbeats 40000000 in
theorem rmXS (l : Launch) (Z : State) (a0 : Array Value) (hw : ∀ d ∈ tables_1, d.before a0 Z = true) (ws : List Jvm.Cond) (a1 : Nat) (xs : List Int32) (cs : Int32) (w0 : Nat) (w1 : Nat) (w2 : Nat) (w3 : Nat) (w4 : Nat) (h0 : Heap) (n0 : Nat) (Z0 : n0 ≤ h0.size) (O0 : Old Z n0 h0) (hcw : Jvm.Lit.compactW.before a0 Z = true) (hh0' : Jvm.Lit.constHeld Z "java/lang/String" 7) (hh1' : Jvm.Lit.constHeld Z "com/example/clearstep/clearstep/core/EventKindFromWordPinLaw" 53) (hh2' : Jvm.Lit.constHeld Z "com/example/clearstep/clearstep/core/EventKindFromWordPinLaw" 55) (hh3' : Jvm.Lit.constHeld Z "com/example/clearstep/clearstep/core/EventKindFromWordPinLaw" 57) (hh4' : Jvm.Lit.constHeld Z "com/example/clearstep/clearstep/core/EventKindFromWordPinLaw" 59) (hh5' : Jvm.Lit.constHeld Z "com/example/clearstep/clearstep/core/EventKindFromWordPinLaw" 61) (S_cs : Sta Z Z.heap "java/lang/String" "COMPACT_STRINGS" "Z" (.int cs)) (hcs : ¬ cs = (0 : Int32)) (S_k0 : Sta Z Z.heap "com/example/clearstep/clearstep/core/EventKind" "CAPTURE" "Lcom/example/clearstep/clearstep/core/EventKind;" (.ref w0)) (S_k1 : Sta Z Z.heap "com/example/clearstep/clearstep/core/EventKind" "RELEASE" "Lcom/example/clearstep/clearstep/core/EventKind;" (.ref w1)) (S_k2 : Sta Z Z.heap "com/example/clearstep/clearstep/core/EventKind" "SHIP" "Lcom/example/clearstep/clearstep/core/EventKind;" (.ref w2)) (S_k3 : Sta Z Z.heap "com/example/clearstep/clearstep/core/EventKind" "REFUND" "Lcom/example/clearstep/clearstep/core/EventKind;" (.ref w3)) (S_k4 : Sta Z Z.heap "com/example/clearstep/clearstep/core/EventKind" "CLOSE" "Lcom/example/clearstep/clearstep/core/EventKind;" (.ref w4)) (S1 : own_Str Z h0 a1 xs) :
    MetFree l (⟨"com/example/clearstep/clearstep/core/EventKindFromWordPinLaw", "expected", "(Ljava/lang/String;)Lcom/example/clearstep/clearstep/core/EventKind;"⟩ : MethodName) (head1 (Jvm.Cond.code (⟨"com/example/clearstep/clearstep/core/EventKindFromWordPinLaw", "expected", "(Ljava/lang/String;)Lcom/example/clearstep/clearstep/core/EventKind;"⟩ : MethodName) method_4_code 1 (some (.object "com/example/clearstep/clearstep/core/EventKind")) :: ws) ({ frames := 2, cells := 10, slots := 136, locals := 29 } : Room)) (fun a U => a = #[(.ref a1)] ∧ Z.Warmed39 U.vm ∧ U.heap = h0 ∧ own_J Z U.vm h0) (fun _ _ _ _ _ => True) (fun _ U o U' => ∃ v L, o = .returned v ∧ QXS Z a1 xs cs w0 w1 w2 w3 w4 h0 n0 v U'.heap L ∧ own_J Z U'.vm U'.heap ∧ ReturnedEndW U o U' L ({ frames := 2, cells := 10, slots := 136, locals := 29 } : Room).cells ({ frames := 2, cells := 10, slots := 136, locals := 29 } : Room).slots) := by
  refine MetFree.of_bodySF (plainFor_of_name pn_1) hisR ?_
  intro p e s m args below meth c s₁ Bd hml0 hP hK
  obtain ⟨rfl, hZ, hh, hJ⟩ := hP
  have hx := Bd.exec
  have hby := Bd.bytes
  have hml : c.maxLocals = 1 := hml0
  have hown : s.vm.findClass "com/example/clearstep/clearstep/core/EventKindFromWordPinLaw" = some m.cls := findClass_of_methodNamed Bd.named
  have hnm := (name_of_methodNamed Bd.named Bd.method).1
  have hlk : meth.locks = false := BodyLoose.notSynchronized Bd
  have X0 : Stand p l e ({ frames := 2, cells := 10, slots := 136, locals := 29 } : Room) (s.setVm s.vm) m #[(.ref a1)] below meth c s₁ [] 0 0 := Stand.of_body Bd
  have hS : s.Since s.vm 0 := (State.WarmedH.refl s).since 0
  have hk : 0 ≤ h0.size := Nat.zero_le _
  have hZ : Z.Warmed39 (s.setVm s.vm).vm := hZ
  have hown : (s.setVm s.vm).vm.findClass "com/example/clearstep/clearstep/core/EventKindFromWordPinLaw" = some m.cls := hown
  have e0 : s₁.heap = h0 := by rw [← hh, Bd.state]; rfl
  have N0 := Fr.nil n0
  have hef : entryFrame m #[(.ref a1)] 1 = mkF m 0 #[.val (.ref a1)] [] := by first | (simp [entryFrame, mkF, argsToLocals, Value.category]; done) | rfl
  show GoJ p e below s ({ frames := 2, cells := 10, slots := 136, locals := 29 } : Room).cells ({ frames := 2, cells := 10, slots := 136, locals := 29 } : Room).slots Z (QXS Z a1 xs cs w0 w1 w2 w3 w4 h0 n0) (s₁.setTop (entryFrame m #[(.ref a1)] 1))
  rw [hef]
  refine GoJ.of (fun t k => XS.aloadN X0.here hx rfl (hb hby d17_0) rfl rfl k) ?_
  show GoJ _ _ _ _ _ _ _ _ (s₁.setTop (mkF m 1 #[.val (.ref a1)] [(.ref a1)]))
  refine GoJ.of (fun t k => XS.ifnonnullYes X0.here hx rfl (pc0 := 1) (pc' := 6) rfl (hb hby d17_1) rfl (by decide) (by decide) k) ?_
  show GoJ _ _ _ _ _ _ _ _ (s₁.setTop (mkF m 6 #[.val (.ref a1)] []))
  refine GoJ.of (fun t k => XS.aloadN X0.here hx rfl (hb hby d17_6) rfl rfl k) ?_
  show GoJ _ _ _ _ _ _ _ _ (s₁.setTop (mkF m 7 #[.val (.ref a1)] [(.ref a1)]))
  obtain ⟨la1, T1, h1, k1, vm1, X1, e1, E1, hS', hk', hZ', hown', Sa1, Li1, hJ1, st1⟩ := own_ldcJ_1 X0 hx hZ hown hw e0 hS (by omega) (Fr.nil _) (fun b cl q => by rw [show (s : State).heap = h0 from hh]; exact O0.2.2 b cl q) hJ hh1' hcw (g := (mkF m 7 #[.val (.ref a1)] [(.ref a1)])) rfl (hb hby d17_7) (by decide) (by decide)
  have hS := hS'
  have hk := hk'
  have hZ := hZ'
  have hown := hown'
  refine GoJ.of st1 ?_
  have hs2 : h0.size ≤ h1.size := E1.1
  show GoJ _ _ _ _ _ _ _ _ (T1.setTop (mkF m 9 #[.val (.ref a1)] [(.ref la1), (.ref a1)]))
  have f3 := (S1.keep ((Keep.refl h0 []).ext E1))
  obtain ⟨t4, kt4, E4, Fv4, Fc4, Va4, l84, hr4⟩ := id f3
  obtain ⟨t5, kt5, E5, Fv5, Fc5, Va5, l85, hr5⟩ := id Sa1
  have f6 := (O0.ext E1)
  obtain ⟨cq7, kq7, q7a, q7b, q7c⟩ := isOf hZ e1 E4
  obtain ⟨v7, _, ⟨T7, L7, k7, n7⟩, -, X7, ⟨Lc7, hQ7, l7, y7, z7⟩, st7⟩ := X1.virtualBack hx (y := (⟨"java/lang/String", "equals", "(Ljava/lang/Object;)Z"⟩ : MethodName)) (z := (⟨"java/lang/String", "equals", "(Ljava/lang/Object;)Z"⟩ : MethodName)) hown (mvT hZ (own_w hw 80 rfl)) (mvT hZ (own_w hw 81 rfl)) (notFace_of_selects (args := #[]) (mvT hZ (own_w hw 83 rfl))) (mvT hZ (own_w hw 83 rfl)) (mvT hZ (own_w hw 82 rfl)) (by decide) (StrChars.Road.eqW (W := 0) hZ (own_wordsEq hw) (kI := 4) (own_w hw 7 rfl) E4 Fv4 Fc4 Va4 (own_Str.cod hr4) (own_Str.up hr4) (by omega) E5 Fv5 Fc5 Va5 (own_Str.cod hr5) (own_Str.up hr5) (by omega) (S_cs.ext f6.2) hcs (by decide) (by decide)) q7a q7c (g := (mkF m 9 #[.val (.ref a1)] [(.ref la1), (.ref a1)])) rfl (by rw [hml]; rfl) (Steps.refl _) (argsL := [(.ref la1)]) (rest := []) (lenOf pd_4 rfl) rfl (by show 2 * 0 + _ ≤ _; exact Nat.le_of_eq rfl) (hb hby d17_9) (fun _ _ => ⟨rfl, e1, (by decide : 2 + 0 ≤ _), (by decide : 32 + 0 ≤ _)⟩)
  dsimp only [Pt.U, Pt.locs, Pt.cells, Pt.slots] at X7 l7 y7 z7 st7 hQ7
  replace y7 : k7 = 2 := y7.trans (by decide)
  replace z7 : n7 = 32 := z7.trans (by decide)
  subst l7 y7 z7
  obtain ⟨hv7, rfl, e7⟩ := hQ7
  rcases hv7 with ⟨rfl, hq7⟩ | ⟨rfl, hq7⟩
  · skip
    have N7 := Fr.app N0 (Fr.nil n0)
    refine GoJ.tr st7 ?_
    show GoJ _ _ _ _ _ _ _ _ (T7.setTop (mkF m 12 #[.val (.ref a1)] [(.int (1 : Int32))]))
    refine GoJ.of (fun t k => XS.ifNo X7.here hx rfl (hb hby d17_12) rfl ((if0 _ _).trans (feq (by decide : ¬ ((1 : Int32) = (0 : Int32)))).1) k) ?_
    show GoJ _ _ _ _ _ _ _ _ (T7.setTop (mkF m 15 #[.val (.ref a1)] []))
    obtain ⟨T8, X8, e8, st8⟩ := getS2 X7 hx hZ hown (host := "") (Or.inl (own_w hw 157 rfl)) Via.refl e7 (S_k0.ext f6.2) (g := (mkF m 15 #[.val (.ref a1)] [])) rfl (hb hby d17_15)
    refine GoJ.of st8 ?_
    show GoJ _ _ _ _ _ _ _ _ (T8.setTop (mkF m 18 #[.val (.ref a1)] [(.ref w0)]))
    refine GoJ.out X8 hS (by rw [e8]; omega) (by rw [e8]; exact hJ1) (v := some (.ref w0)) (fun h => by rw [Bd.returns] at h; cases h) hlk (fun fs hr => retOut X8 hx (t := (.object "com/example/clearstep/clearstep/core/EventKind")) Bd.returns rfl (Or.inr (Or.inr (Or.inr (Or.inr ⟨rfl, rfl, rfl⟩)))) (hb hby d17_18) hr) ?_ (by decide) (by decide)
    show QXS Z a1 xs cs w0 w1 w2 w3 w4 h0 n0 _ T8.heap _
    rw [e8]
    exact ⟨(by show some _ = some _; unfold own_ev; rw [if_pos hq7]), N7, ((Keep.refl h0 []).ext E1)⟩
  · skip
    have N7 := Fr.app N0 (Fr.nil n0)
    refine GoJ.tr st7 ?_
    show GoJ _ _ _ _ _ _ _ _ (T7.setTop (mkF m 12 #[.val (.ref a1)] [(.int (0 : Int32))]))
    refine GoJ.of (fun t k => XS.ifYes X7.here hx rfl (pc0 := 12) (pc' := 19) rfl (hb hby d17_12) rfl ((if0 _ _).trans (teq (by decide : (0 : Int32) = (0 : Int32))).1) (by decide) (by decide) k) ?_
    show GoJ _ _ _ _ _ _ _ _ (T7.setTop (mkF m 19 #[.val (.ref a1)] []))
    refine GoJ.of (fun t k => XS.aloadN X7.here hx rfl (hb hby d17_19) rfl rfl k) ?_
    show GoJ _ _ _ _ _ _ _ _ (T7.setTop (mkF m 20 #[.val (.ref a1)] [(.ref a1)]))
    obtain ⟨la9, T9, h9, k9, vm9, X9, e9, E9, hS', hk', hZ', hown', Sa9, Li9, hJ9, st9⟩ := own_ldcJ_2 X7 hx hZ hown hw e7 hS (by omega) (Fr.app (Fr.nil _) (Fr.nil _)) (fun b cl q => by rw [show (s : State).heap = h0 from hh]; exact O0.2.2 b cl q) hJ1 hh2' hcw (g := (mkF m 20 #[.val (.ref a1)] [(.ref a1)])) rfl (hb hby d17_20) (by decide) (by decide)
    have hS := hS'
    have hk := hk'
    have hZ := hZ'
    have hown := hown'
    refine GoJ.of st9 ?_
    have hs10 : h1.size ≤ h9.size := E9.1
    show GoJ _ _ _ _ _ _ _ _ (T9.setTop (mkF m 22 #[.val (.ref a1)] [(.ref la9), (.ref a1)]))
    have f11 := (S1.keep (((Keep.refl h0 []).ext E1).ext E9))
    obtain ⟨t12, kt12, E12, Fv12, Fc12, Va12, l812, hr12⟩ := id f11
    obtain ⟨t13, kt13, E13, Fv13, Fc13, Va13, l813, hr13⟩ := id Sa9
    have f14 := (f6.ext E9)
    obtain ⟨cq15, kq15, q15a, q15b, q15c⟩ := isOf hZ e9 E12
    obtain ⟨v15, _, ⟨T15, L15, k15, n15⟩, -, X15, ⟨Lc15, hQ15, l15, y15, z15⟩, st15⟩ := X9.virtualBack hx (y := (⟨"java/lang/String", "equals", "(Ljava/lang/Object;)Z"⟩ : MethodName)) (z := (⟨"java/lang/String", "equals", "(Ljava/lang/Object;)Z"⟩ : MethodName)) hown (mvT hZ (own_w hw 80 rfl)) (mvT hZ (own_w hw 81 rfl)) (notFace_of_selects (args := #[]) (mvT hZ (own_w hw 83 rfl))) (mvT hZ (own_w hw 83 rfl)) (mvT hZ (own_w hw 82 rfl)) (by decide) (StrChars.Road.eqW (W := 0) hZ (own_wordsEq hw) (kI := 4) (own_w hw 7 rfl) E12 Fv12 Fc12 Va12 (own_Str.cod hr12) (own_Str.up hr12) (by omega) E13 Fv13 Fc13 Va13 (own_Str.cod hr13) (own_Str.up hr13) (by omega) (S_cs.ext f14.2) hcs (by decide) (by decide)) q15a q15c (g := (mkF m 22 #[.val (.ref a1)] [(.ref la9), (.ref a1)])) rfl (by rw [hml]; rfl) (Steps.refl _) (argsL := [(.ref la9)]) (rest := []) (lenOf pd_4 rfl) rfl (by show 2 * 0 + _ ≤ _; exact Nat.le_of_eq rfl) (hb hby d17_22) (fun _ _ => ⟨rfl, e9, (by decide : 4 + 0 ≤ _), (by decide : 64 + 0 ≤ _)⟩)
    dsimp only [Pt.U, Pt.locs, Pt.cells, Pt.slots] at X15 l15 y15 z15 st15 hQ15
    replace y15 : k15 = 4 := y15.trans (by decide)
    replace z15 : n15 = 64 := z15.trans (by decide)
    subst l15 y15 z15
    obtain ⟨hv15, rfl, e15⟩ := hQ15
    rcases hv15 with ⟨rfl, hq15⟩ | ⟨rfl, hq15⟩
    · skip
      have N15 := Fr.app N7 (Fr.nil n0)
      refine GoJ.tr st15 ?_
      show GoJ _ _ _ _ _ _ _ _ (T15.setTop (mkF m 25 #[.val (.ref a1)] [(.int (1 : Int32))]))
      refine GoJ.of (fun t k => XS.ifNo X15.here hx rfl (hb hby d17_25) rfl ((if0 _ _).trans (feq (by decide : ¬ ((1 : Int32) = (0 : Int32)))).1) k) ?_
      show GoJ _ _ _ _ _ _ _ _ (T15.setTop (mkF m 28 #[.val (.ref a1)] []))
      obtain ⟨T16, X16, e16, st16⟩ := getS2 X15 hx hZ hown (host := "") (Or.inl (own_w hw 161 rfl)) Via.refl e15 (S_k1.ext f14.2) (g := (mkF m 28 #[.val (.ref a1)] [])) rfl (hb hby d17_28)
      refine GoJ.of st16 ?_
      show GoJ _ _ _ _ _ _ _ _ (T16.setTop (mkF m 31 #[.val (.ref a1)] [(.ref w1)]))
      refine GoJ.out X16 hS (by rw [e16]; omega) (by rw [e16]; exact hJ9) (v := some (.ref w1)) (fun h => by rw [Bd.returns] at h; cases h) hlk (fun fs hr => retOut X16 hx (t := (.object "com/example/clearstep/clearstep/core/EventKind")) Bd.returns rfl (Or.inr (Or.inr (Or.inr (Or.inr ⟨rfl, rfl, rfl⟩)))) (hb hby d17_31) hr) ?_ (by decide) (by decide)
      show QXS Z a1 xs cs w0 w1 w2 w3 w4 h0 n0 _ T16.heap _
      rw [e16]
      exact ⟨(by show some _ = some _; unfold own_ev; rw [if_neg hq7, if_pos hq15]), N15, (((Keep.refl h0 []).ext E1).ext E9)⟩
    · skip
      have N15 := Fr.app N7 (Fr.nil n0)
      refine GoJ.tr st15 ?_
      show GoJ _ _ _ _ _ _ _ _ (T15.setTop (mkF m 25 #[.val (.ref a1)] [(.int (0 : Int32))]))
      refine GoJ.of (fun t k => XS.ifYes X15.here hx rfl (pc0 := 25) (pc' := 32) rfl (hb hby d17_25) rfl ((if0 _ _).trans (teq (by decide : (0 : Int32) = (0 : Int32))).1) (by decide) (by decide) k) ?_
      show GoJ _ _ _ _ _ _ _ _ (T15.setTop (mkF m 32 #[.val (.ref a1)] []))
      refine GoJ.of (fun t k => XS.aloadN X15.here hx rfl (hb hby d17_32) rfl rfl k) ?_
      show GoJ _ _ _ _ _ _ _ _ (T15.setTop (mkF m 33 #[.val (.ref a1)] [(.ref a1)]))
      obtain ⟨la17, T17, h17, k17, vm17, X17, e17, E17, hS', hk', hZ', hown', Sa17, Li17, hJ17, st17⟩ := own_ldcJ_3 X15 hx hZ hown hw e15 hS (by omega) (Fr.app (Fr.app (Fr.nil _) (Fr.nil _)) (Fr.nil _)) (fun b cl q => by rw [show (s : State).heap = h0 from hh]; exact O0.2.2 b cl q) hJ9 hh3' hcw (g := (mkF m 33 #[.val (.ref a1)] [(.ref a1)])) rfl (hb hby d17_33) (by decide) (by decide)
      have hS := hS'
      have hk := hk'
      have hZ := hZ'
      have hown := hown'
      refine GoJ.of st17 ?_
      have hs18 : h9.size ≤ h17.size := E17.1
      show GoJ _ _ _ _ _ _ _ _ (T17.setTop (mkF m 35 #[.val (.ref a1)] [(.ref la17), (.ref a1)]))
      have f19 := (S1.keep ((((Keep.refl h0 []).ext E1).ext E9).ext E17))
      obtain ⟨t20, kt20, E20, Fv20, Fc20, Va20, l820, hr20⟩ := id f19
      obtain ⟨t21, kt21, E21, Fv21, Fc21, Va21, l821, hr21⟩ := id Sa17
      have f22 := (f14.ext E17)
      obtain ⟨cq23, kq23, q23a, q23b, q23c⟩ := isOf hZ e17 E20
      obtain ⟨v23, _, ⟨T23, L23, k23, n23⟩, -, X23, ⟨Lc23, hQ23, l23, y23, z23⟩, st23⟩ := X17.virtualBack hx (y := (⟨"java/lang/String", "equals", "(Ljava/lang/Object;)Z"⟩ : MethodName)) (z := (⟨"java/lang/String", "equals", "(Ljava/lang/Object;)Z"⟩ : MethodName)) hown (mvT hZ (own_w hw 80 rfl)) (mvT hZ (own_w hw 81 rfl)) (notFace_of_selects (args := #[]) (mvT hZ (own_w hw 83 rfl))) (mvT hZ (own_w hw 83 rfl)) (mvT hZ (own_w hw 82 rfl)) (by decide) (StrChars.Road.eqW (W := 0) hZ (own_wordsEq hw) (kI := 4) (own_w hw 7 rfl) E20 Fv20 Fc20 Va20 (own_Str.cod hr20) (own_Str.up hr20) (by omega) E21 Fv21 Fc21 Va21 (own_Str.cod hr21) (own_Str.up hr21) (by omega) (S_cs.ext f22.2) hcs (by decide) (by decide)) q23a q23c (g := (mkF m 35 #[.val (.ref a1)] [(.ref la17), (.ref a1)])) rfl (by rw [hml]; rfl) (Steps.refl _) (argsL := [(.ref la17)]) (rest := []) (lenOf pd_4 rfl) rfl (by show 2 * 0 + _ ≤ _; exact Nat.le_of_eq rfl) (hb hby d17_35) (fun _ _ => ⟨rfl, e17, (by decide : 6 + 0 ≤ _), (by decide : 84 + 0 ≤ _)⟩)
      dsimp only [Pt.U, Pt.locs, Pt.cells, Pt.slots] at X23 l23 y23 z23 st23 hQ23
      replace y23 : k23 = 6 := y23.trans (by decide)
      replace z23 : n23 = 84 := z23.trans (by decide)
      subst l23 y23 z23
      obtain ⟨hv23, rfl, e23⟩ := hQ23
      rcases hv23 with ⟨rfl, hq23⟩ | ⟨rfl, hq23⟩
      · skip
        have N23 := Fr.app N15 (Fr.nil n0)
        refine GoJ.tr st23 ?_
        show GoJ _ _ _ _ _ _ _ _ (T23.setTop (mkF m 38 #[.val (.ref a1)] [(.int (1 : Int32))]))
        refine GoJ.of (fun t k => XS.ifNo X23.here hx rfl (hb hby d17_38) rfl ((if0 _ _).trans (feq (by decide : ¬ ((1 : Int32) = (0 : Int32)))).1) k) ?_
        show GoJ _ _ _ _ _ _ _ _ (T23.setTop (mkF m 41 #[.val (.ref a1)] []))
        obtain ⟨T24, X24, e24, st24⟩ := getS2 X23 hx hZ hown (host := "") (Or.inl (own_w hw 160 rfl)) Via.refl e23 (S_k2.ext f22.2) (g := (mkF m 41 #[.val (.ref a1)] [])) rfl (hb hby d17_41)
        refine GoJ.of st24 ?_
        show GoJ _ _ _ _ _ _ _ _ (T24.setTop (mkF m 44 #[.val (.ref a1)] [(.ref w2)]))
        refine GoJ.out X24 hS (by rw [e24]; omega) (by rw [e24]; exact hJ17) (v := some (.ref w2)) (fun h => by rw [Bd.returns] at h; cases h) hlk (fun fs hr => retOut X24 hx (t := (.object "com/example/clearstep/clearstep/core/EventKind")) Bd.returns rfl (Or.inr (Or.inr (Or.inr (Or.inr ⟨rfl, rfl, rfl⟩)))) (hb hby d17_44) hr) ?_ (by decide) (by decide)
        show QXS Z a1 xs cs w0 w1 w2 w3 w4 h0 n0 _ T24.heap _
        rw [e24]
        exact ⟨(by show some _ = some _; unfold own_ev; rw [if_neg hq7, if_neg hq15, if_pos hq23]), N23, ((((Keep.refl h0 []).ext E1).ext E9).ext E17)⟩
      · skip
        have N23 := Fr.app N15 (Fr.nil n0)
        refine GoJ.tr st23 ?_
        show GoJ _ _ _ _ _ _ _ _ (T23.setTop (mkF m 38 #[.val (.ref a1)] [(.int (0 : Int32))]))
        refine GoJ.of (fun t k => XS.ifYes X23.here hx rfl (pc0 := 38) (pc' := 45) rfl (hb hby d17_38) rfl ((if0 _ _).trans (teq (by decide : (0 : Int32) = (0 : Int32))).1) (by decide) (by decide) k) ?_
        show GoJ _ _ _ _ _ _ _ _ (T23.setTop (mkF m 45 #[.val (.ref a1)] []))
        refine GoJ.of (fun t k => XS.aloadN X23.here hx rfl (hb hby d17_45) rfl rfl k) ?_
        show GoJ _ _ _ _ _ _ _ _ (T23.setTop (mkF m 46 #[.val (.ref a1)] [(.ref a1)]))
        obtain ⟨la25, T25, h25, k25, vm25, X25, e25, E25, hS', hk', hZ', hown', Sa25, Li25, hJ25, st25⟩ := own_ldcJ_4 X23 hx hZ hown hw e23 hS (by omega) (Fr.app (Fr.app (Fr.app (Fr.nil _) (Fr.nil _)) (Fr.nil _)) (Fr.nil _)) (fun b cl q => by rw [show (s : State).heap = h0 from hh]; exact O0.2.2 b cl q) hJ17 hh4' hcw (g := (mkF m 46 #[.val (.ref a1)] [(.ref a1)])) rfl (hb hby d17_46) (by decide) (by decide)
        have hS := hS'
        have hk := hk'
        have hZ := hZ'
        have hown := hown'
        refine GoJ.of st25 ?_
        have hs26 : h17.size ≤ h25.size := E25.1
        show GoJ _ _ _ _ _ _ _ _ (T25.setTop (mkF m 48 #[.val (.ref a1)] [(.ref la25), (.ref a1)]))
        have f27 := (S1.keep (((((Keep.refl h0 []).ext E1).ext E9).ext E17).ext E25))
        obtain ⟨t28, kt28, E28, Fv28, Fc28, Va28, l828, hr28⟩ := id f27
        obtain ⟨t29, kt29, E29, Fv29, Fc29, Va29, l829, hr29⟩ := id Sa25
        have f30 := (f22.ext E25)
        obtain ⟨cq31, kq31, q31a, q31b, q31c⟩ := isOf hZ e25 E28
        obtain ⟨v31, _, ⟨T31, L31, k31, n31⟩, -, X31, ⟨Lc31, hQ31, l31, y31, z31⟩, st31⟩ := X25.virtualBack hx (y := (⟨"java/lang/String", "equals", "(Ljava/lang/Object;)Z"⟩ : MethodName)) (z := (⟨"java/lang/String", "equals", "(Ljava/lang/Object;)Z"⟩ : MethodName)) hown (mvT hZ (own_w hw 80 rfl)) (mvT hZ (own_w hw 81 rfl)) (notFace_of_selects (args := #[]) (mvT hZ (own_w hw 83 rfl))) (mvT hZ (own_w hw 83 rfl)) (mvT hZ (own_w hw 82 rfl)) (by decide) (StrChars.Road.eqW (W := 0) hZ (own_wordsEq hw) (kI := 4) (own_w hw 7 rfl) E28 Fv28 Fc28 Va28 (own_Str.cod hr28) (own_Str.up hr28) (by omega) E29 Fv29 Fc29 Va29 (own_Str.cod hr29) (own_Str.up hr29) (by omega) (S_cs.ext f30.2) hcs (by decide) (by decide)) q31a q31c (g := (mkF m 48 #[.val (.ref a1)] [(.ref la25), (.ref a1)])) rfl (by rw [hml]; rfl) (Steps.refl _) (argsL := [(.ref la25)]) (rest := []) (lenOf pd_4 rfl) rfl (by show 2 * 0 + _ ≤ _; exact Nat.le_of_eq rfl) (hb hby d17_48) (fun _ _ => ⟨rfl, e25, (by decide : 8 + 0 ≤ _), (by decide : 112 + 0 ≤ _)⟩)
        dsimp only [Pt.U, Pt.locs, Pt.cells, Pt.slots] at X31 l31 y31 z31 st31 hQ31
        replace y31 : k31 = 8 := y31.trans (by decide)
        replace z31 : n31 = 112 := z31.trans (by decide)
        subst l31 y31 z31
        obtain ⟨hv31, rfl, e31⟩ := hQ31
        rcases hv31 with ⟨rfl, hq31⟩ | ⟨rfl, hq31⟩
        · skip
          have N31 := Fr.app N23 (Fr.nil n0)
          refine GoJ.tr st31 ?_
          show GoJ _ _ _ _ _ _ _ _ (T31.setTop (mkF m 51 #[.val (.ref a1)] [(.int (1 : Int32))]))
          refine GoJ.of (fun t k => XS.ifNo X31.here hx rfl (hb hby d17_51) rfl ((if0 _ _).trans (feq (by decide : ¬ ((1 : Int32) = (0 : Int32)))).1) k) ?_
          show GoJ _ _ _ _ _ _ _ _ (T31.setTop (mkF m 54 #[.val (.ref a1)] []))
          obtain ⟨T32, X32, e32, st32⟩ := getS2 X31 hx hZ hown (host := "") (Or.inl (own_w hw 91 rfl)) Via.refl e31 (S_k3.ext f30.2) (g := (mkF m 54 #[.val (.ref a1)] [])) rfl (hb hby d17_54)
          refine GoJ.of st32 ?_
          show GoJ _ _ _ _ _ _ _ _ (T32.setTop (mkF m 57 #[.val (.ref a1)] [(.ref w3)]))
          refine GoJ.out X32 hS (by rw [e32]; omega) (by rw [e32]; exact hJ25) (v := some (.ref w3)) (fun h => by rw [Bd.returns] at h; cases h) hlk (fun fs hr => retOut X32 hx (t := (.object "com/example/clearstep/clearstep/core/EventKind")) Bd.returns rfl (Or.inr (Or.inr (Or.inr (Or.inr ⟨rfl, rfl, rfl⟩)))) (hb hby d17_57) hr) ?_ (by decide) (by decide)
          show QXS Z a1 xs cs w0 w1 w2 w3 w4 h0 n0 _ T32.heap _
          rw [e32]
          exact ⟨(by show some _ = some _; unfold own_ev; rw [if_neg hq7, if_neg hq15, if_neg hq23, if_pos hq31]), N31, (((((Keep.refl h0 []).ext E1).ext E9).ext E17).ext E25)⟩
        · skip
          have N31 := Fr.app N23 (Fr.nil n0)
          refine GoJ.tr st31 ?_
          show GoJ _ _ _ _ _ _ _ _ (T31.setTop (mkF m 51 #[.val (.ref a1)] [(.int (0 : Int32))]))
          refine GoJ.of (fun t k => XS.ifYes X31.here hx rfl (pc0 := 51) (pc' := 58) rfl (hb hby d17_51) rfl ((if0 _ _).trans (teq (by decide : (0 : Int32) = (0 : Int32))).1) (by decide) (by decide) k) ?_
          show GoJ _ _ _ _ _ _ _ _ (T31.setTop (mkF m 58 #[.val (.ref a1)] []))
          refine GoJ.of (fun t k => XS.aloadN X31.here hx rfl (hb hby d17_58) rfl rfl k) ?_
          show GoJ _ _ _ _ _ _ _ _ (T31.setTop (mkF m 59 #[.val (.ref a1)] [(.ref a1)]))
          obtain ⟨la33, T33, h33, k33, vm33, X33, e33, E33, hS', hk', hZ', hown', Sa33, Li33, hJ33, st33⟩ := own_ldcJ_5 X31 hx hZ hown hw e31 hS (by omega) (Fr.app (Fr.app (Fr.app (Fr.app (Fr.nil _) (Fr.nil _)) (Fr.nil _)) (Fr.nil _)) (Fr.nil _)) (fun b cl q => by rw [show (s : State).heap = h0 from hh]; exact O0.2.2 b cl q) hJ25 hh5' hcw (g := (mkF m 59 #[.val (.ref a1)] [(.ref a1)])) rfl (hb hby d17_59) (by decide) (by decide)
          have hS := hS'
          have hk := hk'
          have hZ := hZ'
          have hown := hown'
          refine GoJ.of st33 ?_
          have hs34 : h25.size ≤ h33.size := E33.1
          show GoJ _ _ _ _ _ _ _ _ (T33.setTop (mkF m 61 #[.val (.ref a1)] [(.ref la33), (.ref a1)]))
          have f35 := (S1.keep ((((((Keep.refl h0 []).ext E1).ext E9).ext E17).ext E25).ext E33))
          obtain ⟨t36, kt36, E36, Fv36, Fc36, Va36, l836, hr36⟩ := id f35
          obtain ⟨t37, kt37, E37, Fv37, Fc37, Va37, l837, hr37⟩ := id Sa33
          have f38 := (f30.ext E33)
          obtain ⟨cq39, kq39, q39a, q39b, q39c⟩ := isOf hZ e33 E36
          obtain ⟨v39, _, ⟨T39, L39, k39, n39⟩, -, X39, ⟨Lc39, hQ39, l39, y39, z39⟩, st39⟩ := X33.virtualBack hx (y := (⟨"java/lang/String", "equals", "(Ljava/lang/Object;)Z"⟩ : MethodName)) (z := (⟨"java/lang/String", "equals", "(Ljava/lang/Object;)Z"⟩ : MethodName)) hown (mvT hZ (own_w hw 80 rfl)) (mvT hZ (own_w hw 81 rfl)) (notFace_of_selects (args := #[]) (mvT hZ (own_w hw 83 rfl))) (mvT hZ (own_w hw 83 rfl)) (mvT hZ (own_w hw 82 rfl)) (by decide) (StrChars.Road.eqW (W := 0) hZ (own_wordsEq hw) (kI := 4) (own_w hw 7 rfl) E36 Fv36 Fc36 Va36 (own_Str.cod hr36) (own_Str.up hr36) (by omega) E37 Fv37 Fc37 Va37 (own_Str.cod hr37) (own_Str.up hr37) (by omega) (S_cs.ext f38.2) hcs (by decide) (by decide)) q39a q39c (g := (mkF m 61 #[.val (.ref a1)] [(.ref la33), (.ref a1)])) rfl (by rw [hml]; rfl) (Steps.refl _) (argsL := [(.ref la33)]) (rest := []) (lenOf pd_4 rfl) rfl (by show 2 * 0 + _ ≤ _; exact Nat.le_of_eq rfl) (hb hby d17_61) (fun _ _ => ⟨rfl, e33, (by decide : 10 + 0 ≤ _), (by decide : 136 + 0 ≤ _)⟩)
          dsimp only [Pt.U, Pt.locs, Pt.cells, Pt.slots] at X39 l39 y39 z39 st39 hQ39
          replace y39 : k39 = 10 := y39.trans (by decide)
          replace z39 : n39 = 136 := z39.trans (by decide)
          subst l39 y39 z39
          obtain ⟨hv39, rfl, e39⟩ := hQ39
          rcases hv39 with ⟨rfl, hq39⟩ | ⟨rfl, hq39⟩
          · skip
            have N39 := Fr.app N31 (Fr.nil n0)
            refine GoJ.tr st39 ?_
            show GoJ _ _ _ _ _ _ _ _ (T39.setTop (mkF m 64 #[.val (.ref a1)] [(.int (1 : Int32))]))
            refine GoJ.of (fun t k => XS.ifNo X39.here hx rfl (hb hby d17_64) rfl ((if0 _ _).trans (feq (by decide : ¬ ((1 : Int32) = (0 : Int32)))).1) k) ?_
            show GoJ _ _ _ _ _ _ _ _ (T39.setTop (mkF m 67 #[.val (.ref a1)] []))
            obtain ⟨T40, X40, e40, st40⟩ := getS2 X39 hx hZ hown (host := "") (Or.inl (own_w hw 159 rfl)) Via.refl e39 (S_k4.ext f38.2) (g := (mkF m 67 #[.val (.ref a1)] [])) rfl (hb hby d17_67)
            refine GoJ.of st40 ?_
            show GoJ _ _ _ _ _ _ _ _ (T40.setTop (mkF m 70 #[.val (.ref a1)] [(.ref w4)]))
            refine GoJ.out X40 hS (by rw [e40]; omega) (by rw [e40]; exact hJ33) (v := some (.ref w4)) (fun h => by rw [Bd.returns] at h; cases h) hlk (fun fs hr => retOut X40 hx (t := (.object "com/example/clearstep/clearstep/core/EventKind")) Bd.returns rfl (Or.inr (Or.inr (Or.inr (Or.inr ⟨rfl, rfl, rfl⟩)))) (hb hby d17_70) hr) ?_ (by decide) (by decide)
            show QXS Z a1 xs cs w0 w1 w2 w3 w4 h0 n0 _ T40.heap _
            rw [e40]
            exact ⟨(by show some _ = some _; unfold own_ev; rw [if_neg hq7, if_neg hq15, if_neg hq23, if_neg hq31, if_pos hq39]), N39, ((((((Keep.refl h0 []).ext E1).ext E9).ext E17).ext E25).ext E33)⟩
          · skip
            have N39 := Fr.app N31 (Fr.nil n0)
            refine GoJ.tr st39 ?_
            show GoJ _ _ _ _ _ _ _ _ (T39.setTop (mkF m 64 #[.val (.ref a1)] [(.int (0 : Int32))]))
            refine GoJ.of (fun t k => XS.ifYes X39.here hx rfl (pc0 := 64) (pc' := 71) rfl (hb hby d17_64) rfl ((if0 _ _).trans (teq (by decide : (0 : Int32) = (0 : Int32))).1) (by decide) (by decide) k) ?_
            show GoJ _ _ _ _ _ _ _ _ (T39.setTop (mkF m 71 #[.val (.ref a1)] []))
            refine GoJ.of (fun t k => XS.aconstNull X39.here hx rfl (hb hby d17_71) k) ?_
            show GoJ _ _ _ _ _ _ _ _ (T39.setTop (mkF m 72 #[.val (.ref a1)] [.null]))
            refine GoJ.out X39 hS (by rw [e39]; omega) (by rw [e39]; exact hJ33) (v := some .null) (fun h => by rw [Bd.returns] at h; cases h) hlk (fun fs hr => retOut X39 hx (t := (.object "com/example/clearstep/clearstep/core/EventKind")) Bd.returns rfl (Or.inr (Or.inr (Or.inr (Or.inr ⟨rfl, rfl, rfl⟩)))) (hb hby d17_72) hr) ?_ (by decide) (by decide)
            show QXS Z a1 xs cs w0 w1 w2 w3 w4 h0 n0 _ T39.heap _
            rw [e39]
            exact ⟨(by show some _ = some _; unfold own_ev; rw [if_neg hq7, if_neg hq15, if_neg hq23, if_neg hq31, if_neg hq39]), N39, ((((((Keep.refl h0 []).ext E1).ext E9).ext E17).ext E25).ext E33)⟩
theorem d17_4 : decode method_4_code 4 = .ok (.aconst_null, 1) := by decide +kernel
theorem d17_5 : decode method_4_code 5 = .ok (.areturn, 1) := by decide +kernel
def QXN (Z : State)  (h0 : Heap) (n0 : Nat) (v : Option Value) (h : Heap) (L : List Loc) : Prop := v = some .null ∧ Fr n0 L ∧ h = h0
set_option maxRecDepth 65536 in
set_option maxHeartbeats 40000000 in
theorem rmXN (l : Launch) (Z : State) (a0 : Array Value) (hw : ∀ d ∈ tables_1, d.before a0 Z = true) (ws : List Jvm.Cond)  (h0 : Heap) (n0 : Nat) (Z0 : n0 ≤ h0.size) :
    MetFree l (⟨"com/example/clearstep/clearstep/core/EventKindFromWordPinLaw", "expected", "(Ljava/lang/String;)Lcom/example/clearstep/clearstep/core/EventKind;"⟩ : MethodName) (head1 (Jvm.Cond.code (⟨"com/example/clearstep/clearstep/core/EventKindFromWordPinLaw", "expected", "(Ljava/lang/String;)Lcom/example/clearstep/clearstep/core/EventKind;"⟩ : MethodName) method_4_code 1 (some (.object "com/example/clearstep/clearstep/core/EventKind")) :: ws) ({ frames := 0, cells := 0, slots := 0, locals := 0 } : Room)) (fun a U => a = #[.null] ∧ Z.Warmed39 U.vm ∧ U.heap = h0) (fun _ _ _ _ _ => True) (fun _ U o U' => ∃ v L, o = .returned v ∧ QXN Z  h0 n0 v U'.heap L ∧ FrameEnd U o U' L ({ frames := 0, cells := 0, slots := 0, locals := 0 } : Room).cells ({ frames := 0, cells := 0, slots := 0, locals := 0 } : Room).slots) := by
  refine MetFree.of_bodySF (plainFor_of_name pn_1) hisR ?_
  intro p e s m args below meth c s₁ Bd hml0 hP hK
  obtain ⟨rfl, hZ, hh⟩ := hP
  have hx := Bd.exec
  have hby := Bd.bytes
  have hml : c.maxLocals = 1 := hml0
  have hown : s.vm.findClass "com/example/clearstep/clearstep/core/EventKindFromWordPinLaw" = some m.cls := findClass_of_methodNamed Bd.named
  have hnm := (name_of_methodNamed Bd.named Bd.method).1
  have hlk : meth.locks = false := BodyLoose.notSynchronized Bd
  have X0 : Stand p l e ({ frames := 0, cells := 0, slots := 0, locals := 0 } : Room) s m #[.null] below meth c s₁ [] 0 0 := Stand.of_body Bd
  have e0 : s₁.heap = h0 := by rw [← hh, Bd.state]; rfl
  have N0 := Fr.nil n0
  have hef : entryFrame m #[.null] 1 = mkF m 0 #[.val .null] [] := by first | (simp [entryFrame, mkF, argsToLocals, Value.category]; done) | rfl
  show Go p e below s ({ frames := 0, cells := 0, slots := 0, locals := 0 } : Room).cells ({ frames := 0, cells := 0, slots := 0, locals := 0 } : Room).slots (QXN Z  h0 n0) (s₁.setTop (entryFrame m #[.null] 1))
  rw [hef]
  refine Go.of (fun t k => XS.aloadN X0.here hx rfl (hb hby d17_0) rfl rfl k) ?_
  show Go _ _ _ _ _ _ _ (s₁.setTop (mkF m 1 #[.val .null] [.null]))
  refine Go.of (fun t k => XS.ifnonnullNo X0.here hx rfl (hb hby d17_1) rfl k) ?_
  show Go _ _ _ _ _ _ _ (s₁.setTop (mkF m 4 #[.val .null] []))
  refine Go.of (fun t k => XS.aconstNull X0.here hx rfl (hb hby d17_4) k) ?_
  show Go _ _ _ _ _ _ _ (s₁.setTop (mkF m 5 #[.val .null] [.null]))
  refine Go.out X0 (v := some .null) (fun h => by rw [Bd.returns] at h; cases h) hlk (fun fs hr => retOut X0 hx (t := (.object "com/example/clearstep/clearstep/core/EventKind")) Bd.returns rfl (Or.inr (Or.inr (Or.inr (Or.inr ⟨rfl, rfl, rfl⟩)))) (hb hby d17_5) hr) ?_ (by decide) (by decide)
  show QXN Z  h0 n0 _ s₁.heap _
  rw [e0]
  exact ⟨rfl, N0, rfl⟩
theorem pn_2 : plainName "java/util/Objects" = true := by first | (simp [plainName, overriddenIn]; done) | decide +kernel
theorem d23_0 : decode jdk_31_method_10_code 0 = .ok (.aload_n 0, 1) := by decide +kernel
theorem d23_1 : decode jdk_31_method_10_code 1 = .ok (.ifnonnull 11, 3) := by decide +kernel
theorem d23_12 : decode jdk_31_method_10_code 12 = .ok (.aload_n 0, 1) := by decide +kernel
theorem d23_13 : decode jdk_31_method_10_code 13 = .ok (.areturn, 1) := by decide +kernel
def Q23 (Z : State) (a1 : Nat) (h0 : Heap) (n0 : Nat) (v : Option Value) (h : Heap) (L : List Loc) : Prop := v = some (.ref a1) ∧ Fr n0 L ∧ h = h0
set_option maxRecDepth 65536 in
set_option maxHeartbeats 40000000 in
theorem rm23 (l : Launch) (Z : State) (a0 : Array Value) (hw : ∀ d ∈ tables_1, d.before a0 Z = true) (ws : List Jvm.Cond) (a1 : Nat) (h0 : Heap) (n0 : Nat) (Z0 : n0 ≤ h0.size) :
    MetFree l (⟨"java/util/Objects", "requireNonNull", "(Ljava/lang/Object;)Ljava/lang/Object;"⟩ : MethodName) (head1 (Jvm.Cond.code (⟨"java/util/Objects", "requireNonNull", "(Ljava/lang/Object;)Ljava/lang/Object;"⟩ : MethodName) jdk_31_method_10_code 1 (some (.object "java/lang/Object")) :: ws) ({ frames := 0, cells := 0, slots := 0, locals := 0 } : Room)) (fun a U => a = #[(.ref a1)] ∧ Z.Warmed39 U.vm ∧ U.heap = h0) (fun _ _ _ _ _ => True) (fun _ U o U' => ∃ v L, o = .returned v ∧ Q23 Z a1 h0 n0 v U'.heap L ∧ FrameEnd U o U' L ({ frames := 0, cells := 0, slots := 0, locals := 0 } : Room).cells ({ frames := 0, cells := 0, slots := 0, locals := 0 } : Room).slots) := by
  refine MetFree.of_bodySF (plainFor_of_name pn_2) hisR ?_
  intro p e s m args below meth c s₁ Bd hml0 hP hK
  obtain ⟨rfl, hZ, hh⟩ := hP
  have hx := Bd.exec
  have hby := Bd.bytes
  have hml : c.maxLocals = 1 := hml0
  have hown : s.vm.findClass "java/util/Objects" = some m.cls := findClass_of_methodNamed Bd.named
  have hnm := (name_of_methodNamed Bd.named Bd.method).1
  have hlk : meth.locks = false := BodyLoose.notSynchronized Bd
  have X0 : Stand p l e ({ frames := 0, cells := 0, slots := 0, locals := 0 } : Room) s m #[(.ref a1)] below meth c s₁ [] 0 0 := Stand.of_body Bd
  have e0 : s₁.heap = h0 := by rw [← hh, Bd.state]; rfl
  have N0 := Fr.nil n0
  have hef : entryFrame m #[(.ref a1)] 1 = mkF m 0 #[.val (.ref a1)] [] := by first | (simp [entryFrame, mkF, argsToLocals, Value.category]; done) | rfl
  show Go p e below s ({ frames := 0, cells := 0, slots := 0, locals := 0 } : Room).cells ({ frames := 0, cells := 0, slots := 0, locals := 0 } : Room).slots (Q23 Z a1 h0 n0) (s₁.setTop (entryFrame m #[(.ref a1)] 1))
  rw [hef]
  refine Go.of (fun t k => XS.aloadN X0.here hx rfl (hb hby d23_0) rfl rfl k) ?_
  show Go _ _ _ _ _ _ _ (s₁.setTop (mkF m 1 #[.val (.ref a1)] [(.ref a1)]))
  refine Go.of (fun t k => XS.ifnonnullYes X0.here hx rfl (pc0 := 1) (pc' := 12) rfl (hb hby d23_1) rfl (by decide) (by decide) k) ?_
  show Go _ _ _ _ _ _ _ (s₁.setTop (mkF m 12 #[.val (.ref a1)] []))
  refine Go.of (fun t k => XS.aloadN X0.here hx rfl (hb hby d23_12) rfl rfl k) ?_
  show Go _ _ _ _ _ _ _ (s₁.setTop (mkF m 13 #[.val (.ref a1)] [(.ref a1)]))
  refine Go.out X0 (v := some (.ref a1)) (fun h => by rw [Bd.returns] at h; cases h) hlk (fun fs hr => retOut X0 hx (t := (.object "java/lang/Object")) Bd.returns rfl (Or.inr (Or.inr (Or.inr (Or.inr ⟨rfl, rfl, rfl⟩)))) (hb hby d23_13) hr) ?_ (by decide) (by decide)
  show Q23 Z a1 h0 n0 _ s₁.heap _
  rw [e0]
  exact ⟨rfl, N0, rfl⟩
theorem pn_3 : plainName "java/util/Optional" = true := by first | (simp [plainName, overriddenIn]; done) | decide +kernel
theorem d24_0 : decode jdk_32_method_2_code 0 = .ok (.aload_n 0, 1) := by decide +kernel
theorem d24_1 : decode jdk_32_method_2_code 1 = .ok (.invokespecial 7, 3) := by decide +kernel
theorem d24_4 : decode jdk_32_method_2_code 4 = .ok (.aload_n 0, 1) := by decide +kernel
theorem d24_5 : decode jdk_32_method_2_code 5 = .ok (.aload_n 1, 1) := by decide +kernel
theorem d24_6 : decode jdk_32_method_2_code 6 = .ok (.putfield 13, 3) := by decide +kernel
theorem d24_9 : decode jdk_32_method_2_code 9 = .ok (.return_, 1) := by decide +kernel
def Q24 (Z : State) (a1 : Nat) (a2 : Nat) (h0 : Heap) (n0 : Nat) (v : Option Value) (h : Heap) (L : List Loc) : Prop := v = none ∧ Fr n0 L ∧ Keep h0 h [a1] ∧ Exa Z h a1 "java/util/Optional" ∧ Fld Z h a1 "java/util/Optional" "value" "Ljava/lang/Object;" (.ref a2)
set_option maxRecDepth 65536 in
set_option maxHeartbeats 40000000 in
theorem rm24 (l : Launch) (Z : State) (a0 : Array Value) (hw : ∀ d ∈ tables_1, d.before a0 Z = true) (ws : List Jvm.Cond) (a1 : Nat) (a2 : Nat) (h0 : Heap) (n0 : Nat) (Z0 : n0 ≤ h0.size) (E1 : Exa Z h0 a1 "java/util/Optional") (g1 : n0 ≤ a1) (F1 : Fld Z h0 a1 "java/util/Optional" "value" "Ljava/lang/Object;" .null) :
    MetFree l (⟨"java/util/Optional", "<init>", "(Ljava/lang/Object;)V"⟩ : MethodName) (head1 (Jvm.Cond.code (⟨"java/util/Optional", "<init>", "(Ljava/lang/Object;)V"⟩ : MethodName) jdk_32_method_2_code 2 none :: ws) ({ frames := 1, cells := 0, slots := 0, locals := 12 } : Room)) (fun a U => a = #[(.ref a1), (.ref a2)] ∧ Z.Warmed39 U.vm ∧ U.heap = h0) (fun _ _ _ _ _ => True) (fun _ U o U' => ∃ v L, o = .returned v ∧ Q24 Z a1 a2 h0 n0 v U'.heap L ∧ FrameEnd U o U' L ({ frames := 1, cells := 0, slots := 0, locals := 12 } : Room).cells ({ frames := 1, cells := 0, slots := 0, locals := 12 } : Room).slots) := by
  refine MetFree.of_bodySF (plainFor_of_name pn_3) hisR ?_
  intro p e s m args below meth c s₁ Bd hml0 hP hK
  obtain ⟨rfl, hZ, hh⟩ := hP
  have hx := Bd.exec
  have hby := Bd.bytes
  have hml : c.maxLocals = 2 := hml0
  have hown : s.vm.findClass "java/util/Optional" = some m.cls := findClass_of_methodNamed Bd.named
  have hnm := (name_of_methodNamed Bd.named Bd.method).1
  have hlk : meth.locks = false := BodyLoose.notSynchronized Bd
  have X0 : Stand p l e ({ frames := 1, cells := 0, slots := 0, locals := 12 } : Room) s m #[(.ref a1), (.ref a2)] below meth c s₁ [] 0 0 := Stand.of_body Bd
  have e0 : s₁.heap = h0 := by rw [← hh, Bd.state]; rfl
  have N0 := Fr.nil n0
  have hef : entryFrame m #[(.ref a1), (.ref a2)] 2 = mkF m 0 #[.val (.ref a1), .val (.ref a2)] [] := by first | (simp [entryFrame, mkF, argsToLocals, Value.category]; done) | rfl
  show Go p e below s ({ frames := 1, cells := 0, slots := 0, locals := 12 } : Room).cells ({ frames := 1, cells := 0, slots := 0, locals := 12 } : Room).slots (Q24 Z a1 a2 h0 n0) (s₁.setTop (entryFrame m #[(.ref a1), (.ref a2)] 2))
  rw [hef]
  refine Go.of (fun t k => XS.aloadN X0.here hx rfl (hb hby d24_0) rfl rfl k) ?_
  show Go _ _ _ _ _ _ _ (s₁.setTop (mkF m 1 #[.val (.ref a1), .val (.ref a2)] [(.ref a1)]))
  obtain ⟨T1, X1, e1, st1⟩ := initO X0 hx hZ hown (own_w hw 133 rfl) (own_w hw 64 rfl) (own_w hw 65 rfl) e0 (g := (mkF m 1 #[.val (.ref a1), .val (.ref a2)] [(.ref a1)])) rfl (by rw [hml]; rfl) rfl (hb hby d24_1) (by decide) (W := 0) (by show 2 * 0 + _ ≤ _; exact Nat.le_of_eq rfl) (by decide)
  refine Go.of st1 ?_
  show Go _ _ _ _ _ _ _ (T1.setTop (mkF m 4 #[.val (.ref a1), .val (.ref a2)] []))
  refine Go.of (fun t k => XS.aloadN X1.here hx rfl (hb hby d24_4) rfl rfl k) ?_
  show Go _ _ _ _ _ _ _ (T1.setTop (mkF m 5 #[.val (.ref a1), .val (.ref a2)] [(.ref a1)]))
  refine Go.of (fun t k => XS.aloadN X1.here hx rfl (hb hby d24_5) rfl rfl k) ?_
  show Go _ _ _ _ _ _ _ (T1.setTop (mkF m 6 #[.val (.ref a1), .val (.ref a2)] [(.ref a2), (.ref a1)]))
  obtain ⟨T2, h2, X2, e2, W2, st2⟩ := putF X1 hx hZ hown (host := "") (Or.inl (own_w hw 134 rfl)) Via.refl e1 F1 E1 (Or.inr ⟨(own_w hw 135 rfl), rfl, hnm⟩) (own_w hw 124 rfl) (ty := (.object "java/lang/Object")) (by decide) rfl rfl (g := (mkF m 6 #[.val (.ref a1), .val (.ref a2)] [(.ref a2), (.ref a1)])) rfl rfl (hb hby d24_6)
  refine Go.of st2 ?_
  have Fw2 := F1.same W2
  have hs3 : h0.size ≤ h2.size := Nat.le_of_eq W2.size.symm
  have N2 := Fr.snoc X2 N0 g1
  show Go _ _ _ _ _ _ _ (T2.setTop (mkF m 9 #[.val (.ref a1), .val (.ref a2)] []))
  refine Go.out X2 (v := none) (fun _ => rfl) hlk (fun fs hr => X2.returnOut hx Bd.returns (hb hby d24_9) hr) ?_ (by decide) (by decide)
  show Q24 Z a1 a2 h0 n0 _ T2.heap _
  have f4 := (E1.wr W2)
  rw [e2]
  exact ⟨rfl, N2, ((Keep.refl h0 [a1]).wr W2 (Or.inl (List.mem_of_getElem? (i := 0) rfl))), f4, Fw2⟩
theorem pd_5 : parseMethodDescriptor "(Ljava/lang/Object;)Ljava/lang/Object;" = some ⟨[(.object "java/lang/Object")], some (.object "java/lang/Object")⟩ := by decide +kernel
theorem pd_6 : parseMethodDescriptor "(Ljava/lang/Object;)V" = some ⟨[(.object "java/lang/Object")], none⟩ := by decide +kernel
theorem d22_0 : decode jdk_32_method_3_code 0 = .ok (.new 2, 3) := by decide +kernel
theorem d22_3 : decode jdk_32_method_3_code 3 = .ok (.dup, 1) := by decide +kernel
theorem d22_4 : decode jdk_32_method_3_code 4 = .ok (.aload_n 0, 1) := by decide +kernel
theorem d22_5 : decode jdk_32_method_3_code 5 = .ok (.invokestatic 17, 3) := by decide +kernel
theorem d22_8 : decode jdk_32_method_3_code 8 = .ok (.invokespecial 23, 3) := by decide +kernel
theorem d22_11 : decode jdk_32_method_3_code 11 = .ok (.areturn, 1) := by decide +kernel
def Q22 (Z : State) (a2 : Nat) (h0 : Heap) (n0 : Nat) (v : Option Value) (h : Heap) (L : List Loc) : Prop := ∃ b : Nat, v = some (.ref b) ∧ Fr n0 L ∧ Keep h0 h [] ∧ b < h.size ∧ Exa Z h b "java/util/Optional" ∧ Fld Z h b "java/util/Optional" "value" "Ljava/lang/Object;" (.ref a2)
set_option maxRecDepth 65536 in
set_option maxHeartbeats 40000000 in
theorem rm22 (l : Launch) (Z : State) (a0 : Array Value) (hw : ∀ d ∈ tables_1, d.before a0 Z = true) (ws : List Jvm.Cond) (a2 : Nat) (h0 : Heap) (n0 : Nat) (Z0 : n0 ≤ h0.size) :
    MetFree l (⟨"java/util/Optional", "of", "(Ljava/lang/Object;)Ljava/util/Optional;"⟩ : MethodName) (head1 (Jvm.Cond.code (⟨"java/util/Optional", "of", "(Ljava/lang/Object;)Ljava/util/Optional;"⟩ : MethodName) jdk_32_method_3_code 1 (some (.object "java/util/Optional")) :: ws) ({ frames := 2, cells := 1, slots := 1, locals := 26 } : Room)) (fun a U => a = #[(.ref a2)] ∧ Z.Warmed39 U.vm ∧ U.heap = h0) (fun _ _ _ _ _ => True) (fun _ U o U' => ∃ v L, o = .returned v ∧ Q22 Z a2 h0 n0 v U'.heap L ∧ FrameEnd U o U' L ({ frames := 2, cells := 1, slots := 1, locals := 26 } : Room).cells ({ frames := 2, cells := 1, slots := 1, locals := 26 } : Room).slots) := by
  refine MetFree.of_bodySF (plainFor_of_name pn_3) hisR ?_
  intro p e s m args below meth c s₁ Bd hml0 hP hK
  obtain ⟨rfl, hZ, hh⟩ := hP
  have hx := Bd.exec
  have hby := Bd.bytes
  have hml : c.maxLocals = 1 := hml0
  have hown : s.vm.findClass "java/util/Optional" = some m.cls := findClass_of_methodNamed Bd.named
  have hnm := (name_of_methodNamed Bd.named Bd.method).1
  have hlk : meth.locks = false := BodyLoose.notSynchronized Bd
  have X0 : Stand p l e ({ frames := 2, cells := 1, slots := 1, locals := 26 } : Room) s m #[(.ref a2)] below meth c s₁ [] 0 0 := Stand.of_body Bd
  have e0 : s₁.heap = h0 := by rw [← hh, Bd.state]; rfl
  have N0 := Fr.nil n0
  have hef : entryFrame m #[(.ref a2)] 1 = mkF m 0 #[.val (.ref a2)] [] := by first | (simp [entryFrame, mkF, argsToLocals, Value.category]; done) | rfl
  show Go p e below s ({ frames := 2, cells := 1, slots := 1, locals := 26 } : Room).cells ({ frames := 2, cells := 1, slots := 1, locals := 26 } : Room).slots (Q22 Z a2 h0 n0) (s₁.setTop (entryFrame m #[(.ref a2)] 1))
  rw [hef]
  obtain ⟨T1, h1, X1, e1, E1, A1, D1, -, st1⟩ := newO X0 hx hZ hown (own_w hw 123 rfl) (own_w hw 124 rfl) (own_w hw 121 rfl) e0 (g := (mkF m 0 #[.val (.ref a2)] [])) rfl (hb hby d22_0) (by decide) (by decide)
  obtain ⟨b1, g1⟩ : ∃ z, z = h0.size := ⟨_, rfl⟩
  rw [← g1] at A1 D1 st1
  have lt1 : b1 < h1.size := A1.lt
  refine Go.of st1 ?_
  have hs2 : h0.size ≤ h1.size := E1.1
  have F1_value : Fld Z h1 b1 "java/util/Optional" "value" "Ljava/lang/Object;" .null := D1 (Or.inr (own_w hw 135 rfl)) (ty := (.object "java/lang/Object")) (by decide)
  show Go _ _ _ _ _ _ _ (T1.setTop (mkF m 3 #[.val (.ref a2)] [(.ref b1)]))
  refine Go.of (fun t k => XS.dup X1.here hx rfl (hb hby d22_3) rfl rfl k) ?_
  show Go _ _ _ _ _ _ _ (T1.setTop (mkF m 4 #[.val (.ref a2)] [(.ref b1), (.ref b1)]))
  refine Go.of (fun t k => XS.aloadN X1.here hx rfl (hb hby d22_4) rfl rfl k) ?_
  show Go _ _ _ _ _ _ _ (T1.setTop (mkF m 5 #[.val (.ref a2)] [(.ref a2), (.ref b1), (.ref b1)]))
  obtain ⟨_, _, ⟨T3, L3, k3, n3⟩, -, X3, ⟨Lc3, hQ3, l3, y3, z3⟩, st3⟩ := Jvm.LawKit.callS X1 hx (y := (⟨"java/util/Objects", "requireNonNull", "(Ljava/lang/Object;)Ljava/lang/Object;"⟩ : MethodName)) hown (mvT hZ (own_w hw 125 rfl)) (mvT hZ (own_w hw 126 rfl)) (mvT hZ (own_w hw 127 rfl)) (mvT hZ (own_w hw 128 rfl)) (by decide) (backOf (W := 2) (rm23 l Z a0 hw [] a2 h1 n0 (by omega) ) hZ (own_w hw 128 rfl) (own_w hw 127 rfl) (by decide) (by decide)) (g := (mkF m 5 #[.val (.ref a2)] [(.ref a2), (.ref b1), (.ref b1)])) rfl (by rw [hml]; rfl) (argsL := [(.ref a2)]) (rest := [(.ref b1), (.ref b1)]) (lenOf pd_5 rfl) rfl (by show 2 * 0 + _ ≤ _; exact Nat.le_of_eq rfl) (hb hby d22_5) (fun _ _ => ⟨rfl, e1, (by decide : 1 + 0 ≤ _), (by decide : 1 + 0 ≤ _)⟩)
  dsimp only [Pt.U, Pt.locs, Pt.cells, Pt.slots] at X3 l3 y3 z3 st3 hQ3
  replace y3 : k3 = 1 := y3.trans (by decide)
  replace z3 : n3 = 1 := z3.trans (by decide)
  subst y3 z3
  obtain ⟨rfl, N3q, e3⟩ := hQ3
  have N3 : Fr n0 L3 := by rw [l3]; exact Fr.app N0 N3q
  clear l3
  refine Go.of st3 ?_
  show Go _ _ _ _ _ _ _ (T3.setTop (mkF m 8 #[.val (.ref a2)] [(.ref a2), (.ref b1), (.ref b1)]))
  obtain ⟨_, _, ⟨T4, L4, k4, n4⟩, -, X4, ⟨Lc4, hQ4, l4, y4, z4⟩, st4⟩ := X3.specialBack hx (y := (⟨"java/util/Optional", "<init>", "(Ljava/lang/Object;)V"⟩ : MethodName)) rfl hown (mvT hZ (own_w hw 129 rfl)) (mvT hZ (own_w hw 130 rfl)) (mvT hZ (own_w hw 132 rfl)) (by decide) (backOf (W := 1) (rm24 l Z a0 hw [] b1 a2 h1 n0 (by omega) A1 (by omega) F1_value) hZ (own_w hw 132 rfl) (own_w hw 121 rfl) (by decide) (by decide)) (g := (mkF m 8 #[.val (.ref a2)] [(.ref a2), (.ref b1), (.ref b1)])) rfl (by rw [hml]; rfl) (Steps.refl _) (a := b1) (argsL := [(.ref a2)]) (rest := [(.ref b1)]) (lenOf pd_6 rfl) rfl (by show 2 * 0 + _ ≤ _; exact Nat.le_of_eq rfl) (hb hby d22_8) (fun _ _ => ⟨rfl, e3, (by decide : 1 + 0 ≤ _), (by decide : 1 + 0 ≤ _)⟩)
  dsimp only [Pt.U, Pt.locs, Pt.cells, Pt.slots] at X4 l4 y4 z4 st4 hQ4
  replace y4 : k4 = 1 := y4.trans (by decide)
  replace z4 : n4 = 1 := z4.trans (by decide)
  subst y4 z4
  obtain ⟨rfl, N4q, K4, Ex4, Fv4⟩ := hQ4
  have N4 : Fr n0 L4 := by rw [l4]; exact Fr.app N3 N4q
  clear l4
  refine Go.tr st4 ?_
  have hs5 : h1.size ≤ T4.heap.size := K4.1
  show Go _ _ _ _ _ _ _ (T4.setTop (mkF m 11 #[.val (.ref a2)] [(.ref b1)]))
  refine Go.out X4 (v := some (.ref b1)) (fun h => by rw [Bd.returns] at h; cases h) hlk (fun fs hr => retOut X4 hx (t := (.object "java/util/Optional")) Bd.returns rfl (Or.inr (Or.inr (Or.inr (Or.inr ⟨rfl, rfl, rfl⟩)))) (hb hby d22_11) hr) ?_ (by decide) (by decide)
  show Q22 Z a2 h0 n0 _ T4.heap _
  exact ⟨b1, rfl, N4, (((Keep.refl h0 []).ext E1).trans K4 (allS (Or.inr (by omega)) all0)), Ex4.lt, Ex4, Fv4⟩
theorem d27_0 : decode jdk_32_method_1_code 0 = .ok (.getstatic 1, 3) := by decide +kernel
theorem d27_3 : decode jdk_32_method_1_code 3 = .ok (.astore_n 0, 1) := by decide +kernel
theorem d27_4 : decode jdk_32_method_1_code 4 = .ok (.aload_n 0, 1) := by decide +kernel
theorem d27_5 : decode jdk_32_method_1_code 5 = .ok (.areturn, 1) := by decide +kernel
def Q27 (Z : State) (wE : Nat) (h0 : Heap) (n0 : Nat) (v : Option Value) (h : Heap) (L : List Loc) : Prop := v = some (.ref wE) ∧ Fr n0 L ∧ h = h0
set_option maxRecDepth 65536 in
set_option maxHeartbeats 40000000 in
theorem rm27 (l : Launch) (Z : State) (a0 : Array Value) (hw : ∀ d ∈ tables_1, d.before a0 Z = true) (ws : List Jvm.Cond) (wE : Nat) (h0 : Heap) (n0 : Nat) (Z0 : n0 ≤ h0.size) (S_E : Sta Z h0 "java/util/Optional" "EMPTY" "Ljava/util/Optional;" (.ref wE)) :
    MetFree l (⟨"java/util/Optional", "empty", "()Ljava/util/Optional;"⟩ : MethodName) (head1 (Jvm.Cond.code (⟨"java/util/Optional", "empty", "()Ljava/util/Optional;"⟩ : MethodName) jdk_32_method_1_code 1 (some (.object "java/util/Optional")) :: ws) ({ frames := 0, cells := 0, slots := 0, locals := 0 } : Room)) (fun a U => a = #[] ∧ Z.Warmed39 U.vm ∧ U.heap = h0) (fun _ _ _ _ _ => True) (fun _ U o U' => ∃ v L, o = .returned v ∧ Q27 Z wE h0 n0 v U'.heap L ∧ FrameEnd U o U' L ({ frames := 0, cells := 0, slots := 0, locals := 0 } : Room).cells ({ frames := 0, cells := 0, slots := 0, locals := 0 } : Room).slots) := by
  refine MetFree.of_bodySF (plainFor_of_name pn_3) hisR ?_
  intro p e s m args below meth c s₁ Bd hml0 hP hK
  obtain ⟨rfl, hZ, hh⟩ := hP
  have hx := Bd.exec
  have hby := Bd.bytes
  have hml : c.maxLocals = 1 := hml0
  have hown : s.vm.findClass "java/util/Optional" = some m.cls := findClass_of_methodNamed Bd.named
  have hnm := (name_of_methodNamed Bd.named Bd.method).1
  have hlk : meth.locks = false := BodyLoose.notSynchronized Bd
  have X0 : Stand p l e ({ frames := 0, cells := 0, slots := 0, locals := 0 } : Room) s m #[] below meth c s₁ [] 0 0 := Stand.of_body Bd
  have e0 : s₁.heap = h0 := by rw [← hh, Bd.state]; rfl
  have N0 := Fr.nil n0
  have hef : entryFrame m #[] 1 = mkF m 0 #[.unset] [] := by first | (simp [entryFrame, mkF, argsToLocals, Value.category]; done) | rfl
  show Go p e below s ({ frames := 0, cells := 0, slots := 0, locals := 0 } : Room).cells ({ frames := 0, cells := 0, slots := 0, locals := 0 } : Room).slots (Q27 Z wE h0 n0) (s₁.setTop (entryFrame m #[] 1))
  rw [hef]
  obtain ⟨T1, X1, e1, st1⟩ := getS2 X0 hx hZ hown (host := "") (Or.inl (own_w hw 151 rfl)) Via.refl e0 S_E (g := (mkF m 0 #[.unset] [])) rfl (hb hby d27_0)
  refine Go.of st1 ?_
  show Go _ _ _ _ _ _ _ (T1.setTop (mkF m 3 #[.unset] [(.ref wE)]))
  refine Go.of (fun t k => XS.astoreN X1.here hx rfl (hb hby d27_3) rfl rfl (l' := #[.val (.ref wE)]) rfl k) ?_
  show Go _ _ _ _ _ _ _ (T1.setTop (mkF m 4 #[.val (.ref wE)] []))
  refine Go.of (fun t k => XS.aloadN X1.here hx rfl (hb hby d27_4) rfl rfl k) ?_
  show Go _ _ _ _ _ _ _ (T1.setTop (mkF m 5 #[.val (.ref wE)] [(.ref wE)]))
  refine Go.out X1 (v := some (.ref wE)) (fun h => by rw [Bd.returns] at h; cases h) hlk (fun fs hr => retOut X1 hx (t := (.object "java/util/Optional")) Bd.returns rfl (Or.inr (Or.inr (Or.inr (Or.inr ⟨rfl, rfl, rfl⟩)))) (hb hby d27_5) hr) ?_ (by decide) (by decide)
  show Q27 Z wE h0 n0 _ T1.heap _
  rw [e1]
  exact ⟨rfl, N0, rfl⟩
theorem pn_4 : plainName "com/example/clearstep/clearstep/core/EventKind" = true := by first | (simp [plainName, overriddenIn]; done) | decide +kernel
theorem d21_0 : decode prog_46_method_1_code 0 = .ok (.getstatic 19, 3) := by decide +kernel
theorem d21_3 : decode prog_46_method_1_code 3 = .ok (.invokevirtual 23, 3) := by decide +kernel
theorem d21_6 : decode prog_46_method_1_code 6 = .ok (.checkcast 24, 3) := by decide +kernel
theorem d21_9 : decode prog_46_method_1_code 9 = .ok (.areturn, 1) := by decide +kernel
def Q21 (Z : State) (wV : Nat) (kv : ClassId) (w0 : Nat) (w1 : Nat) (w2 : Nat) (w3 : Nat) (w4 : Nat) (h0 : Heap) (n0 : Nat) (v : Option Value) (h : Heap) (L : List Loc) : Prop := ∃ b : Nat, v = some (.ref b) ∧ Fr n0 L ∧ Keep h0 h [] ∧ h0.size ≤ b ∧ Arv Z h b kv (.object "com/example/clearstep/clearstep/core/EventKind") (5 : Int32) [(.ref w0), (.ref w1), (.ref w2), (.ref w3), (.ref w4)] .null
set_option maxRecDepth 65536 in
set_option maxHeartbeats 40000000 in
theorem rm21 (l : Launch) (Z : State) (a0 : Array Value) (hw : ∀ d ∈ tables_1, d.before a0 Z = true) (ws : List Jvm.Cond) (wV : Nat) (kv : ClassId) (w0 : Nat) (w1 : Nat) (w2 : Nat) (w3 : Nat) (w4 : Nat) (h0 : Heap) (n0 : Nat) (Z0 : n0 ≤ h0.size) (S_V : Sta Z h0 "com/example/clearstep/clearstep/core/EventKind" "$VALUES" "[Lcom/example/clearstep/clearstep/core/EventKind;" (.ref wV)) (V_V : Arv Z h0 wV kv (.object "com/example/clearstep/clearstep/core/EventKind") (5 : Int32) [(.ref w0), (.ref w1), (.ref w2), (.ref w3), (.ref w4)] .null) (E_V : Exa Z h0 wV "[Lcom/example/clearstep/clearstep/core/EventKind;") :
    MetFree l (⟨"com/example/clearstep/clearstep/core/EventKind", "values", "()[Lcom/example/clearstep/clearstep/core/EventKind;"⟩ : MethodName) (head1 (Jvm.Cond.code (⟨"com/example/clearstep/clearstep/core/EventKind", "values", "()[Lcom/example/clearstep/clearstep/core/EventKind;"⟩ : MethodName) prog_46_method_1_code 0 (some (.array (.object "com/example/clearstep/clearstep/core/EventKind"))) :: ws) ({ frames := 1, cells := 1, slots := 5, locals := 14 } : Room)) (fun a U => a = #[] ∧ Z.Warmed39 U.vm ∧ U.heap = h0) (fun _ _ _ _ _ => True) (fun _ U o U' => ∃ v L, o = .returned v ∧ Q21 Z wV kv w0 w1 w2 w3 w4 h0 n0 v U'.heap L ∧ FrameEnd U o U' L ({ frames := 1, cells := 1, slots := 5, locals := 14 } : Room).cells ({ frames := 1, cells := 1, slots := 5, locals := 14 } : Room).slots) := by
  refine MetFree.of_bodySF (plainFor_of_name pn_4) hisR ?_
  intro p e s m args below meth c s₁ Bd hml0 hP hK
  obtain ⟨rfl, hZ, hh⟩ := hP
  have hx := Bd.exec
  have hby := Bd.bytes
  have hml : c.maxLocals = 0 := hml0
  have hown : s.vm.findClass "com/example/clearstep/clearstep/core/EventKind" = some m.cls := findClass_of_methodNamed Bd.named
  have hnm := (name_of_methodNamed Bd.named Bd.method).1
  have hlk : meth.locks = false := BodyLoose.notSynchronized Bd
  have X0 : Stand p l e ({ frames := 1, cells := 1, slots := 5, locals := 14 } : Room) s m #[] below meth c s₁ [] 0 0 := Stand.of_body Bd
  have e0 : s₁.heap = h0 := by rw [← hh, Bd.state]; rfl
  have N0 := Fr.nil n0
  have hef : entryFrame m #[] 0 = mkF m 0 #[] [] := by first | (simp [entryFrame, mkF, argsToLocals, Value.category]; done) | rfl
  show Go p e below s ({ frames := 1, cells := 1, slots := 5, locals := 14 } : Room).cells ({ frames := 1, cells := 1, slots := 5, locals := 14 } : Room).slots (Q21 Z wV kv w0 w1 w2 w3 w4 h0 n0) (s₁.setTop (entryFrame m #[] 0))
  rw [hef]
  obtain ⟨T1, X1, e1, st1⟩ := getS2 X0 hx hZ hown (host := "") (Or.inl (own_w hw 100 rfl)) Via.refl e0 S_V (g := (mkF m 0 #[] [])) rfl (hb hby d21_0)
  refine Go.of st1 ?_
  show Go _ _ _ _ _ _ _ (T1.setTop (mkF m 3 #[] [(.ref wV)]))
  obtain ⟨T2, h2, X2, e2, E2, Vh2, A2, st2⟩ := cloneH X1 hx hZ hown (own_w hw 102 rfl) (own_w hw 103 rfl) (own_w hw 107 rfl) (own_w hw 105 rfl) (own_w hw 106 rfl) (own_w hw 108 rfl) e1 V_V.arh E_V (g := (mkF m 3 #[] [(.ref wV)])) rfl (by rw [hml]; rfl) rfl (hb hby d21_3) (by decide) (W := 0) (by show 2 * 0 + _ ≤ _; exact Nat.le_of_eq rfl) (by decide) (cap := 5) (by decide) (by decide) (by decide)
  obtain ⟨b2, g2⟩ : ∃ z, z = h0.size := ⟨_, rfl⟩
  rw [← g2] at Vh2 A2 st2
  have lt2 : b2 < h2.size := A2.lt
  refine Go.of st2 ?_
  have hs3 : h0.size ≤ h2.size := E2.1
  have V2 : Arv Z h2 b2 kv (.object "com/example/clearstep/clearstep/core/EventKind") (5 : Int32) [(.ref w0), (.ref w1), (.ref w2), (.ref w3), (.ref w4)] .null := Vh2
  show Go _ _ _ _ _ _ _ (T2.setTop (mkF m 6 #[] [(.ref b2)]))
  obtain ⟨T4, X4, e4, st4⟩ := castY X2 hx hZ hown (own_w hw 114 rfl) e2 (Ins.self A2) (g := (mkF m 6 #[] [(.ref b2)])) rfl rfl (hb hby d21_6)
  refine Go.of st4 ?_
  show Go _ _ _ _ _ _ _ (T4.setTop (mkF m 9 #[] [(.ref b2)]))
  refine Go.out X4 (v := some (.ref b2)) (fun h => by rw [Bd.returns] at h; cases h) hlk (fun fs hr => retOut X4 hx (t := (.array (.object "com/example/clearstep/clearstep/core/EventKind"))) Bd.returns rfl (Or.inr (Or.inr (Or.inr (Or.inr ⟨rfl, rfl, rfl⟩)))) (hb hby d21_9) hr) ?_ (by decide) (by decide)
  show Q21 Z wV kv w0 w1 w2 w3 w4 h0 n0 _ T4.heap _
  rw [e4]
  exact ⟨b2, rfl, N0, ((Keep.refl h0 []).ext E2), by omega, V2⟩
theorem pd_7 : parseMethodDescriptor "()[Lcom/example/clearstep/clearstep/core/EventKind;" = some ⟨[], some (.array (.object "com/example/clearstep/clearstep/core/EventKind"))⟩ := by decide +kernel
theorem pd_8 : parseMethodDescriptor "(Ljava/lang/Object;)Ljava/util/Optional;" = some ⟨[(.object "java/lang/Object")], some (.object "java/util/Optional")⟩ := by decide +kernel
theorem pd_9 : parseMethodDescriptor "()Ljava/util/Optional;" = some ⟨[], some (.object "java/util/Optional")⟩ := by decide +kernel
theorem d20_0 : decode prog_46_method_8_code 0 = .ok (.invokestatic 49, 3) := by decide +kernel
theorem d20_3 : decode prog_46_method_8_code 3 = .ok (.astore_n 1, 1) := by decide +kernel
theorem d20_4 : decode prog_46_method_8_code 4 = .ok (.aload_n 1, 1) := by decide +kernel
theorem d20_5 : decode prog_46_method_8_code 5 = .ok (.arraylength, 1) := by decide +kernel
theorem d20_6 : decode prog_46_method_8_code 6 = .ok (.istore_n 2, 1) := by decide +kernel
theorem d20_7 : decode prog_46_method_8_code 7 = .ok (.iconst 0, 1) := by decide +kernel
theorem d20_8 : decode prog_46_method_8_code 8 = .ok (.istore_n 3, 1) := by decide +kernel
theorem d20_9 : decode prog_46_method_8_code 9 = .ok (.iload_n 3, 1) := by decide +kernel
theorem d20_10 : decode prog_46_method_8_code 10 = .ok (.iload_n 2, 1) := by decide +kernel
theorem d20_11 : decode prog_46_method_8_code 11 = .ok (.if_icmp .ge 32, 3) := by decide +kernel
theorem d20_14 : decode prog_46_method_8_code 14 = .ok (.aload_n 1, 1) := by decide +kernel
theorem d20_15 : decode prog_46_method_8_code 15 = .ok (.iload_n 3, 1) := by decide +kernel
theorem d20_16 : decode prog_46_method_8_code 16 = .ok (.aaload, 1) := by decide +kernel
theorem d20_17 : decode prog_46_method_8_code 17 = .ok (.astore 4, 2) := by decide +kernel
theorem d20_19 : decode prog_46_method_8_code 19 = .ok (.aload 4, 2) := by decide +kernel
theorem d20_21 : decode prog_46_method_8_code 21 = .ok (.getfield 38, 3) := by decide +kernel
theorem d20_24 : decode prog_46_method_8_code 24 = .ok (.aload_n 0, 1) := by decide +kernel
theorem d20_25 : decode prog_46_method_8_code 25 = .ok (.invokevirtual 53, 3) := by decide +kernel
theorem d20_28 : decode prog_46_method_8_code 28 = .ok (.ifCond .eq 9, 3) := by decide +kernel
theorem d20_31 : decode prog_46_method_8_code 31 = .ok (.aload 4, 2) := by decide +kernel
theorem d20_33 : decode prog_46_method_8_code 33 = .ok (.invokestatic 59, 3) := by decide +kernel
theorem d20_36 : decode prog_46_method_8_code 36 = .ok (.areturn, 1) := by decide +kernel
theorem d20_37 : decode prog_46_method_8_code 37 = .ok (.iinc 3 1, 3) := by decide +kernel
theorem d20_40 : decode prog_46_method_8_code 40 = .ok (.goto (-31), 3) := by decide +kernel
theorem d20_43 : decode prog_46_method_8_code 43 = .ok (.invokestatic 65, 3) := by decide +kernel
theorem d20_46 : decode prog_46_method_8_code 46 = .ok (.areturn, 1) := by decide +kernel
def QFS (Z : State) (a1 : Nat) (xs : List Int32) (cs : Int32) (w0 : Nat) (w1 : Nat) (w2 : Nat) (w3 : Nat) (w4 : Nat) (s0 : Nat) (s1 : Nat) (s2 : Nat) (s3 : Nat) (s4 : Nat) (wE : Nat) (wV : Nat) (kv : ClassId) (h0 : Heap) (n0 : Nat) (v : Option Value) (h : Heap) (L : List Loc) : Prop := ∃ o : Nat, v = some (.ref o) ∧ Fr n0 L ∧ Keep h0 h [] ∧ o < h.size ∧ Exa Z h o "java/util/Optional" ∧ Fld Z h o "java/util/Optional" "value" "Ljava/lang/Object;" (own_ev xs w0 w1 w2 w3 w4)
set_option maxRecDepth 65536 in
set_option maxHeartbeats 40000000 in
theorem rmFS (l : Launch) (Z : State) (a0 : Array Value) (hw : ∀ d ∈ tables_1, d.before a0 Z = true) (ws : List Jvm.Cond) (a1 : Nat) (xs : List Int32) (cs : Int32) (w0 : Nat) (w1 : Nat) (w2 : Nat) (w3 : Nat) (w4 : Nat) (s0 : Nat) (s1 : Nat) (s2 : Nat) (s3 : Nat) (s4 : Nat) (wE : Nat) (wV : Nat) (kv : ClassId) (h0 : Heap) (n0 : Nat) (Z0 : n0 ≤ h0.size) (O0 : Old Z n0 h0) (S_cs : Sta Z Z.heap "java/lang/String" "COMPACT_STRINGS" "Z" (.int cs)) (hcs : ¬ cs = (0 : Int32)) (F_w0 : Fld Z Z.heap w0 "com/example/clearstep/clearstep/core/EventKind" "word" "Ljava/lang/String;" (.ref s0)) (F_w1 : Fld Z Z.heap w1 "com/example/clearstep/clearstep/core/EventKind" "word" "Ljava/lang/String;" (.ref s1)) (F_w2 : Fld Z Z.heap w2 "com/example/clearstep/clearstep/core/EventKind" "word" "Ljava/lang/String;" (.ref s2)) (F_w3 : Fld Z Z.heap w3 "com/example/clearstep/clearstep/core/EventKind" "word" "Ljava/lang/String;" (.ref s3)) (F_w4 : Fld Z Z.heap w4 "com/example/clearstep/clearstep/core/EventKind" "word" "Ljava/lang/String;" (.ref s4)) (S_w0 : own_Str Z Z.heap s0 own_c1) (S_w1 : own_Str Z Z.heap s1 own_c2) (S_w2 : own_Str Z Z.heap s2 own_c3) (S_w3 : own_Str Z Z.heap s3 own_c4) (S_w4 : own_Str Z Z.heap s4 own_c5) (S_E : Sta Z Z.heap "java/util/Optional" "EMPTY" "Ljava/util/Optional;" (.ref wE)) (E_E : Exa Z Z.heap wE "java/util/Optional") (F_E : Fld Z Z.heap wE "java/util/Optional" "value" "Ljava/lang/Object;" .null) (S_V : Sta Z Z.heap "com/example/clearstep/clearstep/core/EventKind" "$VALUES" "[Lcom/example/clearstep/clearstep/core/EventKind;" (.ref wV)) (V_V : Arv Z Z.heap wV kv (.object "com/example/clearstep/clearstep/core/EventKind") (5 : Int32) [(.ref w0), (.ref w1), (.ref w2), (.ref w3), (.ref w4)] .null) (E_V : Exa Z Z.heap wV "[Lcom/example/clearstep/clearstep/core/EventKind;") (S1 : own_Str Z h0 a1 xs) :
    MetFree l (⟨"com/example/clearstep/clearstep/core/EventKind", "fromWord", "(Ljava/lang/String;)Ljava/util/Optional;"⟩ : MethodName) (head1 (Jvm.Cond.code (⟨"com/example/clearstep/clearstep/core/EventKind", "fromWord", "(Ljava/lang/String;)Ljava/util/Optional;"⟩ : MethodName) prog_46_method_8_code 5 (some (.object "java/util/Optional")) :: ws) ({ frames := 3, cells := 2, slots := 6, locals := 40 } : Room)) (fun a U => a = #[(.ref a1)] ∧ Z.Warmed39 U.vm ∧ U.heap = h0) (fun _ _ _ _ _ => True) (fun _ U o U' => ∃ v L, o = .returned v ∧ QFS Z a1 xs cs w0 w1 w2 w3 w4 s0 s1 s2 s3 s4 wE wV kv h0 n0 v U'.heap L ∧ FrameEnd U o U' L ({ frames := 3, cells := 2, slots := 6, locals := 40 } : Room).cells ({ frames := 3, cells := 2, slots := 6, locals := 40 } : Room).slots) := by
  refine MetFree.of_bodySF (plainFor_of_name pn_4) hisR ?_
  intro p e s m args below meth c s₁ Bd hml0 hP hK
  obtain ⟨rfl, hZ, hh⟩ := hP
  have hx := Bd.exec
  have hby := Bd.bytes
  have hml : c.maxLocals = 5 := hml0
  have hown : s.vm.findClass "com/example/clearstep/clearstep/core/EventKind" = some m.cls := findClass_of_methodNamed Bd.named
  have hnm := (name_of_methodNamed Bd.named Bd.method).1
  have hlk : meth.locks = false := BodyLoose.notSynchronized Bd
  have X0 : Stand p l e ({ frames := 3, cells := 2, slots := 6, locals := 40 } : Room) s m #[(.ref a1)] below meth c s₁ [] 0 0 := Stand.of_body Bd
  have e0 : s₁.heap = h0 := by rw [← hh, Bd.state]; rfl
  have N0 := Fr.nil n0
  have hef : entryFrame m #[(.ref a1)] 5 = mkF m 0 #[.val (.ref a1), .unset, .unset, .unset, .unset] [] := by first | (simp [entryFrame, mkF, argsToLocals, Value.category]; done) | rfl
  show Go p e below s ({ frames := 3, cells := 2, slots := 6, locals := 40 } : Room).cells ({ frames := 3, cells := 2, slots := 6, locals := 40 } : Room).slots (QFS Z a1 xs cs w0 w1 w2 w3 w4 s0 s1 s2 s3 s4 wE wV kv h0 n0) (s₁.setTop (entryFrame m #[(.ref a1)] 5))
  rw [hef]
  obtain ⟨_, _, ⟨T1, L1, k1, n1⟩, -, X1, ⟨Lc1, hQ1, l1, y1, z1⟩, st1⟩ := Jvm.LawKit.callS X0 hx (y := (⟨"com/example/clearstep/clearstep/core/EventKind", "values", "()[Lcom/example/clearstep/clearstep/core/EventKind;"⟩ : MethodName)) hown (mvT hZ (own_w hw 97 rfl)) (mvT hZ (own_w hw 98 rfl)) (mvT hZ (own_w hw 92 rfl)) (mvT hZ (own_w hw 99 rfl)) (by decide) (backOf (W := 0) (rm21 l Z a0 hw [] wV kv w0 w1 w2 w3 w4 h0 n0 Z0 (S_V.ext O0.2) (V_V.ext O0.2) (E_V.ext O0.2)) hZ (own_w hw 99 rfl) (own_w hw 92 rfl) (by decide) (by decide)) (g := (mkF m 0 #[.val (.ref a1), .unset, .unset, .unset, .unset] [])) rfl (by rw [hml]; rfl) (argsL := []) (rest := []) (lenOf pd_7 rfl) rfl (by show 2 * 0 + _ ≤ _; exact Nat.le_of_eq rfl) (hb hby d20_0) (fun _ _ => ⟨rfl, e0, (by decide : 0 + 1 ≤ _), (by decide : 0 + 5 ≤ _)⟩)
  dsimp only [Pt.U, Pt.locs, Pt.cells, Pt.slots] at X1 l1 y1 z1 st1 hQ1
  replace y1 : k1 = 1 := y1.trans (by decide)
  replace z1 : n1 = 5 := z1.trans (by decide)
  subst y1 z1
  obtain ⟨b1, rfl, N1q, K1, hge1, Vb1⟩ := hQ1
  have N1 : Fr n0 L1 := by rw [l1]; exact Fr.app N0 N1q
  clear l1
  refine Go.of st1 ?_
  have hs2 : h0.size ≤ T1.heap.size := K1.1
  show Go _ _ _ _ _ _ _ (T1.setTop (mkF m 3 #[.val (.ref a1), .unset, .unset, .unset, .unset] [(.ref b1)]))
  refine Go.of (fun t k => XS.astoreN X1.here hx rfl (hb hby d20_3) rfl rfl (l' := #[.val (.ref a1), .val (.ref b1), .unset, .unset, .unset]) rfl k) ?_
  show Go _ _ _ _ _ _ _ (T1.setTop (mkF m 4 #[.val (.ref a1), .val (.ref b1), .unset, .unset, .unset] []))
  refine Go.of (fun t k => XS.aloadN X1.here hx rfl (hb hby d20_4) rfl rfl k) ?_
  show Go _ _ _ _ _ _ _ (T1.setTop (mkF m 5 #[.val (.ref a1), .val (.ref b1), .unset, .unset, .unset] [(.ref b1)]))
  obtain ⟨cl3, Ar3, q3, S3, N3, H3, G3⟩ := id Vb1
  refine Go.of (X1.arraylength hx (own_at rfl Ar3.1) (State.isArrayOf_alike hZ.alike Ar3.2.1) (g := (mkF m 5 #[.val (.ref a1), .val (.ref b1), .unset, .unset, .unset] [(.ref b1)])) rfl rfl (hb hby d20_5)) ?_
  rw [len_of S3 N3]
  show Go _ _ _ _ _ _ _ (T1.setTop (mkF m 6 #[.val (.ref a1), .val (.ref b1), .unset, .unset, .unset] [(.int (5 : Int32))]))
  refine Go.of (fun t k => XS.istoreN X1.here hx rfl (hb hby d20_6) rfl (l' := #[.val (.ref a1), .val (.ref b1), .val (.int (5 : Int32)), .unset, .unset]) rfl k) ?_
  show Go _ _ _ _ _ _ _ (T1.setTop (mkF m 7 #[.val (.ref a1), .val (.ref b1), .val (.int (5 : Int32)), .unset, .unset] []))
  refine Go.of (fun t k => XS.iconst X1.here hx rfl (hb hby d20_7) k) ?_
  show Go _ _ _ _ _ _ _ (T1.setTop (mkF m 8 #[.val (.ref a1), .val (.ref b1), .val (.int (5 : Int32)), .unset, .unset] [(.int (0 : Int32))]))
  refine Go.of (fun t k => XS.istoreN X1.here hx rfl (hb hby d20_8) rfl (l' := #[.val (.ref a1), .val (.ref b1), .val (.int (5 : Int32)), .val (.int (0 : Int32)), .unset]) rfl k) ?_
  show Go _ _ _ _ _ _ _ (T1.setTop (mkF m 9 #[.val (.ref a1), .val (.ref b1), .val (.int (5 : Int32)), .val (.int (0 : Int32)), .unset] []))
  refine Go.of (fun t k => XS.iloadN X1.here hx rfl (hb hby d20_9) rfl k) ?_
  show Go _ _ _ _ _ _ _ (T1.setTop (mkF m 10 #[.val (.ref a1), .val (.ref b1), .val (.int (5 : Int32)), .val (.int (0 : Int32)), .unset] [(.int (0 : Int32))]))
  refine Go.of (fun t k => XS.iloadN X1.here hx rfl (hb hby d20_10) rfl k) ?_
  show Go _ _ _ _ _ _ _ (T1.setTop (mkF m 11 #[.val (.ref a1), .val (.ref b1), .val (.int (5 : Int32)), .val (.int (0 : Int32)), .unset] [(.int (5 : Int32)), (.int (0 : Int32))]))
  refine Go.of (fun t k => XS.icmpNo X1.here hx rfl (hb hby d20_11) rfl (tlt (by decide : (0 : Int32) < (5 : Int32))).2.1 k) ?_
  show Go _ _ _ _ _ _ _ (T1.setTop (mkF m 14 #[.val (.ref a1), .val (.ref b1), .val (.int (5 : Int32)), .val (.int (0 : Int32)), .unset] []))
  refine Go.of (fun t k => XS.aloadN X1.here hx rfl (hb hby d20_14) rfl rfl k) ?_
  show Go _ _ _ _ _ _ _ (T1.setTop (mkF m 15 #[.val (.ref a1), .val (.ref b1), .val (.int (5 : Int32)), .val (.int (0 : Int32)), .unset] [(.ref b1)]))
  refine Go.of (fun t k => XS.iloadN X1.here hx rfl (hb hby d20_15) rfl k) ?_
  show Go _ _ _ _ _ _ _ (T1.setTop (mkF m 16 #[.val (.ref a1), .val (.ref b1), .val (.int (5 : Int32)), .val (.int (0 : Int32)), .unset] [(.int (0 : Int32)), (.ref b1)]))
  obtain ⟨cl4, Ar4, q4, S4, N4, H4, G4⟩ := id Vb1
  have hin5 := inb_of S4 (j := (0 : Int32)) ⟨by decide, by decide⟩
  refine Go.of (X1.aaload hx (j := (0 : Int32)) (v := (.ref w0)) (own_at rfl Ar4.1) (State.isArrayOf_alike hZ.alike Ar4.2.1) rfl Ar4.2.2 hin5 (H4.at hin5 rfl) (g := (mkF m 16 #[.val (.ref a1), .val (.ref b1), .val (.int (5 : Int32)), .val (.int (0 : Int32)), .unset] [(.int (0 : Int32)), (.ref b1)])) rfl rfl (hb hby d20_16)) ?_
  show Go _ _ _ _ _ _ _ (T1.setTop (mkF m 17 #[.val (.ref a1), .val (.ref b1), .val (.int (5 : Int32)), .val (.int (0 : Int32)), .unset] [(.ref w0)]))
  refine Go.of (fun t k => XS.astore X1.here hx rfl (hb hby d20_17) rfl rfl (l' := #[.val (.ref a1), .val (.ref b1), .val (.int (5 : Int32)), .val (.int (0 : Int32)), .val (.ref w0)]) rfl k) ?_
  show Go _ _ _ _ _ _ _ (T1.setTop (mkF m 19 #[.val (.ref a1), .val (.ref b1), .val (.int (5 : Int32)), .val (.int (0 : Int32)), .val (.ref w0)] []))
  refine Go.of (fun t k => XS.aload X1.here hx rfl (hb hby d20_19) rfl rfl k) ?_
  show Go _ _ _ _ _ _ _ (T1.setTop (mkF m 21 #[.val (.ref a1), .val (.ref b1), .val (.int (5 : Int32)), .val (.int (0 : Int32)), .val (.ref w0)] [(.ref w0)]))
  have f6 := (O0.keep K1 all0)
  obtain ⟨T7, X7, e7, st7⟩ := getF X1 hx hZ hown (host := "") (Or.inl (own_w hw 116 rfl)) Via.refl rfl (F_w0.ext f6.2) (g := (mkF m 21 #[.val (.ref a1), .val (.ref b1), .val (.int (5 : Int32)), .val (.int (0 : Int32)), .val (.ref w0)] [(.ref w0)])) rfl rfl (hb hby d20_21)
  refine Go.of st7 ?_
  show Go _ _ _ _ _ _ _ (T7.setTop (mkF m 24 #[.val (.ref a1), .val (.ref b1), .val (.int (5 : Int32)), .val (.int (0 : Int32)), .val (.ref w0)] [(.ref s0)]))
  refine Go.of (fun t k => XS.aloadN X7.here hx rfl (hb hby d20_24) rfl rfl k) ?_
  show Go _ _ _ _ _ _ _ (T7.setTop (mkF m 25 #[.val (.ref a1), .val (.ref b1), .val (.int (5 : Int32)), .val (.int (0 : Int32)), .val (.ref w0)] [(.ref a1), (.ref s0)]))
  obtain ⟨t8, kt8, E8, Fv8, Fc8, Va8, l88, hr8⟩ := id (S_w0.ext f6.2)
  have f9 := (S1.keep ((Keep.refl h0 []).trans K1 all0))
  obtain ⟨t10, kt10, E10, Fv10, Fc10, Va10, l810, hr10⟩ := id f9
  obtain ⟨cq11, kq11, q11a, q11b, q11c⟩ := isOf hZ e7 E8
  obtain ⟨v11, _, ⟨T11, L11, k11, n11⟩, -, X11, ⟨Lc11, hQ11, l11, y11, z11⟩, st11⟩ := X7.virtualBack hx (y := (⟨"java/lang/String", "equals", "(Ljava/lang/Object;)Z"⟩ : MethodName)) (z := (⟨"java/lang/String", "equals", "(Ljava/lang/Object;)Z"⟩ : MethodName)) hown (mvT hZ (own_w hw 118 rfl)) (mvT hZ (own_w hw 81 rfl)) (notFace_of_selects (args := #[]) (mvT hZ (own_w hw 83 rfl))) (mvT hZ (own_w hw 83 rfl)) (mvT hZ (own_w hw 82 rfl)) (by decide) (StrChars.Road.eqW (W := 0) hZ (own_wordsEq hw) (kI := 4) (own_w hw 7 rfl) E8 Fv8 Fc8 Va8 (own_Str.cod hr8) (own_Str.up hr8) (by omega) E10 Fv10 Fc10 Va10 (own_Str.cod hr10) (own_Str.up hr10) (by omega) (S_cs.ext f6.2) hcs (by decide) (by decide)) q11a q11c (g := (mkF m 25 #[.val (.ref a1), .val (.ref b1), .val (.int (5 : Int32)), .val (.int (0 : Int32)), .val (.ref w0)] [(.ref a1), (.ref s0)])) rfl (by rw [hml]; rfl) (Steps.refl _) (argsL := [(.ref a1)]) (rest := []) (lenOf pd_4 rfl) rfl (by show 2 * 0 + _ ≤ _; exact Nat.le_of_eq rfl) (hb hby d20_25) (fun _ _ => ⟨rfl, e7, (by decide : 1 + 0 ≤ _), (by decide : 5 + 0 ≤ _)⟩)
  dsimp only [Pt.U, Pt.locs, Pt.cells, Pt.slots] at X11 l11 y11 z11 st11 hQ11
  replace y11 : k11 = 1 := y11.trans (by decide)
  replace z11 : n11 = 5 := z11.trans (by decide)
  subst l11 y11 z11
  obtain ⟨hv11, rfl, e11⟩ := hQ11
  rcases hv11 with ⟨rfl, hq11⟩ | ⟨rfl, hq11⟩
  · skip
    have N11 := Fr.app N1 (Fr.nil n0)
    refine Go.tr st11 ?_
    show Go _ _ _ _ _ _ _ (T11.setTop (mkF m 28 #[.val (.ref a1), .val (.ref b1), .val (.int (5 : Int32)), .val (.int (0 : Int32)), .val (.ref w0)] [(.int (1 : Int32))]))
    refine Go.of (fun t k => XS.ifNo X11.here hx rfl (hb hby d20_28) rfl ((if0 _ _).trans (feq (by decide : ¬ ((1 : Int32) = (0 : Int32)))).1) k) ?_
    show Go _ _ _ _ _ _ _ (T11.setTop (mkF m 31 #[.val (.ref a1), .val (.ref b1), .val (.int (5 : Int32)), .val (.int (0 : Int32)), .val (.ref w0)] []))
    refine Go.of (fun t k => XS.aload X11.here hx rfl (hb hby d20_31) rfl rfl k) ?_
    show Go _ _ _ _ _ _ _ (T11.setTop (mkF m 33 #[.val (.ref a1), .val (.ref b1), .val (.int (5 : Int32)), .val (.int (0 : Int32)), .val (.ref w0)] [(.ref w0)]))
    obtain ⟨_, _, ⟨T12, L12, k12, n12⟩, -, X12, ⟨Lc12, hQ12, l12, y12, z12⟩, st12⟩ := Jvm.LawKit.callS X11 hx (y := (⟨"java/util/Optional", "of", "(Ljava/lang/Object;)Ljava/util/Optional;"⟩ : MethodName)) hown (mvT hZ (own_w hw 119 rfl)) (mvT hZ (own_w hw 120 rfl)) (mvT hZ (own_w hw 121 rfl)) (mvT hZ (own_w hw 122 rfl)) (by decide) (backOf (W := 0) (rm22 l Z a0 hw [] w0 T1.heap n0 (by omega) ) hZ (own_w hw 122 rfl) (own_w hw 121 rfl) (by decide) (by decide)) (g := (mkF m 33 #[.val (.ref a1), .val (.ref b1), .val (.int (5 : Int32)), .val (.int (0 : Int32)), .val (.ref w0)] [(.ref w0)])) rfl (by rw [hml]; rfl) (argsL := [(.ref w0)]) (rest := []) (lenOf pd_8 rfl) rfl (by show 2 * 0 + _ ≤ _; exact Nat.le_of_eq rfl) (hb hby d20_33) (fun _ _ => ⟨rfl, e11, (by decide : 1 + 1 ≤ _), (by decide : 5 + 1 ≤ _)⟩)
    dsimp only [Pt.U, Pt.locs, Pt.cells, Pt.slots] at X12 l12 y12 z12 st12 hQ12
    replace y12 : k12 = 2 := y12.trans (by decide)
    replace z12 : n12 = 6 := z12.trans (by decide)
    subst y12 z12
    obtain ⟨b12, rfl, N12q, K12, hlt12, Ex12, Fv12⟩ := hQ12
    have N12 : Fr n0 L12 := by rw [l12]; exact Fr.app N11 N12q
    clear l12
    refine Go.of st12 ?_
    have hs13 : T1.heap.size ≤ T12.heap.size := K12.1
    show Go _ _ _ _ _ _ _ (T12.setTop (mkF m 36 #[.val (.ref a1), .val (.ref b1), .val (.int (5 : Int32)), .val (.int (0 : Int32)), .val (.ref w0)] [(.ref b12)]))
    refine Go.out X12 (v := some (.ref b12)) (fun h => by rw [Bd.returns] at h; cases h) hlk (fun fs hr => retOut X12 hx (t := (.object "java/util/Optional")) Bd.returns rfl (Or.inr (Or.inr (Or.inr (Or.inr ⟨rfl, rfl, rfl⟩)))) (hb hby d20_36) hr) ?_ (by decide) (by decide)
    show QFS Z a1 xs cs w0 w1 w2 w3 w4 s0 s1 s2 s3 s4 wE wV kv h0 n0 _ T12.heap _
    have hev : own_ev xs w0 w1 w2 w3 w4 = (.ref w0) := by unfold own_ev; rw [if_pos hq11.symm]
    exact ⟨b12, rfl, N12, (((Keep.refl h0 []).trans K1 all0).trans K12 all0), Ex12.lt, Ex12, by rw [hev]; exact Fv12⟩
  · skip
    have N11 := Fr.app N1 (Fr.nil n0)
    refine Go.tr st11 ?_
    show Go _ _ _ _ _ _ _ (T11.setTop (mkF m 28 #[.val (.ref a1), .val (.ref b1), .val (.int (5 : Int32)), .val (.int (0 : Int32)), .val (.ref w0)] [(.int (0 : Int32))]))
    refine Go.of (fun t k => XS.ifYes X11.here hx rfl (pc0 := 28) (pc' := 37) rfl (hb hby d20_28) rfl ((if0 _ _).trans (teq (by decide : (0 : Int32) = (0 : Int32))).1) (by decide) (by decide) k) ?_
    show Go _ _ _ _ _ _ _ (T11.setTop (mkF m 37 #[.val (.ref a1), .val (.ref b1), .val (.int (5 : Int32)), .val (.int (0 : Int32)), .val (.ref w0)] []))
    refine Go.of (fun t k => XS.iinc X11.here hx rfl (hb hby d20_37) rfl (l' := #[.val (.ref a1), .val (.ref b1), .val (.int (5 : Int32)), .val (.int (1 : Int32)), .val (.ref w0)]) rfl k) ?_
    show Go _ _ _ _ _ _ _ (T11.setTop (mkF m 40 #[.val (.ref a1), .val (.ref b1), .val (.int (5 : Int32)), .val (.int (1 : Int32)), .val (.ref w0)] []))
    refine Go.of (fun t k => XS.goto X11.here hx rfl (pc0 := 40) (pc' := 9) rfl (hb hby d20_40) (by decide) (by decide) k) ?_
    show Go _ _ _ _ _ _ _ (T11.setTop (mkF m 9 #[.val (.ref a1), .val (.ref b1), .val (.int (5 : Int32)), .val (.int (1 : Int32)), .val (.ref w0)] []))
    refine Go.of (fun t k => XS.iloadN X11.here hx rfl (hb hby d20_9) rfl k) ?_
    show Go _ _ _ _ _ _ _ (T11.setTop (mkF m 10 #[.val (.ref a1), .val (.ref b1), .val (.int (5 : Int32)), .val (.int (1 : Int32)), .val (.ref w0)] [(.int (1 : Int32))]))
    refine Go.of (fun t k => XS.iloadN X11.here hx rfl (hb hby d20_10) rfl k) ?_
    show Go _ _ _ _ _ _ _ (T11.setTop (mkF m 11 #[.val (.ref a1), .val (.ref b1), .val (.int (5 : Int32)), .val (.int (1 : Int32)), .val (.ref w0)] [(.int (5 : Int32)), (.int (1 : Int32))]))
    refine Go.of (fun t k => XS.icmpNo X11.here hx rfl (hb hby d20_11) rfl (tlt (by decide : (1 : Int32) < (5 : Int32))).2.1 k) ?_
    show Go _ _ _ _ _ _ _ (T11.setTop (mkF m 14 #[.val (.ref a1), .val (.ref b1), .val (.int (5 : Int32)), .val (.int (1 : Int32)), .val (.ref w0)] []))
    refine Go.of (fun t k => XS.aloadN X11.here hx rfl (hb hby d20_14) rfl rfl k) ?_
    show Go _ _ _ _ _ _ _ (T11.setTop (mkF m 15 #[.val (.ref a1), .val (.ref b1), .val (.int (5 : Int32)), .val (.int (1 : Int32)), .val (.ref w0)] [(.ref b1)]))
    refine Go.of (fun t k => XS.iloadN X11.here hx rfl (hb hby d20_15) rfl k) ?_
    show Go _ _ _ _ _ _ _ (T11.setTop (mkF m 16 #[.val (.ref a1), .val (.ref b1), .val (.int (5 : Int32)), .val (.int (1 : Int32)), .val (.ref w0)] [(.int (1 : Int32)), (.ref b1)]))
    obtain ⟨cl14, Ar14, q14, S14, N14, H14, G14⟩ := id Vb1
    have hin15 := inb_of S14 (j := (1 : Int32)) ⟨by decide, by decide⟩
    refine Go.of (X11.aaload hx (j := (1 : Int32)) (v := (.ref w1)) (own_at e11 Ar14.1) (State.isArrayOf_alike hZ.alike Ar14.2.1) rfl Ar14.2.2 hin15 (H14.at hin15 rfl) (g := (mkF m 16 #[.val (.ref a1), .val (.ref b1), .val (.int (5 : Int32)), .val (.int (1 : Int32)), .val (.ref w0)] [(.int (1 : Int32)), (.ref b1)])) rfl rfl (hb hby d20_16)) ?_
    show Go _ _ _ _ _ _ _ (T11.setTop (mkF m 17 #[.val (.ref a1), .val (.ref b1), .val (.int (5 : Int32)), .val (.int (1 : Int32)), .val (.ref w0)] [(.ref w1)]))
    refine Go.of (fun t k => XS.astore X11.here hx rfl (hb hby d20_17) rfl rfl (l' := #[.val (.ref a1), .val (.ref b1), .val (.int (5 : Int32)), .val (.int (1 : Int32)), .val (.ref w1)]) rfl k) ?_
    show Go _ _ _ _ _ _ _ (T11.setTop (mkF m 19 #[.val (.ref a1), .val (.ref b1), .val (.int (5 : Int32)), .val (.int (1 : Int32)), .val (.ref w1)] []))
    refine Go.of (fun t k => XS.aload X11.here hx rfl (hb hby d20_19) rfl rfl k) ?_
    show Go _ _ _ _ _ _ _ (T11.setTop (mkF m 21 #[.val (.ref a1), .val (.ref b1), .val (.int (5 : Int32)), .val (.int (1 : Int32)), .val (.ref w1)] [(.ref w1)]))
    obtain ⟨T16, X16, e16, st16⟩ := getF X11 hx hZ hown (host := "") (Or.inl (own_w hw 116 rfl)) Via.refl e11 (F_w1.ext f6.2) (g := (mkF m 21 #[.val (.ref a1), .val (.ref b1), .val (.int (5 : Int32)), .val (.int (1 : Int32)), .val (.ref w1)] [(.ref w1)])) rfl rfl (hb hby d20_21)
    refine Go.of st16 ?_
    show Go _ _ _ _ _ _ _ (T16.setTop (mkF m 24 #[.val (.ref a1), .val (.ref b1), .val (.int (5 : Int32)), .val (.int (1 : Int32)), .val (.ref w1)] [(.ref s1)]))
    refine Go.of (fun t k => XS.aloadN X16.here hx rfl (hb hby d20_24) rfl rfl k) ?_
    show Go _ _ _ _ _ _ _ (T16.setTop (mkF m 25 #[.val (.ref a1), .val (.ref b1), .val (.int (5 : Int32)), .val (.int (1 : Int32)), .val (.ref w1)] [(.ref a1), (.ref s1)]))
    obtain ⟨t17, kt17, E17, Fv17, Fc17, Va17, l817, hr17⟩ := id (S_w1.ext f6.2)
    obtain ⟨t18, kt18, E18, Fv18, Fc18, Va18, l818, hr18⟩ := id f9
    obtain ⟨cq19, kq19, q19a, q19b, q19c⟩ := isOf hZ e16 E17
    obtain ⟨v19, _, ⟨T19, L19, k19, n19⟩, -, X19, ⟨Lc19, hQ19, l19, y19, z19⟩, st19⟩ := X16.virtualBack hx (y := (⟨"java/lang/String", "equals", "(Ljava/lang/Object;)Z"⟩ : MethodName)) (z := (⟨"java/lang/String", "equals", "(Ljava/lang/Object;)Z"⟩ : MethodName)) hown (mvT hZ (own_w hw 118 rfl)) (mvT hZ (own_w hw 81 rfl)) (notFace_of_selects (args := #[]) (mvT hZ (own_w hw 83 rfl))) (mvT hZ (own_w hw 83 rfl)) (mvT hZ (own_w hw 82 rfl)) (by decide) (StrChars.Road.eqW (W := 0) hZ (own_wordsEq hw) (kI := 4) (own_w hw 7 rfl) E17 Fv17 Fc17 Va17 (own_Str.cod hr17) (own_Str.up hr17) (by omega) E18 Fv18 Fc18 Va18 (own_Str.cod hr18) (own_Str.up hr18) (by omega) (S_cs.ext f6.2) hcs (by decide) (by decide)) q19a q19c (g := (mkF m 25 #[.val (.ref a1), .val (.ref b1), .val (.int (5 : Int32)), .val (.int (1 : Int32)), .val (.ref w1)] [(.ref a1), (.ref s1)])) rfl (by rw [hml]; rfl) (Steps.refl _) (argsL := [(.ref a1)]) (rest := []) (lenOf pd_4 rfl) rfl (by show 2 * 0 + _ ≤ _; exact Nat.le_of_eq rfl) (hb hby d20_25) (fun _ _ => ⟨rfl, e16, (by decide : 1 + 0 ≤ _), (by decide : 5 + 0 ≤ _)⟩)
    dsimp only [Pt.U, Pt.locs, Pt.cells, Pt.slots] at X19 l19 y19 z19 st19 hQ19
    replace y19 : k19 = 1 := y19.trans (by decide)
    replace z19 : n19 = 5 := z19.trans (by decide)
    subst l19 y19 z19
    obtain ⟨hv19, rfl, e19⟩ := hQ19
    rcases hv19 with ⟨rfl, hq19⟩ | ⟨rfl, hq19⟩
    · skip
      have N19 := Fr.app N11 (Fr.nil n0)
      refine Go.tr st19 ?_
      show Go _ _ _ _ _ _ _ (T19.setTop (mkF m 28 #[.val (.ref a1), .val (.ref b1), .val (.int (5 : Int32)), .val (.int (1 : Int32)), .val (.ref w1)] [(.int (1 : Int32))]))
      refine Go.of (fun t k => XS.ifNo X19.here hx rfl (hb hby d20_28) rfl ((if0 _ _).trans (feq (by decide : ¬ ((1 : Int32) = (0 : Int32)))).1) k) ?_
      show Go _ _ _ _ _ _ _ (T19.setTop (mkF m 31 #[.val (.ref a1), .val (.ref b1), .val (.int (5 : Int32)), .val (.int (1 : Int32)), .val (.ref w1)] []))
      refine Go.of (fun t k => XS.aload X19.here hx rfl (hb hby d20_31) rfl rfl k) ?_
      show Go _ _ _ _ _ _ _ (T19.setTop (mkF m 33 #[.val (.ref a1), .val (.ref b1), .val (.int (5 : Int32)), .val (.int (1 : Int32)), .val (.ref w1)] [(.ref w1)]))
      obtain ⟨_, _, ⟨T20, L20, k20, n20⟩, -, X20, ⟨Lc20, hQ20, l20, y20, z20⟩, st20⟩ := Jvm.LawKit.callS X19 hx (y := (⟨"java/util/Optional", "of", "(Ljava/lang/Object;)Ljava/util/Optional;"⟩ : MethodName)) hown (mvT hZ (own_w hw 119 rfl)) (mvT hZ (own_w hw 120 rfl)) (mvT hZ (own_w hw 121 rfl)) (mvT hZ (own_w hw 122 rfl)) (by decide) (backOf (W := 0) (rm22 l Z a0 hw [] w1 T1.heap n0 (by omega) ) hZ (own_w hw 122 rfl) (own_w hw 121 rfl) (by decide) (by decide)) (g := (mkF m 33 #[.val (.ref a1), .val (.ref b1), .val (.int (5 : Int32)), .val (.int (1 : Int32)), .val (.ref w1)] [(.ref w1)])) rfl (by rw [hml]; rfl) (argsL := [(.ref w1)]) (rest := []) (lenOf pd_8 rfl) rfl (by show 2 * 0 + _ ≤ _; exact Nat.le_of_eq rfl) (hb hby d20_33) (fun _ _ => ⟨rfl, e19, (by decide : 1 + 1 ≤ _), (by decide : 5 + 1 ≤ _)⟩)
      dsimp only [Pt.U, Pt.locs, Pt.cells, Pt.slots] at X20 l20 y20 z20 st20 hQ20
      replace y20 : k20 = 2 := y20.trans (by decide)
      replace z20 : n20 = 6 := z20.trans (by decide)
      subst y20 z20
      obtain ⟨b20, rfl, N20q, K20, hlt20, Ex20, Fv20⟩ := hQ20
      have N20 : Fr n0 L20 := by rw [l20]; exact Fr.app N19 N20q
      clear l20
      refine Go.of st20 ?_
      have hs21 : T1.heap.size ≤ T20.heap.size := K20.1
      show Go _ _ _ _ _ _ _ (T20.setTop (mkF m 36 #[.val (.ref a1), .val (.ref b1), .val (.int (5 : Int32)), .val (.int (1 : Int32)), .val (.ref w1)] [(.ref b20)]))
      refine Go.out X20 (v := some (.ref b20)) (fun h => by rw [Bd.returns] at h; cases h) hlk (fun fs hr => retOut X20 hx (t := (.object "java/util/Optional")) Bd.returns rfl (Or.inr (Or.inr (Or.inr (Or.inr ⟨rfl, rfl, rfl⟩)))) (hb hby d20_36) hr) ?_ (by decide) (by decide)
      show QFS Z a1 xs cs w0 w1 w2 w3 w4 s0 s1 s2 s3 s4 wE wV kv h0 n0 _ T20.heap _
      have hev : own_ev xs w0 w1 w2 w3 w4 = (.ref w1) := by unfold own_ev; rw [if_neg (fun q => hq11 q.symm), if_pos hq19.symm]
      exact ⟨b20, rfl, N20, (((Keep.refl h0 []).trans K1 all0).trans K20 all0), Ex20.lt, Ex20, by rw [hev]; exact Fv20⟩
    · skip
      have N19 := Fr.app N11 (Fr.nil n0)
      refine Go.tr st19 ?_
      show Go _ _ _ _ _ _ _ (T19.setTop (mkF m 28 #[.val (.ref a1), .val (.ref b1), .val (.int (5 : Int32)), .val (.int (1 : Int32)), .val (.ref w1)] [(.int (0 : Int32))]))
      refine Go.of (fun t k => XS.ifYes X19.here hx rfl (pc0 := 28) (pc' := 37) rfl (hb hby d20_28) rfl ((if0 _ _).trans (teq (by decide : (0 : Int32) = (0 : Int32))).1) (by decide) (by decide) k) ?_
      show Go _ _ _ _ _ _ _ (T19.setTop (mkF m 37 #[.val (.ref a1), .val (.ref b1), .val (.int (5 : Int32)), .val (.int (1 : Int32)), .val (.ref w1)] []))
      refine Go.of (fun t k => XS.iinc X19.here hx rfl (hb hby d20_37) rfl (l' := #[.val (.ref a1), .val (.ref b1), .val (.int (5 : Int32)), .val (.int (2 : Int32)), .val (.ref w1)]) rfl k) ?_
      show Go _ _ _ _ _ _ _ (T19.setTop (mkF m 40 #[.val (.ref a1), .val (.ref b1), .val (.int (5 : Int32)), .val (.int (2 : Int32)), .val (.ref w1)] []))
      refine Go.of (fun t k => XS.goto X19.here hx rfl (pc0 := 40) (pc' := 9) rfl (hb hby d20_40) (by decide) (by decide) k) ?_
      show Go _ _ _ _ _ _ _ (T19.setTop (mkF m 9 #[.val (.ref a1), .val (.ref b1), .val (.int (5 : Int32)), .val (.int (2 : Int32)), .val (.ref w1)] []))
      refine Go.of (fun t k => XS.iloadN X19.here hx rfl (hb hby d20_9) rfl k) ?_
      show Go _ _ _ _ _ _ _ (T19.setTop (mkF m 10 #[.val (.ref a1), .val (.ref b1), .val (.int (5 : Int32)), .val (.int (2 : Int32)), .val (.ref w1)] [(.int (2 : Int32))]))
      refine Go.of (fun t k => XS.iloadN X19.here hx rfl (hb hby d20_10) rfl k) ?_
      show Go _ _ _ _ _ _ _ (T19.setTop (mkF m 11 #[.val (.ref a1), .val (.ref b1), .val (.int (5 : Int32)), .val (.int (2 : Int32)), .val (.ref w1)] [(.int (5 : Int32)), (.int (2 : Int32))]))
      refine Go.of (fun t k => XS.icmpNo X19.here hx rfl (hb hby d20_11) rfl (tlt (by decide : (2 : Int32) < (5 : Int32))).2.1 k) ?_
      show Go _ _ _ _ _ _ _ (T19.setTop (mkF m 14 #[.val (.ref a1), .val (.ref b1), .val (.int (5 : Int32)), .val (.int (2 : Int32)), .val (.ref w1)] []))
      refine Go.of (fun t k => XS.aloadN X19.here hx rfl (hb hby d20_14) rfl rfl k) ?_
      show Go _ _ _ _ _ _ _ (T19.setTop (mkF m 15 #[.val (.ref a1), .val (.ref b1), .val (.int (5 : Int32)), .val (.int (2 : Int32)), .val (.ref w1)] [(.ref b1)]))
      refine Go.of (fun t k => XS.iloadN X19.here hx rfl (hb hby d20_15) rfl k) ?_
      show Go _ _ _ _ _ _ _ (T19.setTop (mkF m 16 #[.val (.ref a1), .val (.ref b1), .val (.int (5 : Int32)), .val (.int (2 : Int32)), .val (.ref w1)] [(.int (2 : Int32)), (.ref b1)]))
      obtain ⟨cl22, Ar22, q22, S22, N22, H22, G22⟩ := id Vb1
      have hin23 := inb_of S22 (j := (2 : Int32)) ⟨by decide, by decide⟩
      refine Go.of (X19.aaload hx (j := (2 : Int32)) (v := (.ref w2)) (own_at e19 Ar22.1) (State.isArrayOf_alike hZ.alike Ar22.2.1) rfl Ar22.2.2 hin23 (H22.at hin23 rfl) (g := (mkF m 16 #[.val (.ref a1), .val (.ref b1), .val (.int (5 : Int32)), .val (.int (2 : Int32)), .val (.ref w1)] [(.int (2 : Int32)), (.ref b1)])) rfl rfl (hb hby d20_16)) ?_
      show Go _ _ _ _ _ _ _ (T19.setTop (mkF m 17 #[.val (.ref a1), .val (.ref b1), .val (.int (5 : Int32)), .val (.int (2 : Int32)), .val (.ref w1)] [(.ref w2)]))
      refine Go.of (fun t k => XS.astore X19.here hx rfl (hb hby d20_17) rfl rfl (l' := #[.val (.ref a1), .val (.ref b1), .val (.int (5 : Int32)), .val (.int (2 : Int32)), .val (.ref w2)]) rfl k) ?_
      show Go _ _ _ _ _ _ _ (T19.setTop (mkF m 19 #[.val (.ref a1), .val (.ref b1), .val (.int (5 : Int32)), .val (.int (2 : Int32)), .val (.ref w2)] []))
      refine Go.of (fun t k => XS.aload X19.here hx rfl (hb hby d20_19) rfl rfl k) ?_
      show Go _ _ _ _ _ _ _ (T19.setTop (mkF m 21 #[.val (.ref a1), .val (.ref b1), .val (.int (5 : Int32)), .val (.int (2 : Int32)), .val (.ref w2)] [(.ref w2)]))
      obtain ⟨T24, X24, e24, st24⟩ := getF X19 hx hZ hown (host := "") (Or.inl (own_w hw 116 rfl)) Via.refl e19 (F_w2.ext f6.2) (g := (mkF m 21 #[.val (.ref a1), .val (.ref b1), .val (.int (5 : Int32)), .val (.int (2 : Int32)), .val (.ref w2)] [(.ref w2)])) rfl rfl (hb hby d20_21)
      refine Go.of st24 ?_
      show Go _ _ _ _ _ _ _ (T24.setTop (mkF m 24 #[.val (.ref a1), .val (.ref b1), .val (.int (5 : Int32)), .val (.int (2 : Int32)), .val (.ref w2)] [(.ref s2)]))
      refine Go.of (fun t k => XS.aloadN X24.here hx rfl (hb hby d20_24) rfl rfl k) ?_
      show Go _ _ _ _ _ _ _ (T24.setTop (mkF m 25 #[.val (.ref a1), .val (.ref b1), .val (.int (5 : Int32)), .val (.int (2 : Int32)), .val (.ref w2)] [(.ref a1), (.ref s2)]))
      obtain ⟨t25, kt25, E25, Fv25, Fc25, Va25, l825, hr25⟩ := id (S_w2.ext f6.2)
      obtain ⟨t26, kt26, E26, Fv26, Fc26, Va26, l826, hr26⟩ := id f9
      obtain ⟨cq27, kq27, q27a, q27b, q27c⟩ := isOf hZ e24 E25
      obtain ⟨v27, _, ⟨T27, L27, k27, n27⟩, -, X27, ⟨Lc27, hQ27, l27, y27, z27⟩, st27⟩ := X24.virtualBack hx (y := (⟨"java/lang/String", "equals", "(Ljava/lang/Object;)Z"⟩ : MethodName)) (z := (⟨"java/lang/String", "equals", "(Ljava/lang/Object;)Z"⟩ : MethodName)) hown (mvT hZ (own_w hw 118 rfl)) (mvT hZ (own_w hw 81 rfl)) (notFace_of_selects (args := #[]) (mvT hZ (own_w hw 83 rfl))) (mvT hZ (own_w hw 83 rfl)) (mvT hZ (own_w hw 82 rfl)) (by decide) (StrChars.Road.eqW (W := 0) hZ (own_wordsEq hw) (kI := 4) (own_w hw 7 rfl) E25 Fv25 Fc25 Va25 (own_Str.cod hr25) (own_Str.up hr25) (by omega) E26 Fv26 Fc26 Va26 (own_Str.cod hr26) (own_Str.up hr26) (by omega) (S_cs.ext f6.2) hcs (by decide) (by decide)) q27a q27c (g := (mkF m 25 #[.val (.ref a1), .val (.ref b1), .val (.int (5 : Int32)), .val (.int (2 : Int32)), .val (.ref w2)] [(.ref a1), (.ref s2)])) rfl (by rw [hml]; rfl) (Steps.refl _) (argsL := [(.ref a1)]) (rest := []) (lenOf pd_4 rfl) rfl (by show 2 * 0 + _ ≤ _; exact Nat.le_of_eq rfl) (hb hby d20_25) (fun _ _ => ⟨rfl, e24, (by decide : 1 + 0 ≤ _), (by decide : 5 + 0 ≤ _)⟩)
      dsimp only [Pt.U, Pt.locs, Pt.cells, Pt.slots] at X27 l27 y27 z27 st27 hQ27
      replace y27 : k27 = 1 := y27.trans (by decide)
      replace z27 : n27 = 5 := z27.trans (by decide)
      subst l27 y27 z27
      obtain ⟨hv27, rfl, e27⟩ := hQ27
      rcases hv27 with ⟨rfl, hq27⟩ | ⟨rfl, hq27⟩
      · skip
        have N27 := Fr.app N19 (Fr.nil n0)
        refine Go.tr st27 ?_
        show Go _ _ _ _ _ _ _ (T27.setTop (mkF m 28 #[.val (.ref a1), .val (.ref b1), .val (.int (5 : Int32)), .val (.int (2 : Int32)), .val (.ref w2)] [(.int (1 : Int32))]))
        refine Go.of (fun t k => XS.ifNo X27.here hx rfl (hb hby d20_28) rfl ((if0 _ _).trans (feq (by decide : ¬ ((1 : Int32) = (0 : Int32)))).1) k) ?_
        show Go _ _ _ _ _ _ _ (T27.setTop (mkF m 31 #[.val (.ref a1), .val (.ref b1), .val (.int (5 : Int32)), .val (.int (2 : Int32)), .val (.ref w2)] []))
        refine Go.of (fun t k => XS.aload X27.here hx rfl (hb hby d20_31) rfl rfl k) ?_
        show Go _ _ _ _ _ _ _ (T27.setTop (mkF m 33 #[.val (.ref a1), .val (.ref b1), .val (.int (5 : Int32)), .val (.int (2 : Int32)), .val (.ref w2)] [(.ref w2)]))
        obtain ⟨_, _, ⟨T28, L28, k28, n28⟩, -, X28, ⟨Lc28, hQ28, l28, y28, z28⟩, st28⟩ := Jvm.LawKit.callS X27 hx (y := (⟨"java/util/Optional", "of", "(Ljava/lang/Object;)Ljava/util/Optional;"⟩ : MethodName)) hown (mvT hZ (own_w hw 119 rfl)) (mvT hZ (own_w hw 120 rfl)) (mvT hZ (own_w hw 121 rfl)) (mvT hZ (own_w hw 122 rfl)) (by decide) (backOf (W := 0) (rm22 l Z a0 hw [] w2 T1.heap n0 (by omega) ) hZ (own_w hw 122 rfl) (own_w hw 121 rfl) (by decide) (by decide)) (g := (mkF m 33 #[.val (.ref a1), .val (.ref b1), .val (.int (5 : Int32)), .val (.int (2 : Int32)), .val (.ref w2)] [(.ref w2)])) rfl (by rw [hml]; rfl) (argsL := [(.ref w2)]) (rest := []) (lenOf pd_8 rfl) rfl (by show 2 * 0 + _ ≤ _; exact Nat.le_of_eq rfl) (hb hby d20_33) (fun _ _ => ⟨rfl, e27, (by decide : 1 + 1 ≤ _), (by decide : 5 + 1 ≤ _)⟩)
        dsimp only [Pt.U, Pt.locs, Pt.cells, Pt.slots] at X28 l28 y28 z28 st28 hQ28
        replace y28 : k28 = 2 := y28.trans (by decide)
        replace z28 : n28 = 6 := z28.trans (by decide)
        subst y28 z28
        obtain ⟨b28, rfl, N28q, K28, hlt28, Ex28, Fv28⟩ := hQ28
        have N28 : Fr n0 L28 := by rw [l28]; exact Fr.app N27 N28q
        clear l28
        refine Go.of st28 ?_
        have hs29 : T1.heap.size ≤ T28.heap.size := K28.1
        show Go _ _ _ _ _ _ _ (T28.setTop (mkF m 36 #[.val (.ref a1), .val (.ref b1), .val (.int (5 : Int32)), .val (.int (2 : Int32)), .val (.ref w2)] [(.ref b28)]))
        refine Go.out X28 (v := some (.ref b28)) (fun h => by rw [Bd.returns] at h; cases h) hlk (fun fs hr => retOut X28 hx (t := (.object "java/util/Optional")) Bd.returns rfl (Or.inr (Or.inr (Or.inr (Or.inr ⟨rfl, rfl, rfl⟩)))) (hb hby d20_36) hr) ?_ (by decide) (by decide)
        show QFS Z a1 xs cs w0 w1 w2 w3 w4 s0 s1 s2 s3 s4 wE wV kv h0 n0 _ T28.heap _
        have hev : own_ev xs w0 w1 w2 w3 w4 = (.ref w2) := by unfold own_ev; rw [if_neg (fun q => hq11 q.symm), if_neg (fun q => hq19 q.symm), if_pos hq27.symm]
        exact ⟨b28, rfl, N28, (((Keep.refl h0 []).trans K1 all0).trans K28 all0), Ex28.lt, Ex28, by rw [hev]; exact Fv28⟩
      · skip
        have N27 := Fr.app N19 (Fr.nil n0)
        refine Go.tr st27 ?_
        show Go _ _ _ _ _ _ _ (T27.setTop (mkF m 28 #[.val (.ref a1), .val (.ref b1), .val (.int (5 : Int32)), .val (.int (2 : Int32)), .val (.ref w2)] [(.int (0 : Int32))]))
        refine Go.of (fun t k => XS.ifYes X27.here hx rfl (pc0 := 28) (pc' := 37) rfl (hb hby d20_28) rfl ((if0 _ _).trans (teq (by decide : (0 : Int32) = (0 : Int32))).1) (by decide) (by decide) k) ?_
        show Go _ _ _ _ _ _ _ (T27.setTop (mkF m 37 #[.val (.ref a1), .val (.ref b1), .val (.int (5 : Int32)), .val (.int (2 : Int32)), .val (.ref w2)] []))
        refine Go.of (fun t k => XS.iinc X27.here hx rfl (hb hby d20_37) rfl (l' := #[.val (.ref a1), .val (.ref b1), .val (.int (5 : Int32)), .val (.int (3 : Int32)), .val (.ref w2)]) rfl k) ?_
        show Go _ _ _ _ _ _ _ (T27.setTop (mkF m 40 #[.val (.ref a1), .val (.ref b1), .val (.int (5 : Int32)), .val (.int (3 : Int32)), .val (.ref w2)] []))
        refine Go.of (fun t k => XS.goto X27.here hx rfl (pc0 := 40) (pc' := 9) rfl (hb hby d20_40) (by decide) (by decide) k) ?_
        show Go _ _ _ _ _ _ _ (T27.setTop (mkF m 9 #[.val (.ref a1), .val (.ref b1), .val (.int (5 : Int32)), .val (.int (3 : Int32)), .val (.ref w2)] []))
        refine Go.of (fun t k => XS.iloadN X27.here hx rfl (hb hby d20_9) rfl k) ?_
        show Go _ _ _ _ _ _ _ (T27.setTop (mkF m 10 #[.val (.ref a1), .val (.ref b1), .val (.int (5 : Int32)), .val (.int (3 : Int32)), .val (.ref w2)] [(.int (3 : Int32))]))
        refine Go.of (fun t k => XS.iloadN X27.here hx rfl (hb hby d20_10) rfl k) ?_
        show Go _ _ _ _ _ _ _ (T27.setTop (mkF m 11 #[.val (.ref a1), .val (.ref b1), .val (.int (5 : Int32)), .val (.int (3 : Int32)), .val (.ref w2)] [(.int (5 : Int32)), (.int (3 : Int32))]))
        refine Go.of (fun t k => XS.icmpNo X27.here hx rfl (hb hby d20_11) rfl (tlt (by decide : (3 : Int32) < (5 : Int32))).2.1 k) ?_
        show Go _ _ _ _ _ _ _ (T27.setTop (mkF m 14 #[.val (.ref a1), .val (.ref b1), .val (.int (5 : Int32)), .val (.int (3 : Int32)), .val (.ref w2)] []))
        refine Go.of (fun t k => XS.aloadN X27.here hx rfl (hb hby d20_14) rfl rfl k) ?_
        show Go _ _ _ _ _ _ _ (T27.setTop (mkF m 15 #[.val (.ref a1), .val (.ref b1), .val (.int (5 : Int32)), .val (.int (3 : Int32)), .val (.ref w2)] [(.ref b1)]))
        refine Go.of (fun t k => XS.iloadN X27.here hx rfl (hb hby d20_15) rfl k) ?_
        show Go _ _ _ _ _ _ _ (T27.setTop (mkF m 16 #[.val (.ref a1), .val (.ref b1), .val (.int (5 : Int32)), .val (.int (3 : Int32)), .val (.ref w2)] [(.int (3 : Int32)), (.ref b1)]))
        obtain ⟨cl30, Ar30, q30, S30, N30, H30, G30⟩ := id Vb1
        have hin31 := inb_of S30 (j := (3 : Int32)) ⟨by decide, by decide⟩
        refine Go.of (X27.aaload hx (j := (3 : Int32)) (v := (.ref w3)) (own_at e27 Ar30.1) (State.isArrayOf_alike hZ.alike Ar30.2.1) rfl Ar30.2.2 hin31 (H30.at hin31 rfl) (g := (mkF m 16 #[.val (.ref a1), .val (.ref b1), .val (.int (5 : Int32)), .val (.int (3 : Int32)), .val (.ref w2)] [(.int (3 : Int32)), (.ref b1)])) rfl rfl (hb hby d20_16)) ?_
        show Go _ _ _ _ _ _ _ (T27.setTop (mkF m 17 #[.val (.ref a1), .val (.ref b1), .val (.int (5 : Int32)), .val (.int (3 : Int32)), .val (.ref w2)] [(.ref w3)]))
        refine Go.of (fun t k => XS.astore X27.here hx rfl (hb hby d20_17) rfl rfl (l' := #[.val (.ref a1), .val (.ref b1), .val (.int (5 : Int32)), .val (.int (3 : Int32)), .val (.ref w3)]) rfl k) ?_
        show Go _ _ _ _ _ _ _ (T27.setTop (mkF m 19 #[.val (.ref a1), .val (.ref b1), .val (.int (5 : Int32)), .val (.int (3 : Int32)), .val (.ref w3)] []))
        refine Go.of (fun t k => XS.aload X27.here hx rfl (hb hby d20_19) rfl rfl k) ?_
        show Go _ _ _ _ _ _ _ (T27.setTop (mkF m 21 #[.val (.ref a1), .val (.ref b1), .val (.int (5 : Int32)), .val (.int (3 : Int32)), .val (.ref w3)] [(.ref w3)]))
        obtain ⟨T32, X32, e32, st32⟩ := getF X27 hx hZ hown (host := "") (Or.inl (own_w hw 116 rfl)) Via.refl e27 (F_w3.ext f6.2) (g := (mkF m 21 #[.val (.ref a1), .val (.ref b1), .val (.int (5 : Int32)), .val (.int (3 : Int32)), .val (.ref w3)] [(.ref w3)])) rfl rfl (hb hby d20_21)
        refine Go.of st32 ?_
        show Go _ _ _ _ _ _ _ (T32.setTop (mkF m 24 #[.val (.ref a1), .val (.ref b1), .val (.int (5 : Int32)), .val (.int (3 : Int32)), .val (.ref w3)] [(.ref s3)]))
        refine Go.of (fun t k => XS.aloadN X32.here hx rfl (hb hby d20_24) rfl rfl k) ?_
        show Go _ _ _ _ _ _ _ (T32.setTop (mkF m 25 #[.val (.ref a1), .val (.ref b1), .val (.int (5 : Int32)), .val (.int (3 : Int32)), .val (.ref w3)] [(.ref a1), (.ref s3)]))
        obtain ⟨t33, kt33, E33, Fv33, Fc33, Va33, l833, hr33⟩ := id (S_w3.ext f6.2)
        obtain ⟨t34, kt34, E34, Fv34, Fc34, Va34, l834, hr34⟩ := id f9
        obtain ⟨cq35, kq35, q35a, q35b, q35c⟩ := isOf hZ e32 E33
        obtain ⟨v35, _, ⟨T35, L35, k35, n35⟩, -, X35, ⟨Lc35, hQ35, l35, y35, z35⟩, st35⟩ := X32.virtualBack hx (y := (⟨"java/lang/String", "equals", "(Ljava/lang/Object;)Z"⟩ : MethodName)) (z := (⟨"java/lang/String", "equals", "(Ljava/lang/Object;)Z"⟩ : MethodName)) hown (mvT hZ (own_w hw 118 rfl)) (mvT hZ (own_w hw 81 rfl)) (notFace_of_selects (args := #[]) (mvT hZ (own_w hw 83 rfl))) (mvT hZ (own_w hw 83 rfl)) (mvT hZ (own_w hw 82 rfl)) (by decide) (StrChars.Road.eqW (W := 0) hZ (own_wordsEq hw) (kI := 4) (own_w hw 7 rfl) E33 Fv33 Fc33 Va33 (own_Str.cod hr33) (own_Str.up hr33) (by omega) E34 Fv34 Fc34 Va34 (own_Str.cod hr34) (own_Str.up hr34) (by omega) (S_cs.ext f6.2) hcs (by decide) (by decide)) q35a q35c (g := (mkF m 25 #[.val (.ref a1), .val (.ref b1), .val (.int (5 : Int32)), .val (.int (3 : Int32)), .val (.ref w3)] [(.ref a1), (.ref s3)])) rfl (by rw [hml]; rfl) (Steps.refl _) (argsL := [(.ref a1)]) (rest := []) (lenOf pd_4 rfl) rfl (by show 2 * 0 + _ ≤ _; exact Nat.le_of_eq rfl) (hb hby d20_25) (fun _ _ => ⟨rfl, e32, (by decide : 1 + 0 ≤ _), (by decide : 5 + 0 ≤ _)⟩)
        dsimp only [Pt.U, Pt.locs, Pt.cells, Pt.slots] at X35 l35 y35 z35 st35 hQ35
        replace y35 : k35 = 1 := y35.trans (by decide)
        replace z35 : n35 = 5 := z35.trans (by decide)
        subst l35 y35 z35
        obtain ⟨hv35, rfl, e35⟩ := hQ35
        rcases hv35 with ⟨rfl, hq35⟩ | ⟨rfl, hq35⟩
        · skip
          have N35 := Fr.app N27 (Fr.nil n0)
          refine Go.tr st35 ?_
          show Go _ _ _ _ _ _ _ (T35.setTop (mkF m 28 #[.val (.ref a1), .val (.ref b1), .val (.int (5 : Int32)), .val (.int (3 : Int32)), .val (.ref w3)] [(.int (1 : Int32))]))
          refine Go.of (fun t k => XS.ifNo X35.here hx rfl (hb hby d20_28) rfl ((if0 _ _).trans (feq (by decide : ¬ ((1 : Int32) = (0 : Int32)))).1) k) ?_
          show Go _ _ _ _ _ _ _ (T35.setTop (mkF m 31 #[.val (.ref a1), .val (.ref b1), .val (.int (5 : Int32)), .val (.int (3 : Int32)), .val (.ref w3)] []))
          refine Go.of (fun t k => XS.aload X35.here hx rfl (hb hby d20_31) rfl rfl k) ?_
          show Go _ _ _ _ _ _ _ (T35.setTop (mkF m 33 #[.val (.ref a1), .val (.ref b1), .val (.int (5 : Int32)), .val (.int (3 : Int32)), .val (.ref w3)] [(.ref w3)]))
          obtain ⟨_, _, ⟨T36, L36, k36, n36⟩, -, X36, ⟨Lc36, hQ36, l36, y36, z36⟩, st36⟩ := Jvm.LawKit.callS X35 hx (y := (⟨"java/util/Optional", "of", "(Ljava/lang/Object;)Ljava/util/Optional;"⟩ : MethodName)) hown (mvT hZ (own_w hw 119 rfl)) (mvT hZ (own_w hw 120 rfl)) (mvT hZ (own_w hw 121 rfl)) (mvT hZ (own_w hw 122 rfl)) (by decide) (backOf (W := 0) (rm22 l Z a0 hw [] w3 T1.heap n0 (by omega) ) hZ (own_w hw 122 rfl) (own_w hw 121 rfl) (by decide) (by decide)) (g := (mkF m 33 #[.val (.ref a1), .val (.ref b1), .val (.int (5 : Int32)), .val (.int (3 : Int32)), .val (.ref w3)] [(.ref w3)])) rfl (by rw [hml]; rfl) (argsL := [(.ref w3)]) (rest := []) (lenOf pd_8 rfl) rfl (by show 2 * 0 + _ ≤ _; exact Nat.le_of_eq rfl) (hb hby d20_33) (fun _ _ => ⟨rfl, e35, (by decide : 1 + 1 ≤ _), (by decide : 5 + 1 ≤ _)⟩)
          dsimp only [Pt.U, Pt.locs, Pt.cells, Pt.slots] at X36 l36 y36 z36 st36 hQ36
          replace y36 : k36 = 2 := y36.trans (by decide)
          replace z36 : n36 = 6 := z36.trans (by decide)
          subst y36 z36
          obtain ⟨b36, rfl, N36q, K36, hlt36, Ex36, Fv36⟩ := hQ36
          have N36 : Fr n0 L36 := by rw [l36]; exact Fr.app N35 N36q
          clear l36
          refine Go.of st36 ?_
          have hs37 : T1.heap.size ≤ T36.heap.size := K36.1
          show Go _ _ _ _ _ _ _ (T36.setTop (mkF m 36 #[.val (.ref a1), .val (.ref b1), .val (.int (5 : Int32)), .val (.int (3 : Int32)), .val (.ref w3)] [(.ref b36)]))
          refine Go.out X36 (v := some (.ref b36)) (fun h => by rw [Bd.returns] at h; cases h) hlk (fun fs hr => retOut X36 hx (t := (.object "java/util/Optional")) Bd.returns rfl (Or.inr (Or.inr (Or.inr (Or.inr ⟨rfl, rfl, rfl⟩)))) (hb hby d20_36) hr) ?_ (by decide) (by decide)
          show QFS Z a1 xs cs w0 w1 w2 w3 w4 s0 s1 s2 s3 s4 wE wV kv h0 n0 _ T36.heap _
          have hev : own_ev xs w0 w1 w2 w3 w4 = (.ref w3) := by unfold own_ev; rw [if_neg (fun q => hq11 q.symm), if_neg (fun q => hq19 q.symm), if_neg (fun q => hq27 q.symm), if_pos hq35.symm]
          exact ⟨b36, rfl, N36, (((Keep.refl h0 []).trans K1 all0).trans K36 all0), Ex36.lt, Ex36, by rw [hev]; exact Fv36⟩
        · skip
          have N35 := Fr.app N27 (Fr.nil n0)
          refine Go.tr st35 ?_
          show Go _ _ _ _ _ _ _ (T35.setTop (mkF m 28 #[.val (.ref a1), .val (.ref b1), .val (.int (5 : Int32)), .val (.int (3 : Int32)), .val (.ref w3)] [(.int (0 : Int32))]))
          refine Go.of (fun t k => XS.ifYes X35.here hx rfl (pc0 := 28) (pc' := 37) rfl (hb hby d20_28) rfl ((if0 _ _).trans (teq (by decide : (0 : Int32) = (0 : Int32))).1) (by decide) (by decide) k) ?_
          show Go _ _ _ _ _ _ _ (T35.setTop (mkF m 37 #[.val (.ref a1), .val (.ref b1), .val (.int (5 : Int32)), .val (.int (3 : Int32)), .val (.ref w3)] []))
          refine Go.of (fun t k => XS.iinc X35.here hx rfl (hb hby d20_37) rfl (l' := #[.val (.ref a1), .val (.ref b1), .val (.int (5 : Int32)), .val (.int (4 : Int32)), .val (.ref w3)]) rfl k) ?_
          show Go _ _ _ _ _ _ _ (T35.setTop (mkF m 40 #[.val (.ref a1), .val (.ref b1), .val (.int (5 : Int32)), .val (.int (4 : Int32)), .val (.ref w3)] []))
          refine Go.of (fun t k => XS.goto X35.here hx rfl (pc0 := 40) (pc' := 9) rfl (hb hby d20_40) (by decide) (by decide) k) ?_
          show Go _ _ _ _ _ _ _ (T35.setTop (mkF m 9 #[.val (.ref a1), .val (.ref b1), .val (.int (5 : Int32)), .val (.int (4 : Int32)), .val (.ref w3)] []))
          refine Go.of (fun t k => XS.iloadN X35.here hx rfl (hb hby d20_9) rfl k) ?_
          show Go _ _ _ _ _ _ _ (T35.setTop (mkF m 10 #[.val (.ref a1), .val (.ref b1), .val (.int (5 : Int32)), .val (.int (4 : Int32)), .val (.ref w3)] [(.int (4 : Int32))]))
          refine Go.of (fun t k => XS.iloadN X35.here hx rfl (hb hby d20_10) rfl k) ?_
          show Go _ _ _ _ _ _ _ (T35.setTop (mkF m 11 #[.val (.ref a1), .val (.ref b1), .val (.int (5 : Int32)), .val (.int (4 : Int32)), .val (.ref w3)] [(.int (5 : Int32)), (.int (4 : Int32))]))
          refine Go.of (fun t k => XS.icmpNo X35.here hx rfl (hb hby d20_11) rfl (tlt (by decide : (4 : Int32) < (5 : Int32))).2.1 k) ?_
          show Go _ _ _ _ _ _ _ (T35.setTop (mkF m 14 #[.val (.ref a1), .val (.ref b1), .val (.int (5 : Int32)), .val (.int (4 : Int32)), .val (.ref w3)] []))
          refine Go.of (fun t k => XS.aloadN X35.here hx rfl (hb hby d20_14) rfl rfl k) ?_
          show Go _ _ _ _ _ _ _ (T35.setTop (mkF m 15 #[.val (.ref a1), .val (.ref b1), .val (.int (5 : Int32)), .val (.int (4 : Int32)), .val (.ref w3)] [(.ref b1)]))
          refine Go.of (fun t k => XS.iloadN X35.here hx rfl (hb hby d20_15) rfl k) ?_
          show Go _ _ _ _ _ _ _ (T35.setTop (mkF m 16 #[.val (.ref a1), .val (.ref b1), .val (.int (5 : Int32)), .val (.int (4 : Int32)), .val (.ref w3)] [(.int (4 : Int32)), (.ref b1)]))
          obtain ⟨cl38, Ar38, q38, S38, N38, H38, G38⟩ := id Vb1
          have hin39 := inb_of S38 (j := (4 : Int32)) ⟨by decide, by decide⟩
          refine Go.of (X35.aaload hx (j := (4 : Int32)) (v := (.ref w4)) (own_at e35 Ar38.1) (State.isArrayOf_alike hZ.alike Ar38.2.1) rfl Ar38.2.2 hin39 (H38.at hin39 rfl) (g := (mkF m 16 #[.val (.ref a1), .val (.ref b1), .val (.int (5 : Int32)), .val (.int (4 : Int32)), .val (.ref w3)] [(.int (4 : Int32)), (.ref b1)])) rfl rfl (hb hby d20_16)) ?_
          show Go _ _ _ _ _ _ _ (T35.setTop (mkF m 17 #[.val (.ref a1), .val (.ref b1), .val (.int (5 : Int32)), .val (.int (4 : Int32)), .val (.ref w3)] [(.ref w4)]))
          refine Go.of (fun t k => XS.astore X35.here hx rfl (hb hby d20_17) rfl rfl (l' := #[.val (.ref a1), .val (.ref b1), .val (.int (5 : Int32)), .val (.int (4 : Int32)), .val (.ref w4)]) rfl k) ?_
          show Go _ _ _ _ _ _ _ (T35.setTop (mkF m 19 #[.val (.ref a1), .val (.ref b1), .val (.int (5 : Int32)), .val (.int (4 : Int32)), .val (.ref w4)] []))
          refine Go.of (fun t k => XS.aload X35.here hx rfl (hb hby d20_19) rfl rfl k) ?_
          show Go _ _ _ _ _ _ _ (T35.setTop (mkF m 21 #[.val (.ref a1), .val (.ref b1), .val (.int (5 : Int32)), .val (.int (4 : Int32)), .val (.ref w4)] [(.ref w4)]))
          obtain ⟨T40, X40, e40, st40⟩ := getF X35 hx hZ hown (host := "") (Or.inl (own_w hw 116 rfl)) Via.refl e35 (F_w4.ext f6.2) (g := (mkF m 21 #[.val (.ref a1), .val (.ref b1), .val (.int (5 : Int32)), .val (.int (4 : Int32)), .val (.ref w4)] [(.ref w4)])) rfl rfl (hb hby d20_21)
          refine Go.of st40 ?_
          show Go _ _ _ _ _ _ _ (T40.setTop (mkF m 24 #[.val (.ref a1), .val (.ref b1), .val (.int (5 : Int32)), .val (.int (4 : Int32)), .val (.ref w4)] [(.ref s4)]))
          refine Go.of (fun t k => XS.aloadN X40.here hx rfl (hb hby d20_24) rfl rfl k) ?_
          show Go _ _ _ _ _ _ _ (T40.setTop (mkF m 25 #[.val (.ref a1), .val (.ref b1), .val (.int (5 : Int32)), .val (.int (4 : Int32)), .val (.ref w4)] [(.ref a1), (.ref s4)]))
          obtain ⟨t41, kt41, E41, Fv41, Fc41, Va41, l841, hr41⟩ := id (S_w4.ext f6.2)
          obtain ⟨t42, kt42, E42, Fv42, Fc42, Va42, l842, hr42⟩ := id f9
          obtain ⟨cq43, kq43, q43a, q43b, q43c⟩ := isOf hZ e40 E41
          obtain ⟨v43, _, ⟨T43, L43, k43, n43⟩, -, X43, ⟨Lc43, hQ43, l43, y43, z43⟩, st43⟩ := X40.virtualBack hx (y := (⟨"java/lang/String", "equals", "(Ljava/lang/Object;)Z"⟩ : MethodName)) (z := (⟨"java/lang/String", "equals", "(Ljava/lang/Object;)Z"⟩ : MethodName)) hown (mvT hZ (own_w hw 118 rfl)) (mvT hZ (own_w hw 81 rfl)) (notFace_of_selects (args := #[]) (mvT hZ (own_w hw 83 rfl))) (mvT hZ (own_w hw 83 rfl)) (mvT hZ (own_w hw 82 rfl)) (by decide) (StrChars.Road.eqW (W := 0) hZ (own_wordsEq hw) (kI := 4) (own_w hw 7 rfl) E41 Fv41 Fc41 Va41 (own_Str.cod hr41) (own_Str.up hr41) (by omega) E42 Fv42 Fc42 Va42 (own_Str.cod hr42) (own_Str.up hr42) (by omega) (S_cs.ext f6.2) hcs (by decide) (by decide)) q43a q43c (g := (mkF m 25 #[.val (.ref a1), .val (.ref b1), .val (.int (5 : Int32)), .val (.int (4 : Int32)), .val (.ref w4)] [(.ref a1), (.ref s4)])) rfl (by rw [hml]; rfl) (Steps.refl _) (argsL := [(.ref a1)]) (rest := []) (lenOf pd_4 rfl) rfl (by show 2 * 0 + _ ≤ _; exact Nat.le_of_eq rfl) (hb hby d20_25) (fun _ _ => ⟨rfl, e40, (by decide : 1 + 0 ≤ _), (by decide : 5 + 0 ≤ _)⟩)
          dsimp only [Pt.U, Pt.locs, Pt.cells, Pt.slots] at X43 l43 y43 z43 st43 hQ43
          replace y43 : k43 = 1 := y43.trans (by decide)
          replace z43 : n43 = 5 := z43.trans (by decide)
          subst l43 y43 z43
          obtain ⟨hv43, rfl, e43⟩ := hQ43
          rcases hv43 with ⟨rfl, hq43⟩ | ⟨rfl, hq43⟩
          · skip
            have N43 := Fr.app N35 (Fr.nil n0)
            refine Go.tr st43 ?_
            show Go _ _ _ _ _ _ _ (T43.setTop (mkF m 28 #[.val (.ref a1), .val (.ref b1), .val (.int (5 : Int32)), .val (.int (4 : Int32)), .val (.ref w4)] [(.int (1 : Int32))]))
            refine Go.of (fun t k => XS.ifNo X43.here hx rfl (hb hby d20_28) rfl ((if0 _ _).trans (feq (by decide : ¬ ((1 : Int32) = (0 : Int32)))).1) k) ?_
            show Go _ _ _ _ _ _ _ (T43.setTop (mkF m 31 #[.val (.ref a1), .val (.ref b1), .val (.int (5 : Int32)), .val (.int (4 : Int32)), .val (.ref w4)] []))
            refine Go.of (fun t k => XS.aload X43.here hx rfl (hb hby d20_31) rfl rfl k) ?_
            show Go _ _ _ _ _ _ _ (T43.setTop (mkF m 33 #[.val (.ref a1), .val (.ref b1), .val (.int (5 : Int32)), .val (.int (4 : Int32)), .val (.ref w4)] [(.ref w4)]))
            obtain ⟨_, _, ⟨T44, L44, k44, n44⟩, -, X44, ⟨Lc44, hQ44, l44, y44, z44⟩, st44⟩ := Jvm.LawKit.callS X43 hx (y := (⟨"java/util/Optional", "of", "(Ljava/lang/Object;)Ljava/util/Optional;"⟩ : MethodName)) hown (mvT hZ (own_w hw 119 rfl)) (mvT hZ (own_w hw 120 rfl)) (mvT hZ (own_w hw 121 rfl)) (mvT hZ (own_w hw 122 rfl)) (by decide) (backOf (W := 0) (rm22 l Z a0 hw [] w4 T1.heap n0 (by omega) ) hZ (own_w hw 122 rfl) (own_w hw 121 rfl) (by decide) (by decide)) (g := (mkF m 33 #[.val (.ref a1), .val (.ref b1), .val (.int (5 : Int32)), .val (.int (4 : Int32)), .val (.ref w4)] [(.ref w4)])) rfl (by rw [hml]; rfl) (argsL := [(.ref w4)]) (rest := []) (lenOf pd_8 rfl) rfl (by show 2 * 0 + _ ≤ _; exact Nat.le_of_eq rfl) (hb hby d20_33) (fun _ _ => ⟨rfl, e43, (by decide : 1 + 1 ≤ _), (by decide : 5 + 1 ≤ _)⟩)
            dsimp only [Pt.U, Pt.locs, Pt.cells, Pt.slots] at X44 l44 y44 z44 st44 hQ44
            replace y44 : k44 = 2 := y44.trans (by decide)
            replace z44 : n44 = 6 := z44.trans (by decide)
            subst y44 z44
            obtain ⟨b44, rfl, N44q, K44, hlt44, Ex44, Fv44⟩ := hQ44
            have N44 : Fr n0 L44 := by rw [l44]; exact Fr.app N43 N44q
            clear l44
            refine Go.of st44 ?_
            have hs45 : T1.heap.size ≤ T44.heap.size := K44.1
            show Go _ _ _ _ _ _ _ (T44.setTop (mkF m 36 #[.val (.ref a1), .val (.ref b1), .val (.int (5 : Int32)), .val (.int (4 : Int32)), .val (.ref w4)] [(.ref b44)]))
            refine Go.out X44 (v := some (.ref b44)) (fun h => by rw [Bd.returns] at h; cases h) hlk (fun fs hr => retOut X44 hx (t := (.object "java/util/Optional")) Bd.returns rfl (Or.inr (Or.inr (Or.inr (Or.inr ⟨rfl, rfl, rfl⟩)))) (hb hby d20_36) hr) ?_ (by decide) (by decide)
            show QFS Z a1 xs cs w0 w1 w2 w3 w4 s0 s1 s2 s3 s4 wE wV kv h0 n0 _ T44.heap _
            have hev : own_ev xs w0 w1 w2 w3 w4 = (.ref w4) := by unfold own_ev; rw [if_neg (fun q => hq11 q.symm), if_neg (fun q => hq19 q.symm), if_neg (fun q => hq27 q.symm), if_neg (fun q => hq35 q.symm), if_pos hq43.symm]
            exact ⟨b44, rfl, N44, (((Keep.refl h0 []).trans K1 all0).trans K44 all0), Ex44.lt, Ex44, by rw [hev]; exact Fv44⟩
          · skip
            have N43 := Fr.app N35 (Fr.nil n0)
            refine Go.tr st43 ?_
            show Go _ _ _ _ _ _ _ (T43.setTop (mkF m 28 #[.val (.ref a1), .val (.ref b1), .val (.int (5 : Int32)), .val (.int (4 : Int32)), .val (.ref w4)] [(.int (0 : Int32))]))
            refine Go.of (fun t k => XS.ifYes X43.here hx rfl (pc0 := 28) (pc' := 37) rfl (hb hby d20_28) rfl ((if0 _ _).trans (teq (by decide : (0 : Int32) = (0 : Int32))).1) (by decide) (by decide) k) ?_
            show Go _ _ _ _ _ _ _ (T43.setTop (mkF m 37 #[.val (.ref a1), .val (.ref b1), .val (.int (5 : Int32)), .val (.int (4 : Int32)), .val (.ref w4)] []))
            refine Go.of (fun t k => XS.iinc X43.here hx rfl (hb hby d20_37) rfl (l' := #[.val (.ref a1), .val (.ref b1), .val (.int (5 : Int32)), .val (.int (5 : Int32)), .val (.ref w4)]) rfl k) ?_
            show Go _ _ _ _ _ _ _ (T43.setTop (mkF m 40 #[.val (.ref a1), .val (.ref b1), .val (.int (5 : Int32)), .val (.int (5 : Int32)), .val (.ref w4)] []))
            refine Go.of (fun t k => XS.goto X43.here hx rfl (pc0 := 40) (pc' := 9) rfl (hb hby d20_40) (by decide) (by decide) k) ?_
            show Go _ _ _ _ _ _ _ (T43.setTop (mkF m 9 #[.val (.ref a1), .val (.ref b1), .val (.int (5 : Int32)), .val (.int (5 : Int32)), .val (.ref w4)] []))
            refine Go.of (fun t k => XS.iloadN X43.here hx rfl (hb hby d20_9) rfl k) ?_
            show Go _ _ _ _ _ _ _ (T43.setTop (mkF m 10 #[.val (.ref a1), .val (.ref b1), .val (.int (5 : Int32)), .val (.int (5 : Int32)), .val (.ref w4)] [(.int (5 : Int32))]))
            refine Go.of (fun t k => XS.iloadN X43.here hx rfl (hb hby d20_10) rfl k) ?_
            show Go _ _ _ _ _ _ _ (T43.setTop (mkF m 11 #[.val (.ref a1), .val (.ref b1), .val (.int (5 : Int32)), .val (.int (5 : Int32)), .val (.ref w4)] [(.int (5 : Int32)), (.int (5 : Int32))]))
            refine Go.of (fun t k => XS.icmpYes X43.here hx rfl (pc0 := 11) (pc' := 43) rfl (hb hby d20_11) rfl (flt (by decide : ¬ ((5 : Int32) < (5 : Int32)))).2.1 (by decide) (by decide) k) ?_
            show Go _ _ _ _ _ _ _ (T43.setTop (mkF m 43 #[.val (.ref a1), .val (.ref b1), .val (.int (5 : Int32)), .val (.int (5 : Int32)), .val (.ref w4)] []))
            obtain ⟨_, _, ⟨T46, L46, k46, n46⟩, -, X46, ⟨Lc46, hQ46, l46, y46, z46⟩, st46⟩ := Jvm.LawKit.callS X43 hx (y := (⟨"java/util/Optional", "empty", "()Ljava/util/Optional;"⟩ : MethodName)) hown (mvT hZ (own_w hw 148 rfl)) (mvT hZ (own_w hw 149 rfl)) (mvT hZ (own_w hw 121 rfl)) (mvT hZ (own_w hw 150 rfl)) (by decide) (backOf (W := 0) (rm27 l Z a0 hw [] wE T1.heap n0 (by omega) (S_E.ext f6.2)) hZ (own_w hw 150 rfl) (own_w hw 121 rfl) (by decide) (by decide)) (g := (mkF m 43 #[.val (.ref a1), .val (.ref b1), .val (.int (5 : Int32)), .val (.int (5 : Int32)), .val (.ref w4)] [])) rfl (by rw [hml]; rfl) (argsL := []) (rest := []) (lenOf pd_9 rfl) rfl (by show 2 * 0 + _ ≤ _; exact Nat.le_of_eq rfl) (hb hby d20_43) (fun _ _ => ⟨rfl, e43, (by decide : 1 + 0 ≤ _), (by decide : 5 + 0 ≤ _)⟩)
            dsimp only [Pt.U, Pt.locs, Pt.cells, Pt.slots] at X46 l46 y46 z46 st46 hQ46
            replace y46 : k46 = 1 := y46.trans (by decide)
            replace z46 : n46 = 5 := z46.trans (by decide)
            subst y46 z46
            obtain ⟨rfl, N46q, e46⟩ := hQ46
            have N46 : Fr n0 L46 := by rw [l46]; exact Fr.app N43 N46q
            clear l46
            refine Go.of st46 ?_
            show Go _ _ _ _ _ _ _ (T46.setTop (mkF m 46 #[.val (.ref a1), .val (.ref b1), .val (.int (5 : Int32)), .val (.int (5 : Int32)), .val (.ref w4)] [(.ref wE)]))
            refine Go.out X46 (v := some (.ref wE)) (fun h => by rw [Bd.returns] at h; cases h) hlk (fun fs hr => retOut X46 hx (t := (.object "java/util/Optional")) Bd.returns rfl (Or.inr (Or.inr (Or.inr (Or.inr ⟨rfl, rfl, rfl⟩)))) (hb hby d20_46) hr) ?_ (by decide) (by decide)
            show QFS Z a1 xs cs w0 w1 w2 w3 w4 s0 s1 s2 s3 s4 wE wV kv h0 n0 _ T46.heap _
            have hev : own_ev xs w0 w1 w2 w3 w4 = .null := by unfold own_ev; rw [if_neg (fun q => hq11 q.symm), if_neg (fun q => hq19 q.symm), if_neg (fun q => hq27 q.symm), if_neg (fun q => hq35 q.symm), if_neg (fun q => hq43 q.symm)]
            rw [e46]
            exact ⟨wE, rfl, N46, ((Keep.refl h0 []).trans K1 all0), (E_E.ext f6.2).lt, (E_E.ext f6.2), by rw [hev]; exact (F_E.ext f6.2)⟩
def QFN (Z : State) (cs : Int32) (w0 : Nat) (w1 : Nat) (w2 : Nat) (w3 : Nat) (w4 : Nat) (s0 : Nat) (s1 : Nat) (s2 : Nat) (s3 : Nat) (s4 : Nat) (wE : Nat) (wV : Nat) (kv : ClassId) (h0 : Heap) (n0 : Nat) (v : Option Value) (h : Heap) (L : List Loc) : Prop := ∃ o : Nat, v = some (.ref o) ∧ Fr n0 L ∧ Keep h0 h [] ∧ o < h.size ∧ Exa Z h o "java/util/Optional" ∧ Fld Z h o "java/util/Optional" "value" "Ljava/lang/Object;" .null
set_option maxRecDepth 65536 in
set_option maxHeartbeats 40000000 in
theorem rmFN (l : Launch) (Z : State) (a0 : Array Value) (hw : ∀ d ∈ tables_1, d.before a0 Z = true) (ws : List Jvm.Cond) (cs : Int32) (w0 : Nat) (w1 : Nat) (w2 : Nat) (w3 : Nat) (w4 : Nat) (s0 : Nat) (s1 : Nat) (s2 : Nat) (s3 : Nat) (s4 : Nat) (wE : Nat) (wV : Nat) (kv : ClassId) (h0 : Heap) (n0 : Nat) (Z0 : n0 ≤ h0.size) (O0 : Old Z n0 h0) (S_cs : Sta Z Z.heap "java/lang/String" "COMPACT_STRINGS" "Z" (.int cs)) (hcs : ¬ cs = (0 : Int32)) (F_w0 : Fld Z Z.heap w0 "com/example/clearstep/clearstep/core/EventKind" "word" "Ljava/lang/String;" (.ref s0)) (F_w1 : Fld Z Z.heap w1 "com/example/clearstep/clearstep/core/EventKind" "word" "Ljava/lang/String;" (.ref s1)) (F_w2 : Fld Z Z.heap w2 "com/example/clearstep/clearstep/core/EventKind" "word" "Ljava/lang/String;" (.ref s2)) (F_w3 : Fld Z Z.heap w3 "com/example/clearstep/clearstep/core/EventKind" "word" "Ljava/lang/String;" (.ref s3)) (F_w4 : Fld Z Z.heap w4 "com/example/clearstep/clearstep/core/EventKind" "word" "Ljava/lang/String;" (.ref s4)) (S_w0 : own_Str Z Z.heap s0 own_c1) (S_w1 : own_Str Z Z.heap s1 own_c2) (S_w2 : own_Str Z Z.heap s2 own_c3) (S_w3 : own_Str Z Z.heap s3 own_c4) (S_w4 : own_Str Z Z.heap s4 own_c5) (S_E : Sta Z Z.heap "java/util/Optional" "EMPTY" "Ljava/util/Optional;" (.ref wE)) (E_E : Exa Z Z.heap wE "java/util/Optional") (F_E : Fld Z Z.heap wE "java/util/Optional" "value" "Ljava/lang/Object;" .null) (S_V : Sta Z Z.heap "com/example/clearstep/clearstep/core/EventKind" "$VALUES" "[Lcom/example/clearstep/clearstep/core/EventKind;" (.ref wV)) (V_V : Arv Z Z.heap wV kv (.object "com/example/clearstep/clearstep/core/EventKind") (5 : Int32) [(.ref w0), (.ref w1), (.ref w2), (.ref w3), (.ref w4)] .null) (E_V : Exa Z Z.heap wV "[Lcom/example/clearstep/clearstep/core/EventKind;") :
    MetFree l (⟨"com/example/clearstep/clearstep/core/EventKind", "fromWord", "(Ljava/lang/String;)Ljava/util/Optional;"⟩ : MethodName) (head1 (Jvm.Cond.code (⟨"com/example/clearstep/clearstep/core/EventKind", "fromWord", "(Ljava/lang/String;)Ljava/util/Optional;"⟩ : MethodName) prog_46_method_8_code 5 (some (.object "java/util/Optional")) :: ws) ({ frames := 3, cells := 2, slots := 6, locals := 40 } : Room)) (fun a U => a = #[.null] ∧ Z.Warmed39 U.vm ∧ U.heap = h0) (fun _ _ _ _ _ => True) (fun _ U o U' => ∃ v L, o = .returned v ∧ QFN Z cs w0 w1 w2 w3 w4 s0 s1 s2 s3 s4 wE wV kv h0 n0 v U'.heap L ∧ FrameEnd U o U' L ({ frames := 3, cells := 2, slots := 6, locals := 40 } : Room).cells ({ frames := 3, cells := 2, slots := 6, locals := 40 } : Room).slots) := by
  refine MetFree.of_bodySF (plainFor_of_name pn_4) hisR ?_
  intro p e s m args below meth c s₁ Bd hml0 hP hK
  obtain ⟨rfl, hZ, hh⟩ := hP
  have hx := Bd.exec
  have hby := Bd.bytes
  have hml : c.maxLocals = 5 := hml0
  have hown : s.vm.findClass "com/example/clearstep/clearstep/core/EventKind" = some m.cls := findClass_of_methodNamed Bd.named
  have hnm := (name_of_methodNamed Bd.named Bd.method).1
  have hlk : meth.locks = false := BodyLoose.notSynchronized Bd
  have X0 : Stand p l e ({ frames := 3, cells := 2, slots := 6, locals := 40 } : Room) s m #[.null] below meth c s₁ [] 0 0 := Stand.of_body Bd
  have e0 : s₁.heap = h0 := by rw [← hh, Bd.state]; rfl
  have N0 := Fr.nil n0
  have hef : entryFrame m #[.null] 5 = mkF m 0 #[.val .null, .unset, .unset, .unset, .unset] [] := by first | (simp [entryFrame, mkF, argsToLocals, Value.category]; done) | rfl
  show Go p e below s ({ frames := 3, cells := 2, slots := 6, locals := 40 } : Room).cells ({ frames := 3, cells := 2, slots := 6, locals := 40 } : Room).slots (QFN Z cs w0 w1 w2 w3 w4 s0 s1 s2 s3 s4 wE wV kv h0 n0) (s₁.setTop (entryFrame m #[.null] 5))
  rw [hef]
  obtain ⟨_, _, ⟨T1, L1, k1, n1⟩, -, X1, ⟨Lc1, hQ1, l1, y1, z1⟩, st1⟩ := Jvm.LawKit.callS X0 hx (y := (⟨"com/example/clearstep/clearstep/core/EventKind", "values", "()[Lcom/example/clearstep/clearstep/core/EventKind;"⟩ : MethodName)) hown (mvT hZ (own_w hw 97 rfl)) (mvT hZ (own_w hw 98 rfl)) (mvT hZ (own_w hw 92 rfl)) (mvT hZ (own_w hw 99 rfl)) (by decide) (backOf (W := 0) (rm21 l Z a0 hw [] wV kv w0 w1 w2 w3 w4 h0 n0 Z0 (S_V.ext O0.2) (V_V.ext O0.2) (E_V.ext O0.2)) hZ (own_w hw 99 rfl) (own_w hw 92 rfl) (by decide) (by decide)) (g := (mkF m 0 #[.val .null, .unset, .unset, .unset, .unset] [])) rfl (by rw [hml]; rfl) (argsL := []) (rest := []) (lenOf pd_7 rfl) rfl (by show 2 * 0 + _ ≤ _; exact Nat.le_of_eq rfl) (hb hby d20_0) (fun _ _ => ⟨rfl, e0, (by decide : 0 + 1 ≤ _), (by decide : 0 + 5 ≤ _)⟩)
  dsimp only [Pt.U, Pt.locs, Pt.cells, Pt.slots] at X1 l1 y1 z1 st1 hQ1
  replace y1 : k1 = 1 := y1.trans (by decide)
  replace z1 : n1 = 5 := z1.trans (by decide)
  subst y1 z1
  obtain ⟨b1, rfl, N1q, K1, hge1, Vb1⟩ := hQ1
  have N1 : Fr n0 L1 := by rw [l1]; exact Fr.app N0 N1q
  clear l1
  refine Go.of st1 ?_
  have hs2 : h0.size ≤ T1.heap.size := K1.1
  show Go _ _ _ _ _ _ _ (T1.setTop (mkF m 3 #[.val .null, .unset, .unset, .unset, .unset] [(.ref b1)]))
  refine Go.of (fun t k => XS.astoreN X1.here hx rfl (hb hby d20_3) rfl rfl (l' := #[.val .null, .val (.ref b1), .unset, .unset, .unset]) rfl k) ?_
  show Go _ _ _ _ _ _ _ (T1.setTop (mkF m 4 #[.val .null, .val (.ref b1), .unset, .unset, .unset] []))
  refine Go.of (fun t k => XS.aloadN X1.here hx rfl (hb hby d20_4) rfl rfl k) ?_
  show Go _ _ _ _ _ _ _ (T1.setTop (mkF m 5 #[.val .null, .val (.ref b1), .unset, .unset, .unset] [(.ref b1)]))
  obtain ⟨cl3, Ar3, q3, S3, N3, H3, G3⟩ := id Vb1
  refine Go.of (X1.arraylength hx (own_at rfl Ar3.1) (State.isArrayOf_alike hZ.alike Ar3.2.1) (g := (mkF m 5 #[.val .null, .val (.ref b1), .unset, .unset, .unset] [(.ref b1)])) rfl rfl (hb hby d20_5)) ?_
  rw [len_of S3 N3]
  show Go _ _ _ _ _ _ _ (T1.setTop (mkF m 6 #[.val .null, .val (.ref b1), .unset, .unset, .unset] [(.int (5 : Int32))]))
  refine Go.of (fun t k => XS.istoreN X1.here hx rfl (hb hby d20_6) rfl (l' := #[.val .null, .val (.ref b1), .val (.int (5 : Int32)), .unset, .unset]) rfl k) ?_
  show Go _ _ _ _ _ _ _ (T1.setTop (mkF m 7 #[.val .null, .val (.ref b1), .val (.int (5 : Int32)), .unset, .unset] []))
  refine Go.of (fun t k => XS.iconst X1.here hx rfl (hb hby d20_7) k) ?_
  show Go _ _ _ _ _ _ _ (T1.setTop (mkF m 8 #[.val .null, .val (.ref b1), .val (.int (5 : Int32)), .unset, .unset] [(.int (0 : Int32))]))
  refine Go.of (fun t k => XS.istoreN X1.here hx rfl (hb hby d20_8) rfl (l' := #[.val .null, .val (.ref b1), .val (.int (5 : Int32)), .val (.int (0 : Int32)), .unset]) rfl k) ?_
  show Go _ _ _ _ _ _ _ (T1.setTop (mkF m 9 #[.val .null, .val (.ref b1), .val (.int (5 : Int32)), .val (.int (0 : Int32)), .unset] []))
  refine Go.of (fun t k => XS.iloadN X1.here hx rfl (hb hby d20_9) rfl k) ?_
  show Go _ _ _ _ _ _ _ (T1.setTop (mkF m 10 #[.val .null, .val (.ref b1), .val (.int (5 : Int32)), .val (.int (0 : Int32)), .unset] [(.int (0 : Int32))]))
  refine Go.of (fun t k => XS.iloadN X1.here hx rfl (hb hby d20_10) rfl k) ?_
  show Go _ _ _ _ _ _ _ (T1.setTop (mkF m 11 #[.val .null, .val (.ref b1), .val (.int (5 : Int32)), .val (.int (0 : Int32)), .unset] [(.int (5 : Int32)), (.int (0 : Int32))]))
  refine Go.of (fun t k => XS.icmpNo X1.here hx rfl (hb hby d20_11) rfl (tlt (by decide : (0 : Int32) < (5 : Int32))).2.1 k) ?_
  show Go _ _ _ _ _ _ _ (T1.setTop (mkF m 14 #[.val .null, .val (.ref b1), .val (.int (5 : Int32)), .val (.int (0 : Int32)), .unset] []))
  refine Go.of (fun t k => XS.aloadN X1.here hx rfl (hb hby d20_14) rfl rfl k) ?_
  show Go _ _ _ _ _ _ _ (T1.setTop (mkF m 15 #[.val .null, .val (.ref b1), .val (.int (5 : Int32)), .val (.int (0 : Int32)), .unset] [(.ref b1)]))
  refine Go.of (fun t k => XS.iloadN X1.here hx rfl (hb hby d20_15) rfl k) ?_
  show Go _ _ _ _ _ _ _ (T1.setTop (mkF m 16 #[.val .null, .val (.ref b1), .val (.int (5 : Int32)), .val (.int (0 : Int32)), .unset] [(.int (0 : Int32)), (.ref b1)]))
  obtain ⟨cl4, Ar4, q4, S4, N4, H4, G4⟩ := id Vb1
  have hin5 := inb_of S4 (j := (0 : Int32)) ⟨by decide, by decide⟩
  refine Go.of (X1.aaload hx (j := (0 : Int32)) (v := (.ref w0)) (own_at rfl Ar4.1) (State.isArrayOf_alike hZ.alike Ar4.2.1) rfl Ar4.2.2 hin5 (H4.at hin5 rfl) (g := (mkF m 16 #[.val .null, .val (.ref b1), .val (.int (5 : Int32)), .val (.int (0 : Int32)), .unset] [(.int (0 : Int32)), (.ref b1)])) rfl rfl (hb hby d20_16)) ?_
  show Go _ _ _ _ _ _ _ (T1.setTop (mkF m 17 #[.val .null, .val (.ref b1), .val (.int (5 : Int32)), .val (.int (0 : Int32)), .unset] [(.ref w0)]))
  refine Go.of (fun t k => XS.astore X1.here hx rfl (hb hby d20_17) rfl rfl (l' := #[.val .null, .val (.ref b1), .val (.int (5 : Int32)), .val (.int (0 : Int32)), .val (.ref w0)]) rfl k) ?_
  show Go _ _ _ _ _ _ _ (T1.setTop (mkF m 19 #[.val .null, .val (.ref b1), .val (.int (5 : Int32)), .val (.int (0 : Int32)), .val (.ref w0)] []))
  refine Go.of (fun t k => XS.aload X1.here hx rfl (hb hby d20_19) rfl rfl k) ?_
  show Go _ _ _ _ _ _ _ (T1.setTop (mkF m 21 #[.val .null, .val (.ref b1), .val (.int (5 : Int32)), .val (.int (0 : Int32)), .val (.ref w0)] [(.ref w0)]))
  have f6 := (O0.keep K1 all0)
  obtain ⟨T7, X7, e7, st7⟩ := getF X1 hx hZ hown (host := "") (Or.inl (own_w hw 116 rfl)) Via.refl rfl (F_w0.ext f6.2) (g := (mkF m 21 #[.val .null, .val (.ref b1), .val (.int (5 : Int32)), .val (.int (0 : Int32)), .val (.ref w0)] [(.ref w0)])) rfl rfl (hb hby d20_21)
  refine Go.of st7 ?_
  show Go _ _ _ _ _ _ _ (T7.setTop (mkF m 24 #[.val .null, .val (.ref b1), .val (.int (5 : Int32)), .val (.int (0 : Int32)), .val (.ref w0)] [(.ref s0)]))
  refine Go.of (fun t k => XS.aloadN X7.here hx rfl (hb hby d20_24) rfl rfl k) ?_
  show Go _ _ _ _ _ _ _ (T7.setTop (mkF m 25 #[.val .null, .val (.ref b1), .val (.int (5 : Int32)), .val (.int (0 : Int32)), .val (.ref w0)] [.null, (.ref s0)]))
  obtain ⟨cq8, kq8, q8a, q8b, q8c⟩ := isOf hZ e7 ((S_w0.choose_spec.choose_spec.1).ext f6.2)
  obtain ⟨_, _, ⟨T8, L8, k8, n8⟩, -, X8, ⟨Lc8, hQ8, l8, y8, z8⟩, st8⟩ := X7.virtualBack hx (y := (⟨"java/lang/String", "equals", "(Ljava/lang/Object;)Z"⟩ : MethodName)) (z := (⟨"java/lang/String", "equals", "(Ljava/lang/Object;)Z"⟩ : MethodName)) hown (mvT hZ (own_w hw 118 rfl)) (mvT hZ (own_w hw 81 rfl)) (notFace_of_selects (args := #[]) (mvT hZ (own_w hw 83 rfl))) (mvT hZ (own_w hw 83 rfl)) (mvT hZ (own_w hw 82 rfl)) (by decide) (backOf (W := 0) (rmEN l Z a0 hw [] s0 T1.heap n0 (by omega) ) hZ (own_w hw 84 rfl) (own_w hw 6 rfl) (by decide) (by decide)) q8a q8c (g := (mkF m 25 #[.val .null, .val (.ref b1), .val (.int (5 : Int32)), .val (.int (0 : Int32)), .val (.ref w0)] [.null, (.ref s0)])) rfl (by rw [hml]; rfl) (Steps.refl _) (argsL := [.null]) (rest := []) (lenOf pd_4 rfl) rfl (by show 2 * 0 + _ ≤ _; exact Nat.le_of_eq rfl) (hb hby d20_25) (fun _ _ => ⟨rfl, e7, (by decide : 1 + 0 ≤ _), (by decide : 5 + 0 ≤ _)⟩)
  dsimp only [Pt.U, Pt.locs, Pt.cells, Pt.slots] at X8 l8 y8 z8 st8 hQ8
  replace y8 : k8 = 1 := y8.trans (by decide)
  replace z8 : n8 = 5 := z8.trans (by decide)
  subst y8 z8
  obtain ⟨rfl, N8q, e8⟩ := hQ8
  have N8 : Fr n0 L8 := by rw [l8]; exact Fr.app N1 N8q
  clear l8
  refine Go.tr st8 ?_
  show Go _ _ _ _ _ _ _ (T8.setTop (mkF m 28 #[.val .null, .val (.ref b1), .val (.int (5 : Int32)), .val (.int (0 : Int32)), .val (.ref w0)] [(.int (0 : Int32))]))
  refine Go.of (fun t k => XS.ifYes X8.here hx rfl (pc0 := 28) (pc' := 37) rfl (hb hby d20_28) rfl ((if0 _ _).trans (teq (by decide : (0 : Int32) = (0 : Int32))).1) (by decide) (by decide) k) ?_
  show Go _ _ _ _ _ _ _ (T8.setTop (mkF m 37 #[.val .null, .val (.ref b1), .val (.int (5 : Int32)), .val (.int (0 : Int32)), .val (.ref w0)] []))
  refine Go.of (fun t k => XS.iinc X8.here hx rfl (hb hby d20_37) rfl (l' := #[.val .null, .val (.ref b1), .val (.int (5 : Int32)), .val (.int (1 : Int32)), .val (.ref w0)]) rfl k) ?_
  show Go _ _ _ _ _ _ _ (T8.setTop (mkF m 40 #[.val .null, .val (.ref b1), .val (.int (5 : Int32)), .val (.int (1 : Int32)), .val (.ref w0)] []))
  refine Go.of (fun t k => XS.goto X8.here hx rfl (pc0 := 40) (pc' := 9) rfl (hb hby d20_40) (by decide) (by decide) k) ?_
  show Go _ _ _ _ _ _ _ (T8.setTop (mkF m 9 #[.val .null, .val (.ref b1), .val (.int (5 : Int32)), .val (.int (1 : Int32)), .val (.ref w0)] []))
  refine Go.of (fun t k => XS.iloadN X8.here hx rfl (hb hby d20_9) rfl k) ?_
  show Go _ _ _ _ _ _ _ (T8.setTop (mkF m 10 #[.val .null, .val (.ref b1), .val (.int (5 : Int32)), .val (.int (1 : Int32)), .val (.ref w0)] [(.int (1 : Int32))]))
  refine Go.of (fun t k => XS.iloadN X8.here hx rfl (hb hby d20_10) rfl k) ?_
  show Go _ _ _ _ _ _ _ (T8.setTop (mkF m 11 #[.val .null, .val (.ref b1), .val (.int (5 : Int32)), .val (.int (1 : Int32)), .val (.ref w0)] [(.int (5 : Int32)), (.int (1 : Int32))]))
  refine Go.of (fun t k => XS.icmpNo X8.here hx rfl (hb hby d20_11) rfl (tlt (by decide : (1 : Int32) < (5 : Int32))).2.1 k) ?_
  show Go _ _ _ _ _ _ _ (T8.setTop (mkF m 14 #[.val .null, .val (.ref b1), .val (.int (5 : Int32)), .val (.int (1 : Int32)), .val (.ref w0)] []))
  refine Go.of (fun t k => XS.aloadN X8.here hx rfl (hb hby d20_14) rfl rfl k) ?_
  show Go _ _ _ _ _ _ _ (T8.setTop (mkF m 15 #[.val .null, .val (.ref b1), .val (.int (5 : Int32)), .val (.int (1 : Int32)), .val (.ref w0)] [(.ref b1)]))
  refine Go.of (fun t k => XS.iloadN X8.here hx rfl (hb hby d20_15) rfl k) ?_
  show Go _ _ _ _ _ _ _ (T8.setTop (mkF m 16 #[.val .null, .val (.ref b1), .val (.int (5 : Int32)), .val (.int (1 : Int32)), .val (.ref w0)] [(.int (1 : Int32)), (.ref b1)]))
  obtain ⟨cl9, Ar9, q9, S9, N9, H9, G9⟩ := id Vb1
  have hin10 := inb_of S9 (j := (1 : Int32)) ⟨by decide, by decide⟩
  refine Go.of (X8.aaload hx (j := (1 : Int32)) (v := (.ref w1)) (own_at e8 Ar9.1) (State.isArrayOf_alike hZ.alike Ar9.2.1) rfl Ar9.2.2 hin10 (H9.at hin10 rfl) (g := (mkF m 16 #[.val .null, .val (.ref b1), .val (.int (5 : Int32)), .val (.int (1 : Int32)), .val (.ref w0)] [(.int (1 : Int32)), (.ref b1)])) rfl rfl (hb hby d20_16)) ?_
  show Go _ _ _ _ _ _ _ (T8.setTop (mkF m 17 #[.val .null, .val (.ref b1), .val (.int (5 : Int32)), .val (.int (1 : Int32)), .val (.ref w0)] [(.ref w1)]))
  refine Go.of (fun t k => XS.astore X8.here hx rfl (hb hby d20_17) rfl rfl (l' := #[.val .null, .val (.ref b1), .val (.int (5 : Int32)), .val (.int (1 : Int32)), .val (.ref w1)]) rfl k) ?_
  show Go _ _ _ _ _ _ _ (T8.setTop (mkF m 19 #[.val .null, .val (.ref b1), .val (.int (5 : Int32)), .val (.int (1 : Int32)), .val (.ref w1)] []))
  refine Go.of (fun t k => XS.aload X8.here hx rfl (hb hby d20_19) rfl rfl k) ?_
  show Go _ _ _ _ _ _ _ (T8.setTop (mkF m 21 #[.val .null, .val (.ref b1), .val (.int (5 : Int32)), .val (.int (1 : Int32)), .val (.ref w1)] [(.ref w1)]))
  obtain ⟨T11, X11, e11, st11⟩ := getF X8 hx hZ hown (host := "") (Or.inl (own_w hw 116 rfl)) Via.refl e8 (F_w1.ext f6.2) (g := (mkF m 21 #[.val .null, .val (.ref b1), .val (.int (5 : Int32)), .val (.int (1 : Int32)), .val (.ref w1)] [(.ref w1)])) rfl rfl (hb hby d20_21)
  refine Go.of st11 ?_
  show Go _ _ _ _ _ _ _ (T11.setTop (mkF m 24 #[.val .null, .val (.ref b1), .val (.int (5 : Int32)), .val (.int (1 : Int32)), .val (.ref w1)] [(.ref s1)]))
  refine Go.of (fun t k => XS.aloadN X11.here hx rfl (hb hby d20_24) rfl rfl k) ?_
  show Go _ _ _ _ _ _ _ (T11.setTop (mkF m 25 #[.val .null, .val (.ref b1), .val (.int (5 : Int32)), .val (.int (1 : Int32)), .val (.ref w1)] [.null, (.ref s1)]))
  obtain ⟨cq12, kq12, q12a, q12b, q12c⟩ := isOf hZ e11 ((S_w1.choose_spec.choose_spec.1).ext f6.2)
  obtain ⟨_, _, ⟨T12, L12, k12, n12⟩, -, X12, ⟨Lc12, hQ12, l12, y12, z12⟩, st12⟩ := X11.virtualBack hx (y := (⟨"java/lang/String", "equals", "(Ljava/lang/Object;)Z"⟩ : MethodName)) (z := (⟨"java/lang/String", "equals", "(Ljava/lang/Object;)Z"⟩ : MethodName)) hown (mvT hZ (own_w hw 118 rfl)) (mvT hZ (own_w hw 81 rfl)) (notFace_of_selects (args := #[]) (mvT hZ (own_w hw 83 rfl))) (mvT hZ (own_w hw 83 rfl)) (mvT hZ (own_w hw 82 rfl)) (by decide) (backOf (W := 0) (rmEN l Z a0 hw [] s1 T1.heap n0 (by omega) ) hZ (own_w hw 84 rfl) (own_w hw 6 rfl) (by decide) (by decide)) q12a q12c (g := (mkF m 25 #[.val .null, .val (.ref b1), .val (.int (5 : Int32)), .val (.int (1 : Int32)), .val (.ref w1)] [.null, (.ref s1)])) rfl (by rw [hml]; rfl) (Steps.refl _) (argsL := [.null]) (rest := []) (lenOf pd_4 rfl) rfl (by show 2 * 0 + _ ≤ _; exact Nat.le_of_eq rfl) (hb hby d20_25) (fun _ _ => ⟨rfl, e11, (by decide : 1 + 0 ≤ _), (by decide : 5 + 0 ≤ _)⟩)
  dsimp only [Pt.U, Pt.locs, Pt.cells, Pt.slots] at X12 l12 y12 z12 st12 hQ12
  replace y12 : k12 = 1 := y12.trans (by decide)
  replace z12 : n12 = 5 := z12.trans (by decide)
  subst y12 z12
  obtain ⟨rfl, N12q, e12⟩ := hQ12
  have N12 : Fr n0 L12 := by rw [l12]; exact Fr.app N8 N12q
  clear l12
  refine Go.tr st12 ?_
  show Go _ _ _ _ _ _ _ (T12.setTop (mkF m 28 #[.val .null, .val (.ref b1), .val (.int (5 : Int32)), .val (.int (1 : Int32)), .val (.ref w1)] [(.int (0 : Int32))]))
  refine Go.of (fun t k => XS.ifYes X12.here hx rfl (pc0 := 28) (pc' := 37) rfl (hb hby d20_28) rfl ((if0 _ _).trans (teq (by decide : (0 : Int32) = (0 : Int32))).1) (by decide) (by decide) k) ?_
  show Go _ _ _ _ _ _ _ (T12.setTop (mkF m 37 #[.val .null, .val (.ref b1), .val (.int (5 : Int32)), .val (.int (1 : Int32)), .val (.ref w1)] []))
  refine Go.of (fun t k => XS.iinc X12.here hx rfl (hb hby d20_37) rfl (l' := #[.val .null, .val (.ref b1), .val (.int (5 : Int32)), .val (.int (2 : Int32)), .val (.ref w1)]) rfl k) ?_
  show Go _ _ _ _ _ _ _ (T12.setTop (mkF m 40 #[.val .null, .val (.ref b1), .val (.int (5 : Int32)), .val (.int (2 : Int32)), .val (.ref w1)] []))
  refine Go.of (fun t k => XS.goto X12.here hx rfl (pc0 := 40) (pc' := 9) rfl (hb hby d20_40) (by decide) (by decide) k) ?_
  show Go _ _ _ _ _ _ _ (T12.setTop (mkF m 9 #[.val .null, .val (.ref b1), .val (.int (5 : Int32)), .val (.int (2 : Int32)), .val (.ref w1)] []))
  refine Go.of (fun t k => XS.iloadN X12.here hx rfl (hb hby d20_9) rfl k) ?_
  show Go _ _ _ _ _ _ _ (T12.setTop (mkF m 10 #[.val .null, .val (.ref b1), .val (.int (5 : Int32)), .val (.int (2 : Int32)), .val (.ref w1)] [(.int (2 : Int32))]))
  refine Go.of (fun t k => XS.iloadN X12.here hx rfl (hb hby d20_10) rfl k) ?_
  show Go _ _ _ _ _ _ _ (T12.setTop (mkF m 11 #[.val .null, .val (.ref b1), .val (.int (5 : Int32)), .val (.int (2 : Int32)), .val (.ref w1)] [(.int (5 : Int32)), (.int (2 : Int32))]))
  refine Go.of (fun t k => XS.icmpNo X12.here hx rfl (hb hby d20_11) rfl (tlt (by decide : (2 : Int32) < (5 : Int32))).2.1 k) ?_
  show Go _ _ _ _ _ _ _ (T12.setTop (mkF m 14 #[.val .null, .val (.ref b1), .val (.int (5 : Int32)), .val (.int (2 : Int32)), .val (.ref w1)] []))
  refine Go.of (fun t k => XS.aloadN X12.here hx rfl (hb hby d20_14) rfl rfl k) ?_
  show Go _ _ _ _ _ _ _ (T12.setTop (mkF m 15 #[.val .null, .val (.ref b1), .val (.int (5 : Int32)), .val (.int (2 : Int32)), .val (.ref w1)] [(.ref b1)]))
  refine Go.of (fun t k => XS.iloadN X12.here hx rfl (hb hby d20_15) rfl k) ?_
  show Go _ _ _ _ _ _ _ (T12.setTop (mkF m 16 #[.val .null, .val (.ref b1), .val (.int (5 : Int32)), .val (.int (2 : Int32)), .val (.ref w1)] [(.int (2 : Int32)), (.ref b1)]))
  obtain ⟨cl13, Ar13, q13, S13, N13, H13, G13⟩ := id Vb1
  have hin14 := inb_of S13 (j := (2 : Int32)) ⟨by decide, by decide⟩
  refine Go.of (X12.aaload hx (j := (2 : Int32)) (v := (.ref w2)) (own_at e12 Ar13.1) (State.isArrayOf_alike hZ.alike Ar13.2.1) rfl Ar13.2.2 hin14 (H13.at hin14 rfl) (g := (mkF m 16 #[.val .null, .val (.ref b1), .val (.int (5 : Int32)), .val (.int (2 : Int32)), .val (.ref w1)] [(.int (2 : Int32)), (.ref b1)])) rfl rfl (hb hby d20_16)) ?_
  show Go _ _ _ _ _ _ _ (T12.setTop (mkF m 17 #[.val .null, .val (.ref b1), .val (.int (5 : Int32)), .val (.int (2 : Int32)), .val (.ref w1)] [(.ref w2)]))
  refine Go.of (fun t k => XS.astore X12.here hx rfl (hb hby d20_17) rfl rfl (l' := #[.val .null, .val (.ref b1), .val (.int (5 : Int32)), .val (.int (2 : Int32)), .val (.ref w2)]) rfl k) ?_
  show Go _ _ _ _ _ _ _ (T12.setTop (mkF m 19 #[.val .null, .val (.ref b1), .val (.int (5 : Int32)), .val (.int (2 : Int32)), .val (.ref w2)] []))
  refine Go.of (fun t k => XS.aload X12.here hx rfl (hb hby d20_19) rfl rfl k) ?_
  show Go _ _ _ _ _ _ _ (T12.setTop (mkF m 21 #[.val .null, .val (.ref b1), .val (.int (5 : Int32)), .val (.int (2 : Int32)), .val (.ref w2)] [(.ref w2)]))
  obtain ⟨T15, X15, e15, st15⟩ := getF X12 hx hZ hown (host := "") (Or.inl (own_w hw 116 rfl)) Via.refl e12 (F_w2.ext f6.2) (g := (mkF m 21 #[.val .null, .val (.ref b1), .val (.int (5 : Int32)), .val (.int (2 : Int32)), .val (.ref w2)] [(.ref w2)])) rfl rfl (hb hby d20_21)
  refine Go.of st15 ?_
  show Go _ _ _ _ _ _ _ (T15.setTop (mkF m 24 #[.val .null, .val (.ref b1), .val (.int (5 : Int32)), .val (.int (2 : Int32)), .val (.ref w2)] [(.ref s2)]))
  refine Go.of (fun t k => XS.aloadN X15.here hx rfl (hb hby d20_24) rfl rfl k) ?_
  show Go _ _ _ _ _ _ _ (T15.setTop (mkF m 25 #[.val .null, .val (.ref b1), .val (.int (5 : Int32)), .val (.int (2 : Int32)), .val (.ref w2)] [.null, (.ref s2)]))
  obtain ⟨cq16, kq16, q16a, q16b, q16c⟩ := isOf hZ e15 ((S_w2.choose_spec.choose_spec.1).ext f6.2)
  obtain ⟨_, _, ⟨T16, L16, k16, n16⟩, -, X16, ⟨Lc16, hQ16, l16, y16, z16⟩, st16⟩ := X15.virtualBack hx (y := (⟨"java/lang/String", "equals", "(Ljava/lang/Object;)Z"⟩ : MethodName)) (z := (⟨"java/lang/String", "equals", "(Ljava/lang/Object;)Z"⟩ : MethodName)) hown (mvT hZ (own_w hw 118 rfl)) (mvT hZ (own_w hw 81 rfl)) (notFace_of_selects (args := #[]) (mvT hZ (own_w hw 83 rfl))) (mvT hZ (own_w hw 83 rfl)) (mvT hZ (own_w hw 82 rfl)) (by decide) (backOf (W := 0) (rmEN l Z a0 hw [] s2 T1.heap n0 (by omega) ) hZ (own_w hw 84 rfl) (own_w hw 6 rfl) (by decide) (by decide)) q16a q16c (g := (mkF m 25 #[.val .null, .val (.ref b1), .val (.int (5 : Int32)), .val (.int (2 : Int32)), .val (.ref w2)] [.null, (.ref s2)])) rfl (by rw [hml]; rfl) (Steps.refl _) (argsL := [.null]) (rest := []) (lenOf pd_4 rfl) rfl (by show 2 * 0 + _ ≤ _; exact Nat.le_of_eq rfl) (hb hby d20_25) (fun _ _ => ⟨rfl, e15, (by decide : 1 + 0 ≤ _), (by decide : 5 + 0 ≤ _)⟩)
  dsimp only [Pt.U, Pt.locs, Pt.cells, Pt.slots] at X16 l16 y16 z16 st16 hQ16
  replace y16 : k16 = 1 := y16.trans (by decide)
  replace z16 : n16 = 5 := z16.trans (by decide)
  subst y16 z16
  obtain ⟨rfl, N16q, e16⟩ := hQ16
  have N16 : Fr n0 L16 := by rw [l16]; exact Fr.app N12 N16q
  clear l16
  refine Go.tr st16 ?_
  show Go _ _ _ _ _ _ _ (T16.setTop (mkF m 28 #[.val .null, .val (.ref b1), .val (.int (5 : Int32)), .val (.int (2 : Int32)), .val (.ref w2)] [(.int (0 : Int32))]))
  refine Go.of (fun t k => XS.ifYes X16.here hx rfl (pc0 := 28) (pc' := 37) rfl (hb hby d20_28) rfl ((if0 _ _).trans (teq (by decide : (0 : Int32) = (0 : Int32))).1) (by decide) (by decide) k) ?_
  show Go _ _ _ _ _ _ _ (T16.setTop (mkF m 37 #[.val .null, .val (.ref b1), .val (.int (5 : Int32)), .val (.int (2 : Int32)), .val (.ref w2)] []))
  refine Go.of (fun t k => XS.iinc X16.here hx rfl (hb hby d20_37) rfl (l' := #[.val .null, .val (.ref b1), .val (.int (5 : Int32)), .val (.int (3 : Int32)), .val (.ref w2)]) rfl k) ?_
  show Go _ _ _ _ _ _ _ (T16.setTop (mkF m 40 #[.val .null, .val (.ref b1), .val (.int (5 : Int32)), .val (.int (3 : Int32)), .val (.ref w2)] []))
  refine Go.of (fun t k => XS.goto X16.here hx rfl (pc0 := 40) (pc' := 9) rfl (hb hby d20_40) (by decide) (by decide) k) ?_
  show Go _ _ _ _ _ _ _ (T16.setTop (mkF m 9 #[.val .null, .val (.ref b1), .val (.int (5 : Int32)), .val (.int (3 : Int32)), .val (.ref w2)] []))
  refine Go.of (fun t k => XS.iloadN X16.here hx rfl (hb hby d20_9) rfl k) ?_
  show Go _ _ _ _ _ _ _ (T16.setTop (mkF m 10 #[.val .null, .val (.ref b1), .val (.int (5 : Int32)), .val (.int (3 : Int32)), .val (.ref w2)] [(.int (3 : Int32))]))
  refine Go.of (fun t k => XS.iloadN X16.here hx rfl (hb hby d20_10) rfl k) ?_
  show Go _ _ _ _ _ _ _ (T16.setTop (mkF m 11 #[.val .null, .val (.ref b1), .val (.int (5 : Int32)), .val (.int (3 : Int32)), .val (.ref w2)] [(.int (5 : Int32)), (.int (3 : Int32))]))
  refine Go.of (fun t k => XS.icmpNo X16.here hx rfl (hb hby d20_11) rfl (tlt (by decide : (3 : Int32) < (5 : Int32))).2.1 k) ?_
  show Go _ _ _ _ _ _ _ (T16.setTop (mkF m 14 #[.val .null, .val (.ref b1), .val (.int (5 : Int32)), .val (.int (3 : Int32)), .val (.ref w2)] []))
  refine Go.of (fun t k => XS.aloadN X16.here hx rfl (hb hby d20_14) rfl rfl k) ?_
  show Go _ _ _ _ _ _ _ (T16.setTop (mkF m 15 #[.val .null, .val (.ref b1), .val (.int (5 : Int32)), .val (.int (3 : Int32)), .val (.ref w2)] [(.ref b1)]))
  refine Go.of (fun t k => XS.iloadN X16.here hx rfl (hb hby d20_15) rfl k) ?_
  show Go _ _ _ _ _ _ _ (T16.setTop (mkF m 16 #[.val .null, .val (.ref b1), .val (.int (5 : Int32)), .val (.int (3 : Int32)), .val (.ref w2)] [(.int (3 : Int32)), (.ref b1)]))
  obtain ⟨cl17, Ar17, q17, S17, N17, H17, G17⟩ := id Vb1
  have hin18 := inb_of S17 (j := (3 : Int32)) ⟨by decide, by decide⟩
  refine Go.of (X16.aaload hx (j := (3 : Int32)) (v := (.ref w3)) (own_at e16 Ar17.1) (State.isArrayOf_alike hZ.alike Ar17.2.1) rfl Ar17.2.2 hin18 (H17.at hin18 rfl) (g := (mkF m 16 #[.val .null, .val (.ref b1), .val (.int (5 : Int32)), .val (.int (3 : Int32)), .val (.ref w2)] [(.int (3 : Int32)), (.ref b1)])) rfl rfl (hb hby d20_16)) ?_
  show Go _ _ _ _ _ _ _ (T16.setTop (mkF m 17 #[.val .null, .val (.ref b1), .val (.int (5 : Int32)), .val (.int (3 : Int32)), .val (.ref w2)] [(.ref w3)]))
  refine Go.of (fun t k => XS.astore X16.here hx rfl (hb hby d20_17) rfl rfl (l' := #[.val .null, .val (.ref b1), .val (.int (5 : Int32)), .val (.int (3 : Int32)), .val (.ref w3)]) rfl k) ?_
  show Go _ _ _ _ _ _ _ (T16.setTop (mkF m 19 #[.val .null, .val (.ref b1), .val (.int (5 : Int32)), .val (.int (3 : Int32)), .val (.ref w3)] []))
  refine Go.of (fun t k => XS.aload X16.here hx rfl (hb hby d20_19) rfl rfl k) ?_
  show Go _ _ _ _ _ _ _ (T16.setTop (mkF m 21 #[.val .null, .val (.ref b1), .val (.int (5 : Int32)), .val (.int (3 : Int32)), .val (.ref w3)] [(.ref w3)]))
  obtain ⟨T19, X19, e19, st19⟩ := getF X16 hx hZ hown (host := "") (Or.inl (own_w hw 116 rfl)) Via.refl e16 (F_w3.ext f6.2) (g := (mkF m 21 #[.val .null, .val (.ref b1), .val (.int (5 : Int32)), .val (.int (3 : Int32)), .val (.ref w3)] [(.ref w3)])) rfl rfl (hb hby d20_21)
  refine Go.of st19 ?_
  show Go _ _ _ _ _ _ _ (T19.setTop (mkF m 24 #[.val .null, .val (.ref b1), .val (.int (5 : Int32)), .val (.int (3 : Int32)), .val (.ref w3)] [(.ref s3)]))
  refine Go.of (fun t k => XS.aloadN X19.here hx rfl (hb hby d20_24) rfl rfl k) ?_
  show Go _ _ _ _ _ _ _ (T19.setTop (mkF m 25 #[.val .null, .val (.ref b1), .val (.int (5 : Int32)), .val (.int (3 : Int32)), .val (.ref w3)] [.null, (.ref s3)]))
  obtain ⟨cq20, kq20, q20a, q20b, q20c⟩ := isOf hZ e19 ((S_w3.choose_spec.choose_spec.1).ext f6.2)
  obtain ⟨_, _, ⟨T20, L20, k20, n20⟩, -, X20, ⟨Lc20, hQ20, l20, y20, z20⟩, st20⟩ := X19.virtualBack hx (y := (⟨"java/lang/String", "equals", "(Ljava/lang/Object;)Z"⟩ : MethodName)) (z := (⟨"java/lang/String", "equals", "(Ljava/lang/Object;)Z"⟩ : MethodName)) hown (mvT hZ (own_w hw 118 rfl)) (mvT hZ (own_w hw 81 rfl)) (notFace_of_selects (args := #[]) (mvT hZ (own_w hw 83 rfl))) (mvT hZ (own_w hw 83 rfl)) (mvT hZ (own_w hw 82 rfl)) (by decide) (backOf (W := 0) (rmEN l Z a0 hw [] s3 T1.heap n0 (by omega) ) hZ (own_w hw 84 rfl) (own_w hw 6 rfl) (by decide) (by decide)) q20a q20c (g := (mkF m 25 #[.val .null, .val (.ref b1), .val (.int (5 : Int32)), .val (.int (3 : Int32)), .val (.ref w3)] [.null, (.ref s3)])) rfl (by rw [hml]; rfl) (Steps.refl _) (argsL := [.null]) (rest := []) (lenOf pd_4 rfl) rfl (by show 2 * 0 + _ ≤ _; exact Nat.le_of_eq rfl) (hb hby d20_25) (fun _ _ => ⟨rfl, e19, (by decide : 1 + 0 ≤ _), (by decide : 5 + 0 ≤ _)⟩)
  dsimp only [Pt.U, Pt.locs, Pt.cells, Pt.slots] at X20 l20 y20 z20 st20 hQ20
  replace y20 : k20 = 1 := y20.trans (by decide)
  replace z20 : n20 = 5 := z20.trans (by decide)
  subst y20 z20
  obtain ⟨rfl, N20q, e20⟩ := hQ20
  have N20 : Fr n0 L20 := by rw [l20]; exact Fr.app N16 N20q
  clear l20
  refine Go.tr st20 ?_
  show Go _ _ _ _ _ _ _ (T20.setTop (mkF m 28 #[.val .null, .val (.ref b1), .val (.int (5 : Int32)), .val (.int (3 : Int32)), .val (.ref w3)] [(.int (0 : Int32))]))
  refine Go.of (fun t k => XS.ifYes X20.here hx rfl (pc0 := 28) (pc' := 37) rfl (hb hby d20_28) rfl ((if0 _ _).trans (teq (by decide : (0 : Int32) = (0 : Int32))).1) (by decide) (by decide) k) ?_
  show Go _ _ _ _ _ _ _ (T20.setTop (mkF m 37 #[.val .null, .val (.ref b1), .val (.int (5 : Int32)), .val (.int (3 : Int32)), .val (.ref w3)] []))
  refine Go.of (fun t k => XS.iinc X20.here hx rfl (hb hby d20_37) rfl (l' := #[.val .null, .val (.ref b1), .val (.int (5 : Int32)), .val (.int (4 : Int32)), .val (.ref w3)]) rfl k) ?_
  show Go _ _ _ _ _ _ _ (T20.setTop (mkF m 40 #[.val .null, .val (.ref b1), .val (.int (5 : Int32)), .val (.int (4 : Int32)), .val (.ref w3)] []))
  refine Go.of (fun t k => XS.goto X20.here hx rfl (pc0 := 40) (pc' := 9) rfl (hb hby d20_40) (by decide) (by decide) k) ?_
  show Go _ _ _ _ _ _ _ (T20.setTop (mkF m 9 #[.val .null, .val (.ref b1), .val (.int (5 : Int32)), .val (.int (4 : Int32)), .val (.ref w3)] []))
  refine Go.of (fun t k => XS.iloadN X20.here hx rfl (hb hby d20_9) rfl k) ?_
  show Go _ _ _ _ _ _ _ (T20.setTop (mkF m 10 #[.val .null, .val (.ref b1), .val (.int (5 : Int32)), .val (.int (4 : Int32)), .val (.ref w3)] [(.int (4 : Int32))]))
  refine Go.of (fun t k => XS.iloadN X20.here hx rfl (hb hby d20_10) rfl k) ?_
  show Go _ _ _ _ _ _ _ (T20.setTop (mkF m 11 #[.val .null, .val (.ref b1), .val (.int (5 : Int32)), .val (.int (4 : Int32)), .val (.ref w3)] [(.int (5 : Int32)), (.int (4 : Int32))]))
  refine Go.of (fun t k => XS.icmpNo X20.here hx rfl (hb hby d20_11) rfl (tlt (by decide : (4 : Int32) < (5 : Int32))).2.1 k) ?_
  show Go _ _ _ _ _ _ _ (T20.setTop (mkF m 14 #[.val .null, .val (.ref b1), .val (.int (5 : Int32)), .val (.int (4 : Int32)), .val (.ref w3)] []))
  refine Go.of (fun t k => XS.aloadN X20.here hx rfl (hb hby d20_14) rfl rfl k) ?_
  show Go _ _ _ _ _ _ _ (T20.setTop (mkF m 15 #[.val .null, .val (.ref b1), .val (.int (5 : Int32)), .val (.int (4 : Int32)), .val (.ref w3)] [(.ref b1)]))
  refine Go.of (fun t k => XS.iloadN X20.here hx rfl (hb hby d20_15) rfl k) ?_
  show Go _ _ _ _ _ _ _ (T20.setTop (mkF m 16 #[.val .null, .val (.ref b1), .val (.int (5 : Int32)), .val (.int (4 : Int32)), .val (.ref w3)] [(.int (4 : Int32)), (.ref b1)]))
  obtain ⟨cl21, Ar21, q21, S21, N21, H21, G21⟩ := id Vb1
  have hin22 := inb_of S21 (j := (4 : Int32)) ⟨by decide, by decide⟩
  refine Go.of (X20.aaload hx (j := (4 : Int32)) (v := (.ref w4)) (own_at e20 Ar21.1) (State.isArrayOf_alike hZ.alike Ar21.2.1) rfl Ar21.2.2 hin22 (H21.at hin22 rfl) (g := (mkF m 16 #[.val .null, .val (.ref b1), .val (.int (5 : Int32)), .val (.int (4 : Int32)), .val (.ref w3)] [(.int (4 : Int32)), (.ref b1)])) rfl rfl (hb hby d20_16)) ?_
  show Go _ _ _ _ _ _ _ (T20.setTop (mkF m 17 #[.val .null, .val (.ref b1), .val (.int (5 : Int32)), .val (.int (4 : Int32)), .val (.ref w3)] [(.ref w4)]))
  refine Go.of (fun t k => XS.astore X20.here hx rfl (hb hby d20_17) rfl rfl (l' := #[.val .null, .val (.ref b1), .val (.int (5 : Int32)), .val (.int (4 : Int32)), .val (.ref w4)]) rfl k) ?_
  show Go _ _ _ _ _ _ _ (T20.setTop (mkF m 19 #[.val .null, .val (.ref b1), .val (.int (5 : Int32)), .val (.int (4 : Int32)), .val (.ref w4)] []))
  refine Go.of (fun t k => XS.aload X20.here hx rfl (hb hby d20_19) rfl rfl k) ?_
  show Go _ _ _ _ _ _ _ (T20.setTop (mkF m 21 #[.val .null, .val (.ref b1), .val (.int (5 : Int32)), .val (.int (4 : Int32)), .val (.ref w4)] [(.ref w4)]))
  obtain ⟨T23, X23, e23, st23⟩ := getF X20 hx hZ hown (host := "") (Or.inl (own_w hw 116 rfl)) Via.refl e20 (F_w4.ext f6.2) (g := (mkF m 21 #[.val .null, .val (.ref b1), .val (.int (5 : Int32)), .val (.int (4 : Int32)), .val (.ref w4)] [(.ref w4)])) rfl rfl (hb hby d20_21)
  refine Go.of st23 ?_
  show Go _ _ _ _ _ _ _ (T23.setTop (mkF m 24 #[.val .null, .val (.ref b1), .val (.int (5 : Int32)), .val (.int (4 : Int32)), .val (.ref w4)] [(.ref s4)]))
  refine Go.of (fun t k => XS.aloadN X23.here hx rfl (hb hby d20_24) rfl rfl k) ?_
  show Go _ _ _ _ _ _ _ (T23.setTop (mkF m 25 #[.val .null, .val (.ref b1), .val (.int (5 : Int32)), .val (.int (4 : Int32)), .val (.ref w4)] [.null, (.ref s4)]))
  obtain ⟨cq24, kq24, q24a, q24b, q24c⟩ := isOf hZ e23 ((S_w4.choose_spec.choose_spec.1).ext f6.2)
  obtain ⟨_, _, ⟨T24, L24, k24, n24⟩, -, X24, ⟨Lc24, hQ24, l24, y24, z24⟩, st24⟩ := X23.virtualBack hx (y := (⟨"java/lang/String", "equals", "(Ljava/lang/Object;)Z"⟩ : MethodName)) (z := (⟨"java/lang/String", "equals", "(Ljava/lang/Object;)Z"⟩ : MethodName)) hown (mvT hZ (own_w hw 118 rfl)) (mvT hZ (own_w hw 81 rfl)) (notFace_of_selects (args := #[]) (mvT hZ (own_w hw 83 rfl))) (mvT hZ (own_w hw 83 rfl)) (mvT hZ (own_w hw 82 rfl)) (by decide) (backOf (W := 0) (rmEN l Z a0 hw [] s4 T1.heap n0 (by omega) ) hZ (own_w hw 84 rfl) (own_w hw 6 rfl) (by decide) (by decide)) q24a q24c (g := (mkF m 25 #[.val .null, .val (.ref b1), .val (.int (5 : Int32)), .val (.int (4 : Int32)), .val (.ref w4)] [.null, (.ref s4)])) rfl (by rw [hml]; rfl) (Steps.refl _) (argsL := [.null]) (rest := []) (lenOf pd_4 rfl) rfl (by show 2 * 0 + _ ≤ _; exact Nat.le_of_eq rfl) (hb hby d20_25) (fun _ _ => ⟨rfl, e23, (by decide : 1 + 0 ≤ _), (by decide : 5 + 0 ≤ _)⟩)
  dsimp only [Pt.U, Pt.locs, Pt.cells, Pt.slots] at X24 l24 y24 z24 st24 hQ24
  replace y24 : k24 = 1 := y24.trans (by decide)
  replace z24 : n24 = 5 := z24.trans (by decide)
  subst y24 z24
  obtain ⟨rfl, N24q, e24⟩ := hQ24
  have N24 : Fr n0 L24 := by rw [l24]; exact Fr.app N20 N24q
  clear l24
  refine Go.tr st24 ?_
  show Go _ _ _ _ _ _ _ (T24.setTop (mkF m 28 #[.val .null, .val (.ref b1), .val (.int (5 : Int32)), .val (.int (4 : Int32)), .val (.ref w4)] [(.int (0 : Int32))]))
  refine Go.of (fun t k => XS.ifYes X24.here hx rfl (pc0 := 28) (pc' := 37) rfl (hb hby d20_28) rfl ((if0 _ _).trans (teq (by decide : (0 : Int32) = (0 : Int32))).1) (by decide) (by decide) k) ?_
  show Go _ _ _ _ _ _ _ (T24.setTop (mkF m 37 #[.val .null, .val (.ref b1), .val (.int (5 : Int32)), .val (.int (4 : Int32)), .val (.ref w4)] []))
  refine Go.of (fun t k => XS.iinc X24.here hx rfl (hb hby d20_37) rfl (l' := #[.val .null, .val (.ref b1), .val (.int (5 : Int32)), .val (.int (5 : Int32)), .val (.ref w4)]) rfl k) ?_
  show Go _ _ _ _ _ _ _ (T24.setTop (mkF m 40 #[.val .null, .val (.ref b1), .val (.int (5 : Int32)), .val (.int (5 : Int32)), .val (.ref w4)] []))
  refine Go.of (fun t k => XS.goto X24.here hx rfl (pc0 := 40) (pc' := 9) rfl (hb hby d20_40) (by decide) (by decide) k) ?_
  show Go _ _ _ _ _ _ _ (T24.setTop (mkF m 9 #[.val .null, .val (.ref b1), .val (.int (5 : Int32)), .val (.int (5 : Int32)), .val (.ref w4)] []))
  refine Go.of (fun t k => XS.iloadN X24.here hx rfl (hb hby d20_9) rfl k) ?_
  show Go _ _ _ _ _ _ _ (T24.setTop (mkF m 10 #[.val .null, .val (.ref b1), .val (.int (5 : Int32)), .val (.int (5 : Int32)), .val (.ref w4)] [(.int (5 : Int32))]))
  refine Go.of (fun t k => XS.iloadN X24.here hx rfl (hb hby d20_10) rfl k) ?_
  show Go _ _ _ _ _ _ _ (T24.setTop (mkF m 11 #[.val .null, .val (.ref b1), .val (.int (5 : Int32)), .val (.int (5 : Int32)), .val (.ref w4)] [(.int (5 : Int32)), (.int (5 : Int32))]))
  refine Go.of (fun t k => XS.icmpYes X24.here hx rfl (pc0 := 11) (pc' := 43) rfl (hb hby d20_11) rfl (flt (by decide : ¬ ((5 : Int32) < (5 : Int32)))).2.1 (by decide) (by decide) k) ?_
  show Go _ _ _ _ _ _ _ (T24.setTop (mkF m 43 #[.val .null, .val (.ref b1), .val (.int (5 : Int32)), .val (.int (5 : Int32)), .val (.ref w4)] []))
  obtain ⟨_, _, ⟨T25, L25, k25, n25⟩, -, X25, ⟨Lc25, hQ25, l25, y25, z25⟩, st25⟩ := Jvm.LawKit.callS X24 hx (y := (⟨"java/util/Optional", "empty", "()Ljava/util/Optional;"⟩ : MethodName)) hown (mvT hZ (own_w hw 148 rfl)) (mvT hZ (own_w hw 149 rfl)) (mvT hZ (own_w hw 121 rfl)) (mvT hZ (own_w hw 150 rfl)) (by decide) (backOf (W := 0) (rm27 l Z a0 hw [] wE T1.heap n0 (by omega) (S_E.ext f6.2)) hZ (own_w hw 150 rfl) (own_w hw 121 rfl) (by decide) (by decide)) (g := (mkF m 43 #[.val .null, .val (.ref b1), .val (.int (5 : Int32)), .val (.int (5 : Int32)), .val (.ref w4)] [])) rfl (by rw [hml]; rfl) (argsL := []) (rest := []) (lenOf pd_9 rfl) rfl (by show 2 * 0 + _ ≤ _; exact Nat.le_of_eq rfl) (hb hby d20_43) (fun _ _ => ⟨rfl, e24, (by decide : 1 + 0 ≤ _), (by decide : 5 + 0 ≤ _)⟩)
  dsimp only [Pt.U, Pt.locs, Pt.cells, Pt.slots] at X25 l25 y25 z25 st25 hQ25
  replace y25 : k25 = 1 := y25.trans (by decide)
  replace z25 : n25 = 5 := z25.trans (by decide)
  subst y25 z25
  obtain ⟨rfl, N25q, e25⟩ := hQ25
  have N25 : Fr n0 L25 := by rw [l25]; exact Fr.app N24 N25q
  clear l25
  refine Go.of st25 ?_
  show Go _ _ _ _ _ _ _ (T25.setTop (mkF m 46 #[.val .null, .val (.ref b1), .val (.int (5 : Int32)), .val (.int (5 : Int32)), .val (.ref w4)] [(.ref wE)]))
  refine Go.out X25 (v := some (.ref wE)) (fun h => by rw [Bd.returns] at h; cases h) hlk (fun fs hr => retOut X25 hx (t := (.object "java/util/Optional")) Bd.returns rfl (Or.inr (Or.inr (Or.inr (Or.inr ⟨rfl, rfl, rfl⟩)))) (hb hby d20_46) hr) ?_ (by decide) (by decide)
  show QFN Z cs w0 w1 w2 w3 w4 s0 s1 s2 s3 s4 wE wV kv h0 n0 _ T25.heap _
  rw [e25]
  exact ⟨wE, rfl, N25, ((Keep.refl h0 []).trans K1 all0), (E_E.ext f6.2).lt, (E_E.ext f6.2), (F_E.ext f6.2)⟩
theorem d28_0 : decode jdk_32_method_7_code 0 = .ok (.aload_n 0, 1) := by decide +kernel
theorem d28_1 : decode jdk_32_method_7_code 1 = .ok (.getfield 13, 3) := by decide +kernel
theorem d28_4 : decode jdk_32_method_7_code 4 = .ok (.ifnonnull 7, 3) := by decide +kernel
theorem d28_7 : decode jdk_32_method_7_code 7 = .ok (.iconst 1, 1) := by decide +kernel
theorem d28_8 : decode jdk_32_method_7_code 8 = .ok (.goto 4, 3) := by decide +kernel
theorem d28_12 : decode jdk_32_method_7_code 12 = .ok (.ireturn, 1) := by decide +kernel
def Q28 (Z : State) (a1 : Nat) (h0 : Heap) (n0 : Nat) (v : Option Value) (h : Heap) (L : List Loc) : Prop := v = some (.int 1) ∧ Fr n0 L ∧ h = h0
set_option maxRecDepth 65536 in
set_option maxHeartbeats 40000000 in
theorem rm28 (l : Launch) (Z : State) (a0 : Array Value) (hw : ∀ d ∈ tables_1, d.before a0 Z = true) (ws : List Jvm.Cond) (a1 : Nat) (h0 : Heap) (n0 : Nat) (Z0 : n0 ≤ h0.size) (F1 : Fld Z h0 a1 "java/util/Optional" "value" "Ljava/lang/Object;" .null) :
    MetFree l (⟨"java/util/Optional", "isEmpty", "()Z"⟩ : MethodName) (head1 (Jvm.Cond.code (⟨"java/util/Optional", "isEmpty", "()Z"⟩ : MethodName) jdk_32_method_7_code 1 (some .boolean) :: ws) ({ frames := 0, cells := 0, slots := 0, locals := 0 } : Room)) (fun a U => a = #[(.ref a1)] ∧ Z.Warmed39 U.vm ∧ U.heap = h0) (fun _ _ _ _ _ => True) (fun _ U o U' => ∃ v L, o = .returned v ∧ Q28 Z a1 h0 n0 v U'.heap L ∧ FrameEnd U o U' L ({ frames := 0, cells := 0, slots := 0, locals := 0 } : Room).cells ({ frames := 0, cells := 0, slots := 0, locals := 0 } : Room).slots) := by
  refine MetFree.of_bodySF (plainFor_of_name pn_3) hisR ?_
  intro p e s m args below meth c s₁ Bd hml0 hP hK
  obtain ⟨rfl, hZ, hh⟩ := hP
  have hx := Bd.exec
  have hby := Bd.bytes
  have hml : c.maxLocals = 1 := hml0
  have hown : s.vm.findClass "java/util/Optional" = some m.cls := findClass_of_methodNamed Bd.named
  have hnm := (name_of_methodNamed Bd.named Bd.method).1
  have hlk : meth.locks = false := BodyLoose.notSynchronized Bd
  have X0 : Stand p l e ({ frames := 0, cells := 0, slots := 0, locals := 0 } : Room) s m #[(.ref a1)] below meth c s₁ [] 0 0 := Stand.of_body Bd
  have e0 : s₁.heap = h0 := by rw [← hh, Bd.state]; rfl
  have N0 := Fr.nil n0
  have hef : entryFrame m #[(.ref a1)] 1 = mkF m 0 #[.val (.ref a1)] [] := by first | (simp [entryFrame, mkF, argsToLocals, Value.category]; done) | rfl
  show Go p e below s ({ frames := 0, cells := 0, slots := 0, locals := 0 } : Room).cells ({ frames := 0, cells := 0, slots := 0, locals := 0 } : Room).slots (Q28 Z a1 h0 n0) (s₁.setTop (entryFrame m #[(.ref a1)] 1))
  rw [hef]
  refine Go.of (fun t k => XS.aloadN X0.here hx rfl (hb hby d28_0) rfl rfl k) ?_
  show Go _ _ _ _ _ _ _ (s₁.setTop (mkF m 1 #[.val (.ref a1)] [(.ref a1)]))
  obtain ⟨T1, X1, e1, st1⟩ := getF X0 hx hZ hown (host := "") (Or.inl (own_w hw 134 rfl)) Via.refl e0 F1 (g := (mkF m 1 #[.val (.ref a1)] [(.ref a1)])) rfl rfl (hb hby d28_1)
  refine Go.of st1 ?_
  show Go _ _ _ _ _ _ _ (T1.setTop (mkF m 4 #[.val (.ref a1)] [.null]))
  refine Go.of (fun t k => XS.ifnonnullNo X1.here hx rfl (hb hby d28_4) rfl k) ?_
  show Go _ _ _ _ _ _ _ (T1.setTop (mkF m 7 #[.val (.ref a1)] []))
  refine Go.of (fun t k => XS.iconst X1.here hx rfl (hb hby d28_7) k) ?_
  show Go _ _ _ _ _ _ _ (T1.setTop (mkF m 8 #[.val (.ref a1)] [(.int (1 : Int32))]))
  refine Go.of (fun t k => XS.goto X1.here hx rfl (pc0 := 8) (pc' := 12) rfl (hb hby d28_8) (by decide) (by decide) k) ?_
  show Go _ _ _ _ _ _ _ (T1.setTop (mkF m 12 #[.val (.ref a1)] [(.int (1 : Int32))]))
  refine Go.out X1 (v := some (.int (1 : Int32))) (fun h => by rw [Bd.returns] at h; cases h) hlk (fun fs hr => retN X1 hx (t := .boolean) Bd.returns (by simp) (hb hby d28_12) hr) ?_ (by decide) (by decide)
  show Q28 Z a1 h0 n0 _ T1.heap _
  rw [e1]
  exact ⟨rfl, N0, rfl⟩
theorem d25_0 : decode jdk_32_method_6_code 0 = .ok (.aload_n 0, 1) := by decide +kernel
theorem d25_1 : decode jdk_32_method_6_code 1 = .ok (.getfield 13, 3) := by decide +kernel
theorem d25_4 : decode jdk_32_method_6_code 4 = .ok (.ifnull 7, 3) := by decide +kernel
theorem d25_7 : decode jdk_32_method_6_code 7 = .ok (.iconst 1, 1) := by decide +kernel
theorem d25_8 : decode jdk_32_method_6_code 8 = .ok (.goto 4, 3) := by decide +kernel
theorem d25_12 : decode jdk_32_method_6_code 12 = .ok (.ireturn, 1) := by decide +kernel
def Q25 (Z : State) (a1 : Nat) (a2 : Nat) (h0 : Heap) (n0 : Nat) (v : Option Value) (h : Heap) (L : List Loc) : Prop := v = some (.int 1) ∧ Fr n0 L ∧ h = h0
set_option maxRecDepth 65536 in
set_option maxHeartbeats 40000000 in
theorem rm25 (l : Launch) (Z : State) (a0 : Array Value) (hw : ∀ d ∈ tables_1, d.before a0 Z = true) (ws : List Jvm.Cond) (a1 : Nat) (a2 : Nat) (h0 : Heap) (n0 : Nat) (Z0 : n0 ≤ h0.size) (F1 : Fld Z h0 a1 "java/util/Optional" "value" "Ljava/lang/Object;" (.ref a2)) :
    MetFree l (⟨"java/util/Optional", "isPresent", "()Z"⟩ : MethodName) (head1 (Jvm.Cond.code (⟨"java/util/Optional", "isPresent", "()Z"⟩ : MethodName) jdk_32_method_6_code 1 (some .boolean) :: ws) ({ frames := 0, cells := 0, slots := 0, locals := 0 } : Room)) (fun a U => a = #[(.ref a1)] ∧ Z.Warmed39 U.vm ∧ U.heap = h0) (fun _ _ _ _ _ => True) (fun _ U o U' => ∃ v L, o = .returned v ∧ Q25 Z a1 a2 h0 n0 v U'.heap L ∧ FrameEnd U o U' L ({ frames := 0, cells := 0, slots := 0, locals := 0 } : Room).cells ({ frames := 0, cells := 0, slots := 0, locals := 0 } : Room).slots) := by
  refine MetFree.of_bodySF (plainFor_of_name pn_3) hisR ?_
  intro p e s m args below meth c s₁ Bd hml0 hP hK
  obtain ⟨rfl, hZ, hh⟩ := hP
  have hx := Bd.exec
  have hby := Bd.bytes
  have hml : c.maxLocals = 1 := hml0
  have hown : s.vm.findClass "java/util/Optional" = some m.cls := findClass_of_methodNamed Bd.named
  have hnm := (name_of_methodNamed Bd.named Bd.method).1
  have hlk : meth.locks = false := BodyLoose.notSynchronized Bd
  have X0 : Stand p l e ({ frames := 0, cells := 0, slots := 0, locals := 0 } : Room) s m #[(.ref a1)] below meth c s₁ [] 0 0 := Stand.of_body Bd
  have e0 : s₁.heap = h0 := by rw [← hh, Bd.state]; rfl
  have N0 := Fr.nil n0
  have hef : entryFrame m #[(.ref a1)] 1 = mkF m 0 #[.val (.ref a1)] [] := by first | (simp [entryFrame, mkF, argsToLocals, Value.category]; done) | rfl
  show Go p e below s ({ frames := 0, cells := 0, slots := 0, locals := 0 } : Room).cells ({ frames := 0, cells := 0, slots := 0, locals := 0 } : Room).slots (Q25 Z a1 a2 h0 n0) (s₁.setTop (entryFrame m #[(.ref a1)] 1))
  rw [hef]
  refine Go.of (fun t k => XS.aloadN X0.here hx rfl (hb hby d25_0) rfl rfl k) ?_
  show Go _ _ _ _ _ _ _ (s₁.setTop (mkF m 1 #[.val (.ref a1)] [(.ref a1)]))
  obtain ⟨T1, X1, e1, st1⟩ := getF X0 hx hZ hown (host := "") (Or.inl (own_w hw 134 rfl)) Via.refl e0 F1 (g := (mkF m 1 #[.val (.ref a1)] [(.ref a1)])) rfl rfl (hb hby d25_1)
  refine Go.of st1 ?_
  show Go _ _ _ _ _ _ _ (T1.setTop (mkF m 4 #[.val (.ref a1)] [(.ref a2)]))
  refine Go.of (fun t k => XS.ifnullNo X1.here hx rfl (hb hby d25_4) rfl k) ?_
  show Go _ _ _ _ _ _ _ (T1.setTop (mkF m 7 #[.val (.ref a1)] []))
  refine Go.of (fun t k => XS.iconst X1.here hx rfl (hb hby d25_7) k) ?_
  show Go _ _ _ _ _ _ _ (T1.setTop (mkF m 8 #[.val (.ref a1)] [(.int (1 : Int32))]))
  refine Go.of (fun t k => XS.goto X1.here hx rfl (pc0 := 8) (pc' := 12) rfl (hb hby d25_8) (by decide) (by decide) k) ?_
  show Go _ _ _ _ _ _ _ (T1.setTop (mkF m 12 #[.val (.ref a1)] [(.int (1 : Int32))]))
  refine Go.out X1 (v := some (.int (1 : Int32))) (fun h => by rw [Bd.returns] at h; cases h) hlk (fun fs hr => retN X1 hx (t := .boolean) Bd.returns (by simp) (hb hby d25_12) hr) ?_ (by decide) (by decide)
  show Q25 Z a1 a2 h0 n0 _ T1.heap _
  rw [e1]
  exact ⟨rfl, N0, rfl⟩
theorem d26_0 : decode jdk_32_method_5_code 0 = .ok (.aload_n 0, 1) := by decide +kernel
theorem d26_1 : decode jdk_32_method_5_code 1 = .ok (.getfield 13, 3) := by decide +kernel
theorem d26_4 : decode jdk_32_method_5_code 4 = .ok (.ifnonnull 13, 3) := by decide +kernel
theorem d26_17 : decode jdk_32_method_5_code 17 = .ok (.aload_n 0, 1) := by decide +kernel
theorem d26_18 : decode jdk_32_method_5_code 18 = .ok (.getfield 13, 3) := by decide +kernel
theorem d26_21 : decode jdk_32_method_5_code 21 = .ok (.areturn, 1) := by decide +kernel
def Q26 (Z : State) (a1 : Nat) (a2 : Nat) (h0 : Heap) (n0 : Nat) (v : Option Value) (h : Heap) (L : List Loc) : Prop := v = some (.ref a2) ∧ Fr n0 L ∧ h = h0
set_option maxRecDepth 65536 in
set_option maxHeartbeats 40000000 in
theorem rm26 (l : Launch) (Z : State) (a0 : Array Value) (hw : ∀ d ∈ tables_1, d.before a0 Z = true) (ws : List Jvm.Cond) (a1 : Nat) (a2 : Nat) (h0 : Heap) (n0 : Nat) (Z0 : n0 ≤ h0.size) (F1 : Fld Z h0 a1 "java/util/Optional" "value" "Ljava/lang/Object;" (.ref a2)) :
    MetFree l (⟨"java/util/Optional", "get", "()Ljava/lang/Object;"⟩ : MethodName) (head1 (Jvm.Cond.code (⟨"java/util/Optional", "get", "()Ljava/lang/Object;"⟩ : MethodName) jdk_32_method_5_code 1 (some (.object "java/lang/Object")) :: ws) ({ frames := 0, cells := 0, slots := 0, locals := 0 } : Room)) (fun a U => a = #[(.ref a1)] ∧ Z.Warmed39 U.vm ∧ U.heap = h0) (fun _ _ _ _ _ => True) (fun _ U o U' => ∃ v L, o = .returned v ∧ Q26 Z a1 a2 h0 n0 v U'.heap L ∧ FrameEnd U o U' L ({ frames := 0, cells := 0, slots := 0, locals := 0 } : Room).cells ({ frames := 0, cells := 0, slots := 0, locals := 0 } : Room).slots) := by
  refine MetFree.of_bodySF (plainFor_of_name pn_3) hisR ?_
  intro p e s m args below meth c s₁ Bd hml0 hP hK
  obtain ⟨rfl, hZ, hh⟩ := hP
  have hx := Bd.exec
  have hby := Bd.bytes
  have hml : c.maxLocals = 1 := hml0
  have hown : s.vm.findClass "java/util/Optional" = some m.cls := findClass_of_methodNamed Bd.named
  have hnm := (name_of_methodNamed Bd.named Bd.method).1
  have hlk : meth.locks = false := BodyLoose.notSynchronized Bd
  have X0 : Stand p l e ({ frames := 0, cells := 0, slots := 0, locals := 0 } : Room) s m #[(.ref a1)] below meth c s₁ [] 0 0 := Stand.of_body Bd
  have e0 : s₁.heap = h0 := by rw [← hh, Bd.state]; rfl
  have N0 := Fr.nil n0
  have hef : entryFrame m #[(.ref a1)] 1 = mkF m 0 #[.val (.ref a1)] [] := by first | (simp [entryFrame, mkF, argsToLocals, Value.category]; done) | rfl
  show Go p e below s ({ frames := 0, cells := 0, slots := 0, locals := 0 } : Room).cells ({ frames := 0, cells := 0, slots := 0, locals := 0 } : Room).slots (Q26 Z a1 a2 h0 n0) (s₁.setTop (entryFrame m #[(.ref a1)] 1))
  rw [hef]
  refine Go.of (fun t k => XS.aloadN X0.here hx rfl (hb hby d26_0) rfl rfl k) ?_
  show Go _ _ _ _ _ _ _ (s₁.setTop (mkF m 1 #[.val (.ref a1)] [(.ref a1)]))
  obtain ⟨T1, X1, e1, st1⟩ := getF X0 hx hZ hown (host := "") (Or.inl (own_w hw 134 rfl)) Via.refl e0 F1 (g := (mkF m 1 #[.val (.ref a1)] [(.ref a1)])) rfl rfl (hb hby d26_1)
  refine Go.of st1 ?_
  show Go _ _ _ _ _ _ _ (T1.setTop (mkF m 4 #[.val (.ref a1)] [(.ref a2)]))
  refine Go.of (fun t k => XS.ifnonnullYes X1.here hx rfl (pc0 := 4) (pc' := 17) rfl (hb hby d26_4) rfl (by decide) (by decide) k) ?_
  show Go _ _ _ _ _ _ _ (T1.setTop (mkF m 17 #[.val (.ref a1)] []))
  refine Go.of (fun t k => XS.aloadN X1.here hx rfl (hb hby d26_17) rfl rfl k) ?_
  show Go _ _ _ _ _ _ _ (T1.setTop (mkF m 18 #[.val (.ref a1)] [(.ref a1)]))
  obtain ⟨T2, X2, e2, st2⟩ := getF X1 hx hZ hown (host := "") (Or.inl (own_w hw 134 rfl)) Via.refl e1 F1 (g := (mkF m 18 #[.val (.ref a1)] [(.ref a1)])) rfl rfl (hb hby d26_18)
  refine Go.of st2 ?_
  show Go _ _ _ _ _ _ _ (T2.setTop (mkF m 21 #[.val (.ref a1)] [(.ref a2)]))
  refine Go.out X2 (v := some (.ref a2)) (fun h => by rw [Bd.returns] at h; cases h) hlk (fun fs hr => retOut X2 hx (t := (.object "java/lang/Object")) Bd.returns rfl (Or.inr (Or.inr (Or.inr (Or.inr ⟨rfl, rfl, rfl⟩)))) (hb hby d26_21) hr) ?_ (by decide) (by decide)
  show Q26 Z a1 a2 h0 n0 _ T2.heap _
  rw [e2]
  exact ⟨rfl, N0, rfl⟩
theorem pd_10 : parseMethodDescriptor "(I)Ljava/lang/String;" = some ⟨[.int], some (.object "java/lang/String")⟩ := by decide +kernel
theorem pd_11 : parseMethodDescriptor "(Ljava/lang/String;I)C" = some ⟨[(.object "java/lang/String"), .int], some .char⟩ := by decide +kernel
theorem pd_12 : parseMethodDescriptor "([CI)Ljava/lang/String;" = some ⟨[(.array .char), .int], some (.object "java/lang/String")⟩ := by decide +kernel
theorem pd_13 : parseMethodDescriptor "(Ljava/lang/String;)Lcom/example/clearstep/clearstep/core/EventKind;" = some ⟨[(.object "java/lang/String")], some (.object "com/example/clearstep/clearstep/core/EventKind")⟩ := by decide +kernel
theorem pd_14 : parseMethodDescriptor "(Ljava/lang/String;)Ljava/util/Optional;" = some ⟨[(.object "java/lang/String")], some (.object "java/util/Optional")⟩ := by decide +kernel
theorem pd_15 : parseMethodDescriptor "()Z" = some ⟨[], some .boolean⟩ := by decide +kernel
theorem pd_16 : parseMethodDescriptor "()Ljava/lang/Object;" = some ⟨[], some (.object "java/lang/Object")⟩ := by decide +kernel
def Q0 (Z : State) (p1 : Int32) (p2 : Int32) (p3 : Int32) (p4 : Int32) (q5 : Int64) (cs : Int32) (fm : Value) (w0 : Nat) (w1 : Nat) (w2 : Nat) (w3 : Nat) (w4 : Nat) (s0 : Nat) (s1 : Nat) (s2 : Nat) (s3 : Nat) (s4 : Nat) (wE : Nat) (wV : Nat) (kv : ClassId) (h0 : Heap) (n0 : Nat) (v : Option Value) (h : Heap) (L : List Loc) : Prop := v = some (.int 1) ∧ Fr n0 L
set_option maxRecDepth 65536 in
set_option maxHeartbeats 40000000 in
theorem rm0 (l : Launch) (Z : State) (a0 : Array Value) (hw : ∀ d ∈ tables_1, d.before a0 Z = true) (ws : List Jvm.Cond) (p1 : Int32) (p2 : Int32) (p3 : Int32) (p4 : Int32) (q5 : Int64) (cs : Int32) (fm : Value) (w0 : Nat) (w1 : Nat) (w2 : Nat) (w3 : Nat) (w4 : Nat) (s0 : Nat) (s1 : Nat) (s2 : Nat) (s3 : Nat) (s4 : Nat) (wE : Nat) (wV : Nat) (kv : ClassId) (h0 : Heap) (n0 : Nat) (Z0 : n0 ≤ h0.size) (O0 : Old Z n0 h0) (hcw : Jvm.Lit.compactW.before a0 Z = true) (hh0' : Jvm.Lit.constHeld Z "java/lang/String" 7) (hh1' : Jvm.Lit.constHeld Z "com/example/clearstep/clearstep/core/EventKindFromWordPinLaw" 53) (hh2' : Jvm.Lit.constHeld Z "com/example/clearstep/clearstep/core/EventKindFromWordPinLaw" 55) (hh3' : Jvm.Lit.constHeld Z "com/example/clearstep/clearstep/core/EventKindFromWordPinLaw" 57) (hh4' : Jvm.Lit.constHeld Z "com/example/clearstep/clearstep/core/EventKindFromWordPinLaw" 59) (hh5' : Jvm.Lit.constHeld Z "com/example/clearstep/clearstep/core/EventKindFromWordPinLaw" 61) (S_cs : Sta Z Z.heap "java/lang/String" "COMPACT_STRINGS" "Z" (.int cs)) (hcs : ¬ cs = (0 : Int32)) (S_fm : Sta Z Z.heap "jdk/internal/util/Preconditions" "SIOOBE_FORMATTER" "Ljava/util/function/BiFunction;" fm) (hfm : fm.isRef = true) (S_k0 : Sta Z Z.heap "com/example/clearstep/clearstep/core/EventKind" "CAPTURE" "Lcom/example/clearstep/clearstep/core/EventKind;" (.ref w0)) (S_k1 : Sta Z Z.heap "com/example/clearstep/clearstep/core/EventKind" "RELEASE" "Lcom/example/clearstep/clearstep/core/EventKind;" (.ref w1)) (S_k2 : Sta Z Z.heap "com/example/clearstep/clearstep/core/EventKind" "SHIP" "Lcom/example/clearstep/clearstep/core/EventKind;" (.ref w2)) (S_k3 : Sta Z Z.heap "com/example/clearstep/clearstep/core/EventKind" "REFUND" "Lcom/example/clearstep/clearstep/core/EventKind;" (.ref w3)) (S_k4 : Sta Z Z.heap "com/example/clearstep/clearstep/core/EventKind" "CLOSE" "Lcom/example/clearstep/clearstep/core/EventKind;" (.ref w4)) (F_w0 : Fld Z Z.heap w0 "com/example/clearstep/clearstep/core/EventKind" "word" "Ljava/lang/String;" (.ref s0)) (F_w1 : Fld Z Z.heap w1 "com/example/clearstep/clearstep/core/EventKind" "word" "Ljava/lang/String;" (.ref s1)) (F_w2 : Fld Z Z.heap w2 "com/example/clearstep/clearstep/core/EventKind" "word" "Ljava/lang/String;" (.ref s2)) (F_w3 : Fld Z Z.heap w3 "com/example/clearstep/clearstep/core/EventKind" "word" "Ljava/lang/String;" (.ref s3)) (F_w4 : Fld Z Z.heap w4 "com/example/clearstep/clearstep/core/EventKind" "word" "Ljava/lang/String;" (.ref s4)) (S_w0 : own_Str Z Z.heap s0 own_c1) (S_w1 : own_Str Z Z.heap s1 own_c2) (S_w2 : own_Str Z Z.heap s2 own_c3) (S_w3 : own_Str Z Z.heap s3 own_c4) (S_w4 : own_Str Z Z.heap s4 own_c5) (S_E : Sta Z Z.heap "java/util/Optional" "EMPTY" "Ljava/util/Optional;" (.ref wE)) (E_E : Exa Z Z.heap wE "java/util/Optional") (F_E : Fld Z Z.heap wE "java/util/Optional" "value" "Ljava/lang/Object;" .null) (S_V : Sta Z Z.heap "com/example/clearstep/clearstep/core/EventKind" "$VALUES" "[Lcom/example/clearstep/clearstep/core/EventKind;" (.ref wV)) (V_V : Arv Z Z.heap wV kv (.object "com/example/clearstep/clearstep/core/EventKind") (5 : Int32) [(.ref w0), (.ref w1), (.ref w2), (.ref w3), (.ref w4)] .null) (E_V : Exa Z Z.heap wV "[Lcom/example/clearstep/clearstep/core/EventKind;") :
    MetFree l x (head1 (Jvm.Cond.code x code maxLocals ret :: ws) room_1) (fun a U => a = #[(.int p1), (.int p2), (.int p3), (.int p4), (.long q5)] ∧ Z.Warmed39 U.vm ∧ U.heap = h0 ∧ own_J Z U.vm h0) (fun _ _ _ _ _ => True) (fun _ U o U' => ∃ v L, o = .returned v ∧ Q0 Z p1 p2 p3 p4 q5 cs fm w0 w1 w2 w3 w4 s0 s1 s2 s3 s4 wE wV kv h0 n0 v U'.heap L ∧ ReturnedEndW U o U' L room_1.cells room_1.slots) := by
  refine MetFree.of_bodySF (plainFor_of_name pn_1) hisR ?_
  intro p e s m args below meth c s₁ Bd hml0 hP hK
  obtain ⟨rfl, hZ, hh, hJ⟩ := hP
  have hx := Bd.exec
  have hby := Bd.bytes
  have hml : c.maxLocals = 15 := hml0
  have hown : s.vm.findClass "com/example/clearstep/clearstep/core/EventKindFromWordPinLaw" = some m.cls := findClass_of_methodNamed Bd.named
  have hnm := (name_of_methodNamed Bd.named Bd.method).1
  have hlk : meth.locks = false := BodyLoose.notSynchronized Bd
  have X0 : Stand p l e room_1 (s.setVm s.vm) m #[(.int p1), (.int p2), (.int p3), (.int p4), (.long q5)] below meth c s₁ [] 0 0 := Stand.of_body Bd
  have hS : s.Since s.vm 0 := (State.WarmedH.refl s).since 0
  have hk : 0 ≤ h0.size := Nat.zero_le _
  have hZ : Z.Warmed39 (s.setVm s.vm).vm := hZ
  have hown : (s.setVm s.vm).vm.findClass "com/example/clearstep/clearstep/core/EventKindFromWordPinLaw" = some m.cls := hown
  have e0 : s₁.heap = h0 := by rw [← hh, Bd.state]; rfl
  have N0 := Fr.nil n0
  have hef : entryFrame m #[(.int p1), (.int p2), (.int p3), (.int p4), (.long q5)] maxLocals = mkF m 0 #[.val (.int p1), .val (.int p2), .val (.int p3), .val (.int p4), .val (.long q5), .second, .unset, .unset, .unset, .unset, .unset, .unset, .unset, .unset, .unset] [] := by first | (simp [entryFrame, mkF, argsToLocals, Value.category, maxLocals]; done) | rfl
  show GoW p e below s room_1.cells room_1.slots (Q0 Z p1 p2 p3 p4 q5 cs fm w0 w1 w2 w3 w4 s0 s1 s2 s3 s4 wE wV kv h0 n0) (s₁.setTop (entryFrame m #[(.int p1), (.int p2), (.int p3), (.int p4), (.long q5)] maxLocals))
  rw [hef]
  refine GoW.of (fun t k => XS.iloadN X0.here hx rfl (hb hby at_0) rfl k) ?_
  show GoW _ _ _ _ _ _ _ (s₁.setTop (mkF m 1 #[.val (.int p1), .val (.int p2), .val (.int p3), .val (.int p4), .val (.long q5), .second, .unset, .unset, .unset, .unset, .unset, .unset, .unset, .unset, .unset] [(.int p1)]))
  refine GoW.of (fun t k => XS.bipush X0.here hx rfl (hb hby at_1) k) ?_
  show GoW _ _ _ _ _ _ _ (s₁.setTop (mkF m 3 #[.val (.int p1), .val (.int p2), .val (.int p3), .val (.int p4), .val (.long q5), .second, .unset, .unset, .unset, .unset, .unset, .unset, .unset, .unset, .unset] [(.int (7 : Int32)), (.int p1)]))
  refine GoW.of (fun t k => XS.iand X0.here hx rfl (hb hby at_3) rfl k) ?_
  show GoW _ _ _ _ _ _ _ (s₁.setTop (mkF m 4 #[.val (.int p1), .val (.int p2), .val (.int p3), .val (.int p4), .val (.long q5), .second, .unset, .unset, .unset, .unset, .unset, .unset, .unset, .unset, .unset] [(.int (p1 &&& (7 : Int32)))]))
  refine GoW.of (fun t k => XS.istore X0.here hx rfl (hb hby at_4) rfl (l' := #[.val (.int p1), .val (.int p2), .val (.int p3), .val (.int p4), .val (.long q5), .second, .val (.int (p1 &&& (7 : Int32))), .unset, .unset, .unset, .unset, .unset, .unset, .unset, .unset]) rfl k) ?_
  show GoW _ _ _ _ _ _ _ (s₁.setTop (mkF m 6 #[.val (.int p1), .val (.int p2), .val (.int p3), .val (.int p4), .val (.long q5), .second, .val (.int (p1 &&& (7 : Int32))), .unset, .unset, .unset, .unset, .unset, .unset, .unset, .unset] []))
  refine GoW.of (fun t k => XS.iloadN X0.here hx rfl (hb hby at_6) rfl k) ?_
  show GoW _ _ _ _ _ _ _ (s₁.setTop (mkF m 7 #[.val (.int p1), .val (.int p2), .val (.int p3), .val (.int p4), .val (.long q5), .second, .val (.int (p1 &&& (7 : Int32))), .unset, .unset, .unset, .unset, .unset, .unset, .unset, .unset] [(.int p2)]))
  refine GoW.of (fun t k => X0.ldcInt hx hown (mvT hZ (own_w hw 0 rfl)) (g := (mkF m 7 #[.val (.int p1), .val (.int p2), .val (.int p3), .val (.int p4), .val (.long q5), .second, .val (.int (p1 &&& (7 : Int32))), .unset, .unset, .unset, .unset, .unset, .unset, .unset, .unset] [(.int p2)])) rfl (hb hby at_7) _ k) ?_
  show GoW _ _ _ _ _ _ _ (s₁.setTop (mkF m 9 #[.val (.int p1), .val (.int p2), .val (.int p3), .val (.int p4), .val (.long q5), .second, .val (.int (p1 &&& (7 : Int32))), .unset, .unset, .unset, .unset, .unset, .unset, .unset, .unset] [(.int (2147483647 : Int32)), (.int p2)]))
  refine GoW.of (fun t k => XS.iand X0.here hx rfl (hb hby at_9) rfl k) ?_
  show GoW _ _ _ _ _ _ _ (s₁.setTop (mkF m 10 #[.val (.int p1), .val (.int p2), .val (.int p3), .val (.int p4), .val (.long q5), .second, .val (.int (p1 &&& (7 : Int32))), .unset, .unset, .unset, .unset, .unset, .unset, .unset, .unset] [(.int (p2 &&& (2147483647 : Int32)))]))
  refine GoW.of (fun t k => XS.iconst X0.here hx rfl (hb hby at_10) k) ?_
  show GoW _ _ _ _ _ _ _ (s₁.setTop (mkF m 11 #[.val (.int p1), .val (.int p2), .val (.int p3), .val (.int p4), .val (.long q5), .second, .val (.int (p1 &&& (7 : Int32))), .unset, .unset, .unset, .unset, .unset, .unset, .unset, .unset] [(.int (5 : Int32)), (.int (p2 &&& (2147483647 : Int32)))]))
  refine GoW.of (fun t k => iremM X0 hx rfl (hb hby at_11) rfl (by decide) k) ?_
  show GoW _ _ _ _ _ _ _ (s₁.setTop (mkF m 12 #[.val (.int p1), .val (.int p2), .val (.int p3), .val (.int p4), .val (.long q5), .second, .val (.int (p1 &&& (7 : Int32))), .unset, .unset, .unset, .unset, .unset, .unset, .unset, .unset] [(.int ((p2 &&& (2147483647 : Int32)) % (5 : Int32)))]))
  obtain ⟨_, _, ⟨T1, L1, k1, n1⟩, -, X1, hS1, hgr1, ⟨Lc1, hQ1, hJ1, l1, y1, z1⟩, st1⟩ := callSS X0 hx (y := (⟨"com/example/clearstep/clearstep/core/EventKindFromWordPinLaw", "wordOf", "(I)Ljava/lang/String;"⟩ : MethodName)) hown (mvT hZ (own_w hw 1 rfl)) (mvT hZ (own_w hw 2 rfl)) (mvT hZ (own_w hw 3 rfl)) (mvT hZ (own_w hw 4 rfl)) (by decide) (backOfJ (W := 0) (rm1 l Z a0 hw [] ((p2 &&& (2147483647 : Int32)) % (5 : Int32)) h0 n0 Z0 O0 hcw hh0' hh1' hh2' hh3' hh4' hh5') hZ (own_w hw 4 rfl) (own_w hw 3 rfl) (by decide) (by decide)) (g := (mkF m 12 #[.val (.int p1), .val (.int p2), .val (.int p3), .val (.int p4), .val (.long q5), .second, .val (.int (p1 &&& (7 : Int32))), .unset, .unset, .unset, .unset, .unset, .unset, .unset, .unset] [(.int ((p2 &&& (2147483647 : Int32)) % (5 : Int32)))])) rfl (by rw [hml]; rfl) (argsL := [(.int ((p2 &&& (2147483647 : Int32)) % (5 : Int32)))]) (rest := []) (lenOf pd_10 rfl) rfl (by show 2 * 0 + _ ≤ _; exact Nat.le_of_eq rfl) (hb hby at_12) (fun _ hw1 => ⟨rfl, e0, own_J.warm hJ hw1, (by decide : 0 + 2 ≤ _), (by decide : 0 + 32 ≤ _)⟩)
  dsimp only [Pt.U, Pt.locs, Pt.cells, Pt.slots] at X1 l1 y1 z1 st1 hQ1 hS1 hgr1 hJ1
  replace y1 : k1 = 2 := y1.trans (by decide)
  replace z1 : n1 = 32 := z1.trans (by decide)
  subst y1 z1
  obtain ⟨X1, hS', hZ', hown'⟩ := rebS hS (by rw [e0]; omega) X1 hS1 hgr1 hZ hown
  have hk : T1.heap.size ≤ T1.heap.size := Nat.le_refl _
  have hS := hS'
  have hZ := hZ'
  have hown := hown'
  obtain ⟨b1, xs1, rfl, N1q, K1, Sw1, hl01, hl71⟩ := hQ1
  have N1 : Fr n0 L1 := by rw [l1]; exact Fr.app N0 N1q
  clear l1
  refine GoW.tr st1 ?_
  have hs2 : h0.size ≤ T1.heap.size := K1.1
  obtain ⟨tw, kw, -⟩ := id Sw1
  show GoW _ _ _ _ _ _ _ (T1.setTop (mkF m 15 #[.val (.int p1), .val (.int p2), .val (.int p3), .val (.int p4), .val (.long q5), .second, .val (.int (p1 &&& (7 : Int32))), .unset, .unset, .unset, .unset, .unset, .unset, .unset, .unset] [(.ref b1)]))
  refine GoW.of (fun t k => XS.astore X1.here hx rfl (hb hby at_15) rfl rfl (l' := #[.val (.int p1), .val (.int p2), .val (.int p3), .val (.int p4), .val (.long q5), .second, .val (.int (p1 &&& (7 : Int32))), .val (.ref b1), .unset, .unset, .unset, .unset, .unset, .unset, .unset]) rfl k) ?_
  show GoW _ _ _ _ _ _ _ (T1.setTop (mkF m 17 #[.val (.int p1), .val (.int p2), .val (.int p3), .val (.int p4), .val (.long q5), .second, .val (.int (p1 &&& (7 : Int32))), .val (.ref b1), .unset, .unset, .unset, .unset, .unset, .unset, .unset] []))
  refine GoW.of (fun t k => XS.aload X1.here hx rfl (hb hby at_17) rfl rfl k) ?_
  show GoW _ _ _ _ _ _ _ (T1.setTop (mkF m 19 #[.val (.int p1), .val (.int p2), .val (.int p3), .val (.int p4), .val (.long q5), .second, .val (.int (p1 &&& (7 : Int32))), .val (.ref b1), .unset, .unset, .unset, .unset, .unset, .unset, .unset] [(.ref b1)]))
  obtain ⟨t3, kt3, E3, Fv3, Fc3, Va3, l83, hr3⟩ := id Sw1
  have f4 := (O0.keep K1 all0)
  obtain ⟨cq5, kq5, q5a, q5b, q5c⟩ := isOf hZ rfl E3
  obtain ⟨v5, _, ⟨T5, L5, k5, n5⟩, -, X5, ⟨Lc5, hQ5, l5, y5, z5⟩, st5⟩ := X1.virtualBack hx (y := (⟨"java/lang/String", "length", "()I"⟩ : MethodName)) (z := (⟨"java/lang/String", "length", "()I"⟩ : MethodName)) hown (mvT hZ (own_w hw 13 rfl)) (mvT hZ (own_w hw 14 rfl)) (notFace_of_selects (args := #[]) (mvT hZ (own_w hw 16 rfl))) (mvT hZ (own_w hw 16 rfl)) (mvT hZ (own_w hw 15 rfl)) (by decide) (StrChars.Road.lenW (W := 0) hZ (own_wordsLen hw) (kI := 4) (own_w hw 7 rfl) E3 Fv3 Fc3 Va3 (own_Str.cod hr3) (own_Str.up hr3) (S_cs.ext f4.2) hcs (by omega) (by decide) (by decide)) q5a q5c (g := (mkF m 19 #[.val (.int p1), .val (.int p2), .val (.int p3), .val (.int p4), .val (.long q5), .second, .val (.int (p1 &&& (7 : Int32))), .val (.ref b1), .unset, .unset, .unset, .unset, .unset, .unset, .unset] [(.ref b1)])) rfl (by rw [hml]; rfl) (Steps.refl _) (argsL := []) (rest := []) (lenOf pd_0 rfl) rfl (by show 2 * 0 + _ ≤ _; exact Nat.le_of_eq rfl) (hb hby at_19) (fun _ _ => ⟨rfl, rfl, (by decide : 2 + 0 ≤ _), (by decide : 32 + 0 ≤ _)⟩)
  dsimp only [Pt.U, Pt.locs, Pt.cells, Pt.slots] at X5 l5 y5 z5 st5 hQ5
  replace y5 : k5 = 2 := y5.trans (by decide)
  replace z5 : n5 = 32 := z5.trans (by decide)
  subst l5 y5 z5
  obtain ⟨rfl, rfl, e5⟩ := hQ5
  have N5 := Fr.app N1 (Fr.nil n0)
  refine GoW.tr st5 ?_
  show GoW _ _ _ _ _ _ _ (T5.setTop (mkF m 22 #[.val (.int p1), .val (.int p2), .val (.int p3), .val (.int p4), .val (.long q5), .second, .val (.int (p1 &&& (7 : Int32))), .val (.ref b1), .unset, .unset, .unset, .unset, .unset, .unset, .unset] [(.int (Int32.ofNat xs1.length))]))
  refine GoW.of (fun t k => XS.istore X5.here hx rfl (hb hby at_22) rfl (l' := #[.val (.int p1), .val (.int p2), .val (.int p3), .val (.int p4), .val (.long q5), .second, .val (.int (p1 &&& (7 : Int32))), .val (.ref b1), .val (.int (Int32.ofNat xs1.length)), .unset, .unset, .unset, .unset, .unset, .unset]) rfl k) ?_
  show GoW _ _ _ _ _ _ _ (T5.setTop (mkF m 24 #[.val (.int p1), .val (.int p2), .val (.int p3), .val (.int p4), .val (.long q5), .second, .val (.int (p1 &&& (7 : Int32))), .val (.ref b1), .val (.int (Int32.ofNat xs1.length)), .unset, .unset, .unset, .unset, .unset, .unset] []))
  refine GoW.of (fun t k => XS.bipush X5.here hx rfl (hb hby at_24) k) ?_
  show GoW _ _ _ _ _ _ _ (T5.setTop (mkF m 26 #[.val (.int p1), .val (.int p2), .val (.int p3), .val (.int p4), .val (.long q5), .second, .val (.int (p1 &&& (7 : Int32))), .val (.ref b1), .val (.int (Int32.ofNat xs1.length)), .unset, .unset, .unset, .unset, .unset, .unset] [(.int (8 : Int32))]))
  obtain ⟨T6, h6, k6, X6, e6, E6, A6, st6⟩ := newP X5 hx hZ (own_w hw 26 rfl) e5 (g := (mkF m 26 #[.val (.int p1), .val (.int p2), .val (.int p3), .val (.int p4), .val (.long q5), .second, .val (.int (p1 &&& (7 : Int32))), .val (.ref b1), .val (.int (Int32.ofNat xs1.length)), .unset, .unset, .unset, .unset, .unset, .unset] [(.int (8 : Int32))])) rfl (hb hby at_26) rfl (by decide) (cap := 8) (by decide) (by decide) (by decide) (by decide)
  obtain ⟨b6, g6⟩ : ∃ z, z = T1.heap.size := ⟨_, rfl⟩
  rw [← g6] at A6 st6
  have lt6 : b6 < h6.size := A6.lt
  refine GoW.of st6 ?_
  have hs7 : T1.heap.size ≤ h6.size := E6.1
  have V6 : Arv Z h6 b6 k6 .char (8 : Int32) [(.int (0 : Int32)), (.int (0 : Int32)), (.int (0 : Int32)), (.int (0 : Int32)), (.int (0 : Int32)), (.int (0 : Int32)), (.int (0 : Int32)), (.int (0 : Int32))] (.int (0 : Int32)) := (Arv.new A6 (by decide)).pad (pad_rep [] (.int (0 : Int32)) 8)
  show GoW _ _ _ _ _ _ _ (T6.setTop (mkF m 28 #[.val (.int p1), .val (.int p2), .val (.int p3), .val (.int p4), .val (.long q5), .second, .val (.int (p1 &&& (7 : Int32))), .val (.ref b1), .val (.int (Int32.ofNat xs1.length)), .unset, .unset, .unset, .unset, .unset, .unset] [(.ref b6)]))
  refine GoW.of (fun t k => XS.astore X6.here hx rfl (hb hby at_28) rfl rfl (l' := #[.val (.int p1), .val (.int p2), .val (.int p3), .val (.int p4), .val (.long q5), .second, .val (.int (p1 &&& (7 : Int32))), .val (.ref b1), .val (.int (Int32.ofNat xs1.length)), .val (.ref b6), .unset, .unset, .unset, .unset, .unset]) rfl k) ?_
  show GoW _ _ _ _ _ _ _ (T6.setTop (mkF m 30 #[.val (.int p1), .val (.int p2), .val (.int p3), .val (.int p4), .val (.long q5), .second, .val (.int (p1 &&& (7 : Int32))), .val (.ref b1), .val (.int (Int32.ofNat xs1.length)), .val (.ref b6), .unset, .unset, .unset, .unset, .unset] []))
  refine GoW.of (fun t k => XS.aload X6.here hx rfl (hb hby at_30) rfl rfl k) ?_
  show GoW _ _ _ _ _ _ _ (T6.setTop (mkF m 32 #[.val (.int p1), .val (.int p2), .val (.int p3), .val (.int p4), .val (.long q5), .second, .val (.int (p1 &&& (7 : Int32))), .val (.ref b1), .val (.int (Int32.ofNat xs1.length)), .val (.ref b6), .unset, .unset, .unset, .unset, .unset] [(.ref b6)]))
  refine GoW.of (fun t k => XS.iconst X6.here hx rfl (hb hby at_32) k) ?_
  show GoW _ _ _ _ _ _ _ (T6.setTop (mkF m 33 #[.val (.int p1), .val (.int p2), .val (.int p3), .val (.int p4), .val (.long q5), .second, .val (.int (p1 &&& (7 : Int32))), .val (.ref b1), .val (.int (Int32.ofNat xs1.length)), .val (.ref b6), .unset, .unset, .unset, .unset, .unset] [(.int (0 : Int32)), (.ref b6)]))
  refine GoW.of (fun t k => XS.aload X6.here hx rfl (hb hby at_33) rfl rfl k) ?_
  show GoW _ _ _ _ _ _ _ (T6.setTop (mkF m 35 #[.val (.int p1), .val (.int p2), .val (.int p3), .val (.int p4), .val (.long q5), .second, .val (.int (p1 &&& (7 : Int32))), .val (.ref b1), .val (.int (Int32.ofNat xs1.length)), .val (.ref b6), .unset, .unset, .unset, .unset, .unset] [(.ref b1), (.int (0 : Int32)), (.ref b6)]))
  refine GoW.of (fun t k => XS.iconst X6.here hx rfl (hb hby at_35) k) ?_
  show GoW _ _ _ _ _ _ _ (T6.setTop (mkF m 36 #[.val (.int p1), .val (.int p2), .val (.int p3), .val (.int p4), .val (.long q5), .second, .val (.int (p1 &&& (7 : Int32))), .val (.ref b1), .val (.int (Int32.ofNat xs1.length)), .val (.ref b6), .unset, .unset, .unset, .unset, .unset] [(.int (0 : Int32)), (.ref b1), (.int (0 : Int32)), (.ref b6)]))
  have f8 := (Sw1.keep ((Keep.refl T1.heap []).ext E6))
  have f9 := (f4.ext E6)
  obtain ⟨_, _, ⟨T10, L10, k10, n10⟩, -, X10, ⟨Lc10, hQ10, l10, y10, z10⟩, st10⟩ := Jvm.LawKit.callS X6 hx (y := (⟨"com/example/clearstep/clearstep/core/EventKindFromWordPinLaw", "at", "(Ljava/lang/String;I)C"⟩ : MethodName)) hown (mvT hZ (own_w hw 27 rfl)) (mvT hZ (own_w hw 28 rfl)) (mvT hZ (own_w hw 3 rfl)) (mvT hZ (own_w hw 29 rfl)) (by decide) (backOf (W := 2) (rm4 l Z a0 hw [] b1 (0 : Int32) 0 xs1 cs fm h6 n0 (by omega) (S_cs.ext f9.2) hcs (S_fm.ext f9.2) hfm f8 rfl (by decide)) hZ (own_w hw 29 rfl) (own_w hw 3 rfl) (by decide) (by decide)) (g := (mkF m 36 #[.val (.int p1), .val (.int p2), .val (.int p3), .val (.int p4), .val (.long q5), .second, .val (.int (p1 &&& (7 : Int32))), .val (.ref b1), .val (.int (Int32.ofNat xs1.length)), .val (.ref b6), .unset, .unset, .unset, .unset, .unset] [(.int (0 : Int32)), (.ref b1), (.int (0 : Int32)), (.ref b6)])) rfl (by rw [hml]; rfl) (argsL := [(.ref b1), (.int (0 : Int32))]) (rest := [(.int (0 : Int32)), (.ref b6)]) (lenOf pd_11 rfl) rfl (by show 2 * 0 + _ ≤ _; exact Nat.le_of_eq rfl) (hb hby at_36) (fun _ _ => ⟨rfl, e6, (by decide : 3 + 0 ≤ _), (by decide : 40 + 0 ≤ _)⟩)
  dsimp only [Pt.U, Pt.locs, Pt.cells, Pt.slots] at X10 l10 y10 z10 st10 hQ10
  replace y10 : k10 = 3 := y10.trans (by decide)
  replace z10 : n10 = 40 := z10.trans (by decide)
  subst y10 z10
  obtain ⟨z10, rfl, N10q, e10, hza10, hzb10⟩ := hQ10
  have N10 : Fr n0 L10 := by rw [l10]; exact Fr.app N5 N10q
  clear l10
  refine GoW.of st10 ?_
  show GoW _ _ _ _ _ _ _ (T10.setTop (mkF m 39 #[.val (.int p1), .val (.int p2), .val (.int p3), .val (.int p4), .val (.long q5), .second, .val (.int (p1 &&& (7 : Int32))), .val (.ref b1), .val (.int (Int32.ofNat xs1.length)), .val (.ref b6), .unset, .unset, .unset, .unset, .unset] [(.int z10), (.int (0 : Int32)), (.ref b6)]))
  obtain ⟨cl11, Ar11, q11, S11, N11', H11, G11⟩ := id V6
  have hin11 := inb_of S11 (j := (0 : Int32)) ⟨by decide, by decide⟩
  obtain ⟨T11, h11, X11, e11, W11, st11⟩ := stC X10 hx hZ e10 Ar11 (j := (0 : Int32)) hin11 (g := (mkF m 39 #[.val (.int p1), .val (.int p2), .val (.int p3), .val (.int p4), .val (.long q5), .second, .val (.int (p1 &&& (7 : Int32))), .val (.ref b1), .val (.int (Int32.ofNat xs1.length)), .val (.ref b6), .unset, .unset, .unset, .unset, .unset] [(.int z10), (.int (0 : Int32)), (.ref b6)])) rfl rfl (hb hby at_39)
  have V11 : Arv Z h11 b6 k6 .char (8 : Int32) [(.int (nar .char z10)), (.int (0 : Int32)), (.int (0 : Int32)), (.int (0 : Int32)), (.int (0 : Int32)), (.int (0 : Int32)), (.int (0 : Int32)), (.int (0 : Int32))] (.int (0 : Int32)) := Arv.set Ar11 q11 S11 N11' H11 G11 (fits_nar_char _) W11 0 rfl (Nat.le_of_ble_eq_true rfl)
  refine GoW.of st11 ?_
  have hs12 : h6.size ≤ h11.size := Nat.le_of_eq W11.size.symm
  have N11 := Fr.snoc X11 N10 (by omega)
  show GoW _ _ _ _ _ _ _ (T11.setTop (mkF m 40 #[.val (.int p1), .val (.int p2), .val (.int p3), .val (.int p4), .val (.long q5), .second, .val (.int (p1 &&& (7 : Int32))), .val (.ref b1), .val (.int (Int32.ofNat xs1.length)), .val (.ref b6), .unset, .unset, .unset, .unset, .unset] []))
  refine GoW.of (fun t k => XS.aload X11.here hx rfl (hb hby at_40) rfl rfl k) ?_
  show GoW _ _ _ _ _ _ _ (T11.setTop (mkF m 42 #[.val (.int p1), .val (.int p2), .val (.int p3), .val (.int p4), .val (.long q5), .second, .val (.int (p1 &&& (7 : Int32))), .val (.ref b1), .val (.int (Int32.ofNat xs1.length)), .val (.ref b6), .unset, .unset, .unset, .unset, .unset] [(.ref b6)]))
  refine GoW.of (fun t k => XS.iconst X11.here hx rfl (hb hby at_42) k) ?_
  show GoW _ _ _ _ _ _ _ (T11.setTop (mkF m 43 #[.val (.int p1), .val (.int p2), .val (.int p3), .val (.int p4), .val (.long q5), .second, .val (.int (p1 &&& (7 : Int32))), .val (.ref b1), .val (.int (Int32.ofNat xs1.length)), .val (.ref b6), .unset, .unset, .unset, .unset, .unset] [(.int (1 : Int32)), (.ref b6)]))
  refine GoW.of (fun t k => XS.aload X11.here hx rfl (hb hby at_43) rfl rfl k) ?_
  show GoW _ _ _ _ _ _ _ (T11.setTop (mkF m 45 #[.val (.int p1), .val (.int p2), .val (.int p3), .val (.int p4), .val (.long q5), .second, .val (.int (p1 &&& (7 : Int32))), .val (.ref b1), .val (.int (Int32.ofNat xs1.length)), .val (.ref b6), .unset, .unset, .unset, .unset, .unset] [(.ref b1), (.int (1 : Int32)), (.ref b6)]))
  refine GoW.of (fun t k => XS.iconst X11.here hx rfl (hb hby at_45) k) ?_
  show GoW _ _ _ _ _ _ _ (T11.setTop (mkF m 46 #[.val (.int p1), .val (.int p2), .val (.int p3), .val (.int p4), .val (.long q5), .second, .val (.int (p1 &&& (7 : Int32))), .val (.ref b1), .val (.int (Int32.ofNat xs1.length)), .val (.ref b6), .unset, .unset, .unset, .unset, .unset] [(.int (1 : Int32)), (.ref b1), (.int (1 : Int32)), (.ref b6)]))
  have f13 := (Sw1.keep (((Keep.refl T1.heap []).ext E6).wr W11 (Or.inr (by omega))))
  have f14 := (f9.wr W11 (by omega))
  obtain ⟨_, _, ⟨T15, L15, k15, n15⟩, -, X15, ⟨Lc15, hQ15, l15, y15, z15⟩, st15⟩ := Jvm.LawKit.callS X11 hx (y := (⟨"com/example/clearstep/clearstep/core/EventKindFromWordPinLaw", "at", "(Ljava/lang/String;I)C"⟩ : MethodName)) hown (mvT hZ (own_w hw 27 rfl)) (mvT hZ (own_w hw 28 rfl)) (mvT hZ (own_w hw 3 rfl)) (mvT hZ (own_w hw 29 rfl)) (by decide) (backOf (W := 2) (rm4 l Z a0 hw [] b1 (1 : Int32) 1 xs1 cs fm h11 n0 (by omega) (S_cs.ext f14.2) hcs (S_fm.ext f14.2) hfm f13 rfl (by decide)) hZ (own_w hw 29 rfl) (own_w hw 3 rfl) (by decide) (by decide)) (g := (mkF m 46 #[.val (.int p1), .val (.int p2), .val (.int p3), .val (.int p4), .val (.long q5), .second, .val (.int (p1 &&& (7 : Int32))), .val (.ref b1), .val (.int (Int32.ofNat xs1.length)), .val (.ref b6), .unset, .unset, .unset, .unset, .unset] [(.int (1 : Int32)), (.ref b1), (.int (1 : Int32)), (.ref b6)])) rfl (by rw [hml]; rfl) (argsL := [(.ref b1), (.int (1 : Int32))]) (rest := [(.int (1 : Int32)), (.ref b6)]) (lenOf pd_11 rfl) rfl (by show 2 * 0 + _ ≤ _; exact Nat.le_of_eq rfl) (hb hby at_46) (fun _ _ => ⟨rfl, e11, (by decide : 3 + 0 ≤ _), (by decide : 40 + 0 ≤ _)⟩)
  dsimp only [Pt.U, Pt.locs, Pt.cells, Pt.slots] at X15 l15 y15 z15 st15 hQ15
  replace y15 : k15 = 3 := y15.trans (by decide)
  replace z15 : n15 = 40 := z15.trans (by decide)
  subst y15 z15
  obtain ⟨z15, rfl, N15q, e15, hza15, hzb15⟩ := hQ15
  have N15 : Fr n0 L15 := by rw [l15]; exact Fr.app N11 N15q
  clear l15
  refine GoW.of st15 ?_
  show GoW _ _ _ _ _ _ _ (T15.setTop (mkF m 49 #[.val (.int p1), .val (.int p2), .val (.int p3), .val (.int p4), .val (.long q5), .second, .val (.int (p1 &&& (7 : Int32))), .val (.ref b1), .val (.int (Int32.ofNat xs1.length)), .val (.ref b6), .unset, .unset, .unset, .unset, .unset] [(.int z15), (.int (1 : Int32)), (.ref b6)]))
  obtain ⟨cl16, Ar16, q16, S16, N16', H16, G16⟩ := id V11
  have hin16 := inb_of S16 (j := (1 : Int32)) ⟨by decide, by decide⟩
  obtain ⟨T16, h16, X16, e16, W16, st16⟩ := stC X15 hx hZ e15 Ar16 (j := (1 : Int32)) hin16 (g := (mkF m 49 #[.val (.int p1), .val (.int p2), .val (.int p3), .val (.int p4), .val (.long q5), .second, .val (.int (p1 &&& (7 : Int32))), .val (.ref b1), .val (.int (Int32.ofNat xs1.length)), .val (.ref b6), .unset, .unset, .unset, .unset, .unset] [(.int z15), (.int (1 : Int32)), (.ref b6)])) rfl rfl (hb hby at_49)
  have V16 : Arv Z h16 b6 k6 .char (8 : Int32) [(.int (nar .char z10)), (.int (nar .char z15)), (.int (0 : Int32)), (.int (0 : Int32)), (.int (0 : Int32)), (.int (0 : Int32)), (.int (0 : Int32)), (.int (0 : Int32))] (.int (0 : Int32)) := Arv.set Ar16 q16 S16 N16' H16 G16 (fits_nar_char _) W16 1 rfl (Nat.le_of_ble_eq_true rfl)
  refine GoW.of st16 ?_
  have hs17 : h11.size ≤ h16.size := Nat.le_of_eq W16.size.symm
  have N16 := Fr.snoc X16 N15 (by omega)
  show GoW _ _ _ _ _ _ _ (T16.setTop (mkF m 50 #[.val (.int p1), .val (.int p2), .val (.int p3), .val (.int p4), .val (.long q5), .second, .val (.int (p1 &&& (7 : Int32))), .val (.ref b1), .val (.int (Int32.ofNat xs1.length)), .val (.ref b6), .unset, .unset, .unset, .unset, .unset] []))
  refine GoW.of (fun t k => XS.aload X16.here hx rfl (hb hby at_50) rfl rfl k) ?_
  show GoW _ _ _ _ _ _ _ (T16.setTop (mkF m 52 #[.val (.int p1), .val (.int p2), .val (.int p3), .val (.int p4), .val (.long q5), .second, .val (.int (p1 &&& (7 : Int32))), .val (.ref b1), .val (.int (Int32.ofNat xs1.length)), .val (.ref b6), .unset, .unset, .unset, .unset, .unset] [(.ref b6)]))
  refine GoW.of (fun t k => XS.iconst X16.here hx rfl (hb hby at_52) k) ?_
  show GoW _ _ _ _ _ _ _ (T16.setTop (mkF m 53 #[.val (.int p1), .val (.int p2), .val (.int p3), .val (.int p4), .val (.long q5), .second, .val (.int (p1 &&& (7 : Int32))), .val (.ref b1), .val (.int (Int32.ofNat xs1.length)), .val (.ref b6), .unset, .unset, .unset, .unset, .unset] [(.int (2 : Int32)), (.ref b6)]))
  refine GoW.of (fun t k => XS.aload X16.here hx rfl (hb hby at_53) rfl rfl k) ?_
  show GoW _ _ _ _ _ _ _ (T16.setTop (mkF m 55 #[.val (.int p1), .val (.int p2), .val (.int p3), .val (.int p4), .val (.long q5), .second, .val (.int (p1 &&& (7 : Int32))), .val (.ref b1), .val (.int (Int32.ofNat xs1.length)), .val (.ref b6), .unset, .unset, .unset, .unset, .unset] [(.ref b1), (.int (2 : Int32)), (.ref b6)]))
  refine GoW.of (fun t k => XS.iconst X16.here hx rfl (hb hby at_55) k) ?_
  show GoW _ _ _ _ _ _ _ (T16.setTop (mkF m 56 #[.val (.int p1), .val (.int p2), .val (.int p3), .val (.int p4), .val (.long q5), .second, .val (.int (p1 &&& (7 : Int32))), .val (.ref b1), .val (.int (Int32.ofNat xs1.length)), .val (.ref b6), .unset, .unset, .unset, .unset, .unset] [(.int (2 : Int32)), (.ref b1), (.int (2 : Int32)), (.ref b6)]))
  have f18 := (Sw1.keep ((((Keep.refl T1.heap []).ext E6).wr W11 (Or.inr (by omega))).wr W16 (Or.inr (by omega))))
  have f19 := (f14.wr W16 (by omega))
  obtain ⟨_, _, ⟨T20, L20, k20, n20⟩, -, X20, ⟨Lc20, hQ20, l20, y20, z20⟩, st20⟩ := Jvm.LawKit.callS X16 hx (y := (⟨"com/example/clearstep/clearstep/core/EventKindFromWordPinLaw", "at", "(Ljava/lang/String;I)C"⟩ : MethodName)) hown (mvT hZ (own_w hw 27 rfl)) (mvT hZ (own_w hw 28 rfl)) (mvT hZ (own_w hw 3 rfl)) (mvT hZ (own_w hw 29 rfl)) (by decide) (backOf (W := 2) (rm4 l Z a0 hw [] b1 (2 : Int32) 2 xs1 cs fm h16 n0 (by omega) (S_cs.ext f19.2) hcs (S_fm.ext f19.2) hfm f18 rfl (by decide)) hZ (own_w hw 29 rfl) (own_w hw 3 rfl) (by decide) (by decide)) (g := (mkF m 56 #[.val (.int p1), .val (.int p2), .val (.int p3), .val (.int p4), .val (.long q5), .second, .val (.int (p1 &&& (7 : Int32))), .val (.ref b1), .val (.int (Int32.ofNat xs1.length)), .val (.ref b6), .unset, .unset, .unset, .unset, .unset] [(.int (2 : Int32)), (.ref b1), (.int (2 : Int32)), (.ref b6)])) rfl (by rw [hml]; rfl) (argsL := [(.ref b1), (.int (2 : Int32))]) (rest := [(.int (2 : Int32)), (.ref b6)]) (lenOf pd_11 rfl) rfl (by show 2 * 0 + _ ≤ _; exact Nat.le_of_eq rfl) (hb hby at_56) (fun _ _ => ⟨rfl, e16, (by decide : 3 + 0 ≤ _), (by decide : 40 + 0 ≤ _)⟩)
  dsimp only [Pt.U, Pt.locs, Pt.cells, Pt.slots] at X20 l20 y20 z20 st20 hQ20
  replace y20 : k20 = 3 := y20.trans (by decide)
  replace z20 : n20 = 40 := z20.trans (by decide)
  subst y20 z20
  obtain ⟨z20, rfl, N20q, e20, hza20, hzb20⟩ := hQ20
  have N20 : Fr n0 L20 := by rw [l20]; exact Fr.app N16 N20q
  clear l20
  refine GoW.of st20 ?_
  show GoW _ _ _ _ _ _ _ (T20.setTop (mkF m 59 #[.val (.int p1), .val (.int p2), .val (.int p3), .val (.int p4), .val (.long q5), .second, .val (.int (p1 &&& (7 : Int32))), .val (.ref b1), .val (.int (Int32.ofNat xs1.length)), .val (.ref b6), .unset, .unset, .unset, .unset, .unset] [(.int z20), (.int (2 : Int32)), (.ref b6)]))
  obtain ⟨cl21, Ar21, q21, S21, N21', H21, G21⟩ := id V16
  have hin21 := inb_of S21 (j := (2 : Int32)) ⟨by decide, by decide⟩
  obtain ⟨T21, h21, X21, e21, W21, st21⟩ := stC X20 hx hZ e20 Ar21 (j := (2 : Int32)) hin21 (g := (mkF m 59 #[.val (.int p1), .val (.int p2), .val (.int p3), .val (.int p4), .val (.long q5), .second, .val (.int (p1 &&& (7 : Int32))), .val (.ref b1), .val (.int (Int32.ofNat xs1.length)), .val (.ref b6), .unset, .unset, .unset, .unset, .unset] [(.int z20), (.int (2 : Int32)), (.ref b6)])) rfl rfl (hb hby at_59)
  have V21 : Arv Z h21 b6 k6 .char (8 : Int32) [(.int (nar .char z10)), (.int (nar .char z15)), (.int (nar .char z20)), (.int (0 : Int32)), (.int (0 : Int32)), (.int (0 : Int32)), (.int (0 : Int32)), (.int (0 : Int32))] (.int (0 : Int32)) := Arv.set Ar21 q21 S21 N21' H21 G21 (fits_nar_char _) W21 2 rfl (Nat.le_of_ble_eq_true rfl)
  refine GoW.of st21 ?_
  have hs22 : h16.size ≤ h21.size := Nat.le_of_eq W21.size.symm
  have N21 := Fr.snoc X21 N20 (by omega)
  show GoW _ _ _ _ _ _ _ (T21.setTop (mkF m 60 #[.val (.int p1), .val (.int p2), .val (.int p3), .val (.int p4), .val (.long q5), .second, .val (.int (p1 &&& (7 : Int32))), .val (.ref b1), .val (.int (Int32.ofNat xs1.length)), .val (.ref b6), .unset, .unset, .unset, .unset, .unset] []))
  refine GoW.of (fun t k => XS.aload X21.here hx rfl (hb hby at_60) rfl rfl k) ?_
  show GoW _ _ _ _ _ _ _ (T21.setTop (mkF m 62 #[.val (.int p1), .val (.int p2), .val (.int p3), .val (.int p4), .val (.long q5), .second, .val (.int (p1 &&& (7 : Int32))), .val (.ref b1), .val (.int (Int32.ofNat xs1.length)), .val (.ref b6), .unset, .unset, .unset, .unset, .unset] [(.ref b6)]))
  refine GoW.of (fun t k => XS.iconst X21.here hx rfl (hb hby at_62) k) ?_
  show GoW _ _ _ _ _ _ _ (T21.setTop (mkF m 63 #[.val (.int p1), .val (.int p2), .val (.int p3), .val (.int p4), .val (.long q5), .second, .val (.int (p1 &&& (7 : Int32))), .val (.ref b1), .val (.int (Int32.ofNat xs1.length)), .val (.ref b6), .unset, .unset, .unset, .unset, .unset] [(.int (3 : Int32)), (.ref b6)]))
  refine GoW.of (fun t k => XS.aload X21.here hx rfl (hb hby at_63) rfl rfl k) ?_
  show GoW _ _ _ _ _ _ _ (T21.setTop (mkF m 65 #[.val (.int p1), .val (.int p2), .val (.int p3), .val (.int p4), .val (.long q5), .second, .val (.int (p1 &&& (7 : Int32))), .val (.ref b1), .val (.int (Int32.ofNat xs1.length)), .val (.ref b6), .unset, .unset, .unset, .unset, .unset] [(.ref b1), (.int (3 : Int32)), (.ref b6)]))
  refine GoW.of (fun t k => XS.iconst X21.here hx rfl (hb hby at_65) k) ?_
  show GoW _ _ _ _ _ _ _ (T21.setTop (mkF m 66 #[.val (.int p1), .val (.int p2), .val (.int p3), .val (.int p4), .val (.long q5), .second, .val (.int (p1 &&& (7 : Int32))), .val (.ref b1), .val (.int (Int32.ofNat xs1.length)), .val (.ref b6), .unset, .unset, .unset, .unset, .unset] [(.int (3 : Int32)), (.ref b1), (.int (3 : Int32)), (.ref b6)]))
  have f23 := (Sw1.keep (((((Keep.refl T1.heap []).ext E6).wr W11 (Or.inr (by omega))).wr W16 (Or.inr (by omega))).wr W21 (Or.inr (by omega))))
  have f24 := (f19.wr W21 (by omega))
  obtain ⟨_, _, ⟨T25, L25, k25, n25⟩, -, X25, ⟨Lc25, hQ25, l25, y25, z25⟩, st25⟩ := Jvm.LawKit.callS X21 hx (y := (⟨"com/example/clearstep/clearstep/core/EventKindFromWordPinLaw", "at", "(Ljava/lang/String;I)C"⟩ : MethodName)) hown (mvT hZ (own_w hw 27 rfl)) (mvT hZ (own_w hw 28 rfl)) (mvT hZ (own_w hw 3 rfl)) (mvT hZ (own_w hw 29 rfl)) (by decide) (backOf (W := 2) (rm4 l Z a0 hw [] b1 (3 : Int32) 3 xs1 cs fm h21 n0 (by omega) (S_cs.ext f24.2) hcs (S_fm.ext f24.2) hfm f23 rfl (by decide)) hZ (own_w hw 29 rfl) (own_w hw 3 rfl) (by decide) (by decide)) (g := (mkF m 66 #[.val (.int p1), .val (.int p2), .val (.int p3), .val (.int p4), .val (.long q5), .second, .val (.int (p1 &&& (7 : Int32))), .val (.ref b1), .val (.int (Int32.ofNat xs1.length)), .val (.ref b6), .unset, .unset, .unset, .unset, .unset] [(.int (3 : Int32)), (.ref b1), (.int (3 : Int32)), (.ref b6)])) rfl (by rw [hml]; rfl) (argsL := [(.ref b1), (.int (3 : Int32))]) (rest := [(.int (3 : Int32)), (.ref b6)]) (lenOf pd_11 rfl) rfl (by show 2 * 0 + _ ≤ _; exact Nat.le_of_eq rfl) (hb hby at_66) (fun _ _ => ⟨rfl, e21, (by decide : 3 + 0 ≤ _), (by decide : 40 + 0 ≤ _)⟩)
  dsimp only [Pt.U, Pt.locs, Pt.cells, Pt.slots] at X25 l25 y25 z25 st25 hQ25
  replace y25 : k25 = 3 := y25.trans (by decide)
  replace z25 : n25 = 40 := z25.trans (by decide)
  subst y25 z25
  obtain ⟨z25, rfl, N25q, e25, hza25, hzb25⟩ := hQ25
  have N25 : Fr n0 L25 := by rw [l25]; exact Fr.app N21 N25q
  clear l25
  refine GoW.of st25 ?_
  show GoW _ _ _ _ _ _ _ (T25.setTop (mkF m 69 #[.val (.int p1), .val (.int p2), .val (.int p3), .val (.int p4), .val (.long q5), .second, .val (.int (p1 &&& (7 : Int32))), .val (.ref b1), .val (.int (Int32.ofNat xs1.length)), .val (.ref b6), .unset, .unset, .unset, .unset, .unset] [(.int z25), (.int (3 : Int32)), (.ref b6)]))
  obtain ⟨cl26, Ar26, q26, S26, N26', H26, G26⟩ := id V21
  have hin26 := inb_of S26 (j := (3 : Int32)) ⟨by decide, by decide⟩
  obtain ⟨T26, h26, X26, e26, W26, st26⟩ := stC X25 hx hZ e25 Ar26 (j := (3 : Int32)) hin26 (g := (mkF m 69 #[.val (.int p1), .val (.int p2), .val (.int p3), .val (.int p4), .val (.long q5), .second, .val (.int (p1 &&& (7 : Int32))), .val (.ref b1), .val (.int (Int32.ofNat xs1.length)), .val (.ref b6), .unset, .unset, .unset, .unset, .unset] [(.int z25), (.int (3 : Int32)), (.ref b6)])) rfl rfl (hb hby at_69)
  have V26 : Arv Z h26 b6 k6 .char (8 : Int32) [(.int (nar .char z10)), (.int (nar .char z15)), (.int (nar .char z20)), (.int (nar .char z25)), (.int (0 : Int32)), (.int (0 : Int32)), (.int (0 : Int32)), (.int (0 : Int32))] (.int (0 : Int32)) := Arv.set Ar26 q26 S26 N26' H26 G26 (fits_nar_char _) W26 3 rfl (Nat.le_of_ble_eq_true rfl)
  refine GoW.of st26 ?_
  have hs27 : h21.size ≤ h26.size := Nat.le_of_eq W26.size.symm
  have N26 := Fr.snoc X26 N25 (by omega)
  show GoW _ _ _ _ _ _ _ (T26.setTop (mkF m 70 #[.val (.int p1), .val (.int p2), .val (.int p3), .val (.int p4), .val (.long q5), .second, .val (.int (p1 &&& (7 : Int32))), .val (.ref b1), .val (.int (Int32.ofNat xs1.length)), .val (.ref b6), .unset, .unset, .unset, .unset, .unset] []))
  refine GoW.of (fun t k => XS.aload X26.here hx rfl (hb hby at_70) rfl rfl k) ?_
  show GoW _ _ _ _ _ _ _ (T26.setTop (mkF m 72 #[.val (.int p1), .val (.int p2), .val (.int p3), .val (.int p4), .val (.long q5), .second, .val (.int (p1 &&& (7 : Int32))), .val (.ref b1), .val (.int (Int32.ofNat xs1.length)), .val (.ref b6), .unset, .unset, .unset, .unset, .unset] [(.ref b6)]))
  refine GoW.of (fun t k => XS.iconst X26.here hx rfl (hb hby at_72) k) ?_
  show GoW _ _ _ _ _ _ _ (T26.setTop (mkF m 73 #[.val (.int p1), .val (.int p2), .val (.int p3), .val (.int p4), .val (.long q5), .second, .val (.int (p1 &&& (7 : Int32))), .val (.ref b1), .val (.int (Int32.ofNat xs1.length)), .val (.ref b6), .unset, .unset, .unset, .unset, .unset] [(.int (4 : Int32)), (.ref b6)]))
  refine GoW.of (fun t k => XS.aload X26.here hx rfl (hb hby at_73) rfl rfl k) ?_
  show GoW _ _ _ _ _ _ _ (T26.setTop (mkF m 75 #[.val (.int p1), .val (.int p2), .val (.int p3), .val (.int p4), .val (.long q5), .second, .val (.int (p1 &&& (7 : Int32))), .val (.ref b1), .val (.int (Int32.ofNat xs1.length)), .val (.ref b6), .unset, .unset, .unset, .unset, .unset] [(.ref b1), (.int (4 : Int32)), (.ref b6)]))
  refine GoW.of (fun t k => XS.iconst X26.here hx rfl (hb hby at_75) k) ?_
  show GoW _ _ _ _ _ _ _ (T26.setTop (mkF m 76 #[.val (.int p1), .val (.int p2), .val (.int p3), .val (.int p4), .val (.long q5), .second, .val (.int (p1 &&& (7 : Int32))), .val (.ref b1), .val (.int (Int32.ofNat xs1.length)), .val (.ref b6), .unset, .unset, .unset, .unset, .unset] [(.int (4 : Int32)), (.ref b1), (.int (4 : Int32)), (.ref b6)]))
  have f28 := (Sw1.keep ((((((Keep.refl T1.heap []).ext E6).wr W11 (Or.inr (by omega))).wr W16 (Or.inr (by omega))).wr W21 (Or.inr (by omega))).wr W26 (Or.inr (by omega))))
  have f29 := (f24.wr W26 (by omega))
  obtain ⟨_, _, ⟨T30, L30, k30, n30⟩, -, X30, ⟨Lc30, hQ30, l30, y30, z30⟩, st30⟩ := Jvm.LawKit.callS X26 hx (y := (⟨"com/example/clearstep/clearstep/core/EventKindFromWordPinLaw", "at", "(Ljava/lang/String;I)C"⟩ : MethodName)) hown (mvT hZ (own_w hw 27 rfl)) (mvT hZ (own_w hw 28 rfl)) (mvT hZ (own_w hw 3 rfl)) (mvT hZ (own_w hw 29 rfl)) (by decide) (backOf (W := 2) (rm4 l Z a0 hw [] b1 (4 : Int32) 4 xs1 cs fm h26 n0 (by omega) (S_cs.ext f29.2) hcs (S_fm.ext f29.2) hfm f28 rfl (by decide)) hZ (own_w hw 29 rfl) (own_w hw 3 rfl) (by decide) (by decide)) (g := (mkF m 76 #[.val (.int p1), .val (.int p2), .val (.int p3), .val (.int p4), .val (.long q5), .second, .val (.int (p1 &&& (7 : Int32))), .val (.ref b1), .val (.int (Int32.ofNat xs1.length)), .val (.ref b6), .unset, .unset, .unset, .unset, .unset] [(.int (4 : Int32)), (.ref b1), (.int (4 : Int32)), (.ref b6)])) rfl (by rw [hml]; rfl) (argsL := [(.ref b1), (.int (4 : Int32))]) (rest := [(.int (4 : Int32)), (.ref b6)]) (lenOf pd_11 rfl) rfl (by show 2 * 0 + _ ≤ _; exact Nat.le_of_eq rfl) (hb hby at_76) (fun _ _ => ⟨rfl, e26, (by decide : 3 + 0 ≤ _), (by decide : 40 + 0 ≤ _)⟩)
  dsimp only [Pt.U, Pt.locs, Pt.cells, Pt.slots] at X30 l30 y30 z30 st30 hQ30
  replace y30 : k30 = 3 := y30.trans (by decide)
  replace z30 : n30 = 40 := z30.trans (by decide)
  subst y30 z30
  obtain ⟨z30, rfl, N30q, e30, hza30, hzb30⟩ := hQ30
  have N30 : Fr n0 L30 := by rw [l30]; exact Fr.app N26 N30q
  clear l30
  refine GoW.of st30 ?_
  show GoW _ _ _ _ _ _ _ (T30.setTop (mkF m 79 #[.val (.int p1), .val (.int p2), .val (.int p3), .val (.int p4), .val (.long q5), .second, .val (.int (p1 &&& (7 : Int32))), .val (.ref b1), .val (.int (Int32.ofNat xs1.length)), .val (.ref b6), .unset, .unset, .unset, .unset, .unset] [(.int z30), (.int (4 : Int32)), (.ref b6)]))
  obtain ⟨cl31, Ar31, q31, S31, N31', H31, G31⟩ := id V26
  have hin31 := inb_of S31 (j := (4 : Int32)) ⟨by decide, by decide⟩
  obtain ⟨T31, h31, X31, e31, W31, st31⟩ := stC X30 hx hZ e30 Ar31 (j := (4 : Int32)) hin31 (g := (mkF m 79 #[.val (.int p1), .val (.int p2), .val (.int p3), .val (.int p4), .val (.long q5), .second, .val (.int (p1 &&& (7 : Int32))), .val (.ref b1), .val (.int (Int32.ofNat xs1.length)), .val (.ref b6), .unset, .unset, .unset, .unset, .unset] [(.int z30), (.int (4 : Int32)), (.ref b6)])) rfl rfl (hb hby at_79)
  have V31 : Arv Z h31 b6 k6 .char (8 : Int32) [(.int (nar .char z10)), (.int (nar .char z15)), (.int (nar .char z20)), (.int (nar .char z25)), (.int (nar .char z30)), (.int (0 : Int32)), (.int (0 : Int32)), (.int (0 : Int32))] (.int (0 : Int32)) := Arv.set Ar31 q31 S31 N31' H31 G31 (fits_nar_char _) W31 4 rfl (Nat.le_of_ble_eq_true rfl)
  refine GoW.of st31 ?_
  have hs32 : h26.size ≤ h31.size := Nat.le_of_eq W31.size.symm
  have N31 := Fr.snoc X31 N30 (by omega)
  show GoW _ _ _ _ _ _ _ (T31.setTop (mkF m 80 #[.val (.int p1), .val (.int p2), .val (.int p3), .val (.int p4), .val (.long q5), .second, .val (.int (p1 &&& (7 : Int32))), .val (.ref b1), .val (.int (Int32.ofNat xs1.length)), .val (.ref b6), .unset, .unset, .unset, .unset, .unset] []))
  refine GoW.of (fun t k => XS.aload X31.here hx rfl (hb hby at_80) rfl rfl k) ?_
  show GoW _ _ _ _ _ _ _ (T31.setTop (mkF m 82 #[.val (.int p1), .val (.int p2), .val (.int p3), .val (.int p4), .val (.long q5), .second, .val (.int (p1 &&& (7 : Int32))), .val (.ref b1), .val (.int (Int32.ofNat xs1.length)), .val (.ref b6), .unset, .unset, .unset, .unset, .unset] [(.ref b6)]))
  refine GoW.of (fun t k => XS.iconst X31.here hx rfl (hb hby at_82) k) ?_
  show GoW _ _ _ _ _ _ _ (T31.setTop (mkF m 83 #[.val (.int p1), .val (.int p2), .val (.int p3), .val (.int p4), .val (.long q5), .second, .val (.int (p1 &&& (7 : Int32))), .val (.ref b1), .val (.int (Int32.ofNat xs1.length)), .val (.ref b6), .unset, .unset, .unset, .unset, .unset] [(.int (5 : Int32)), (.ref b6)]))
  refine GoW.of (fun t k => XS.aload X31.here hx rfl (hb hby at_83) rfl rfl k) ?_
  show GoW _ _ _ _ _ _ _ (T31.setTop (mkF m 85 #[.val (.int p1), .val (.int p2), .val (.int p3), .val (.int p4), .val (.long q5), .second, .val (.int (p1 &&& (7 : Int32))), .val (.ref b1), .val (.int (Int32.ofNat xs1.length)), .val (.ref b6), .unset, .unset, .unset, .unset, .unset] [(.ref b1), (.int (5 : Int32)), (.ref b6)]))
  refine GoW.of (fun t k => XS.iconst X31.here hx rfl (hb hby at_85) k) ?_
  show GoW _ _ _ _ _ _ _ (T31.setTop (mkF m 86 #[.val (.int p1), .val (.int p2), .val (.int p3), .val (.int p4), .val (.long q5), .second, .val (.int (p1 &&& (7 : Int32))), .val (.ref b1), .val (.int (Int32.ofNat xs1.length)), .val (.ref b6), .unset, .unset, .unset, .unset, .unset] [(.int (5 : Int32)), (.ref b1), (.int (5 : Int32)), (.ref b6)]))
  have f33 := (Sw1.keep (((((((Keep.refl T1.heap []).ext E6).wr W11 (Or.inr (by omega))).wr W16 (Or.inr (by omega))).wr W21 (Or.inr (by omega))).wr W26 (Or.inr (by omega))).wr W31 (Or.inr (by omega))))
  have f34 := (f29.wr W31 (by omega))
  obtain ⟨_, _, ⟨T35, L35, k35, n35⟩, -, X35, ⟨Lc35, hQ35, l35, y35, z35⟩, st35⟩ := Jvm.LawKit.callS X31 hx (y := (⟨"com/example/clearstep/clearstep/core/EventKindFromWordPinLaw", "at", "(Ljava/lang/String;I)C"⟩ : MethodName)) hown (mvT hZ (own_w hw 27 rfl)) (mvT hZ (own_w hw 28 rfl)) (mvT hZ (own_w hw 3 rfl)) (mvT hZ (own_w hw 29 rfl)) (by decide) (backOf (W := 2) (rm4 l Z a0 hw [] b1 (5 : Int32) 5 xs1 cs fm h31 n0 (by omega) (S_cs.ext f34.2) hcs (S_fm.ext f34.2) hfm f33 rfl (by decide)) hZ (own_w hw 29 rfl) (own_w hw 3 rfl) (by decide) (by decide)) (g := (mkF m 86 #[.val (.int p1), .val (.int p2), .val (.int p3), .val (.int p4), .val (.long q5), .second, .val (.int (p1 &&& (7 : Int32))), .val (.ref b1), .val (.int (Int32.ofNat xs1.length)), .val (.ref b6), .unset, .unset, .unset, .unset, .unset] [(.int (5 : Int32)), (.ref b1), (.int (5 : Int32)), (.ref b6)])) rfl (by rw [hml]; rfl) (argsL := [(.ref b1), (.int (5 : Int32))]) (rest := [(.int (5 : Int32)), (.ref b6)]) (lenOf pd_11 rfl) rfl (by show 2 * 0 + _ ≤ _; exact Nat.le_of_eq rfl) (hb hby at_86) (fun _ _ => ⟨rfl, e31, (by decide : 3 + 0 ≤ _), (by decide : 40 + 0 ≤ _)⟩)
  dsimp only [Pt.U, Pt.locs, Pt.cells, Pt.slots] at X35 l35 y35 z35 st35 hQ35
  replace y35 : k35 = 3 := y35.trans (by decide)
  replace z35 : n35 = 40 := z35.trans (by decide)
  subst y35 z35
  obtain ⟨z35, rfl, N35q, e35, hza35, hzb35⟩ := hQ35
  have N35 : Fr n0 L35 := by rw [l35]; exact Fr.app N31 N35q
  clear l35
  refine GoW.of st35 ?_
  show GoW _ _ _ _ _ _ _ (T35.setTop (mkF m 89 #[.val (.int p1), .val (.int p2), .val (.int p3), .val (.int p4), .val (.long q5), .second, .val (.int (p1 &&& (7 : Int32))), .val (.ref b1), .val (.int (Int32.ofNat xs1.length)), .val (.ref b6), .unset, .unset, .unset, .unset, .unset] [(.int z35), (.int (5 : Int32)), (.ref b6)]))
  obtain ⟨cl36, Ar36, q36, S36, N36', H36, G36⟩ := id V31
  have hin36 := inb_of S36 (j := (5 : Int32)) ⟨by decide, by decide⟩
  obtain ⟨T36, h36, X36, e36, W36, st36⟩ := stC X35 hx hZ e35 Ar36 (j := (5 : Int32)) hin36 (g := (mkF m 89 #[.val (.int p1), .val (.int p2), .val (.int p3), .val (.int p4), .val (.long q5), .second, .val (.int (p1 &&& (7 : Int32))), .val (.ref b1), .val (.int (Int32.ofNat xs1.length)), .val (.ref b6), .unset, .unset, .unset, .unset, .unset] [(.int z35), (.int (5 : Int32)), (.ref b6)])) rfl rfl (hb hby at_89)
  have V36 : Arv Z h36 b6 k6 .char (8 : Int32) [(.int (nar .char z10)), (.int (nar .char z15)), (.int (nar .char z20)), (.int (nar .char z25)), (.int (nar .char z30)), (.int (nar .char z35)), (.int (0 : Int32)), (.int (0 : Int32))] (.int (0 : Int32)) := Arv.set Ar36 q36 S36 N36' H36 G36 (fits_nar_char _) W36 5 rfl (Nat.le_of_ble_eq_true rfl)
  refine GoW.of st36 ?_
  have hs37 : h31.size ≤ h36.size := Nat.le_of_eq W36.size.symm
  have N36 := Fr.snoc X36 N35 (by omega)
  show GoW _ _ _ _ _ _ _ (T36.setTop (mkF m 90 #[.val (.int p1), .val (.int p2), .val (.int p3), .val (.int p4), .val (.long q5), .second, .val (.int (p1 &&& (7 : Int32))), .val (.ref b1), .val (.int (Int32.ofNat xs1.length)), .val (.ref b6), .unset, .unset, .unset, .unset, .unset] []))
  refine GoW.of (fun t k => XS.aload X36.here hx rfl (hb hby at_90) rfl rfl k) ?_
  show GoW _ _ _ _ _ _ _ (T36.setTop (mkF m 92 #[.val (.int p1), .val (.int p2), .val (.int p3), .val (.int p4), .val (.long q5), .second, .val (.int (p1 &&& (7 : Int32))), .val (.ref b1), .val (.int (Int32.ofNat xs1.length)), .val (.ref b6), .unset, .unset, .unset, .unset, .unset] [(.ref b6)]))
  refine GoW.of (fun t k => XS.bipush X36.here hx rfl (hb hby at_92) k) ?_
  show GoW _ _ _ _ _ _ _ (T36.setTop (mkF m 94 #[.val (.int p1), .val (.int p2), .val (.int p3), .val (.int p4), .val (.long q5), .second, .val (.int (p1 &&& (7 : Int32))), .val (.ref b1), .val (.int (Int32.ofNat xs1.length)), .val (.ref b6), .unset, .unset, .unset, .unset, .unset] [(.int (6 : Int32)), (.ref b6)]))
  refine GoW.of (fun t k => XS.aload X36.here hx rfl (hb hby at_94) rfl rfl k) ?_
  show GoW _ _ _ _ _ _ _ (T36.setTop (mkF m 96 #[.val (.int p1), .val (.int p2), .val (.int p3), .val (.int p4), .val (.long q5), .second, .val (.int (p1 &&& (7 : Int32))), .val (.ref b1), .val (.int (Int32.ofNat xs1.length)), .val (.ref b6), .unset, .unset, .unset, .unset, .unset] [(.ref b1), (.int (6 : Int32)), (.ref b6)]))
  refine GoW.of (fun t k => XS.bipush X36.here hx rfl (hb hby at_96) k) ?_
  show GoW _ _ _ _ _ _ _ (T36.setTop (mkF m 98 #[.val (.int p1), .val (.int p2), .val (.int p3), .val (.int p4), .val (.long q5), .second, .val (.int (p1 &&& (7 : Int32))), .val (.ref b1), .val (.int (Int32.ofNat xs1.length)), .val (.ref b6), .unset, .unset, .unset, .unset, .unset] [(.int (6 : Int32)), (.ref b1), (.int (6 : Int32)), (.ref b6)]))
  have f38 := (Sw1.keep ((((((((Keep.refl T1.heap []).ext E6).wr W11 (Or.inr (by omega))).wr W16 (Or.inr (by omega))).wr W21 (Or.inr (by omega))).wr W26 (Or.inr (by omega))).wr W31 (Or.inr (by omega))).wr W36 (Or.inr (by omega))))
  have f39 := (f34.wr W36 (by omega))
  obtain ⟨_, _, ⟨T40, L40, k40, n40⟩, -, X40, ⟨Lc40, hQ40, l40, y40, z40⟩, st40⟩ := Jvm.LawKit.callS X36 hx (y := (⟨"com/example/clearstep/clearstep/core/EventKindFromWordPinLaw", "at", "(Ljava/lang/String;I)C"⟩ : MethodName)) hown (mvT hZ (own_w hw 27 rfl)) (mvT hZ (own_w hw 28 rfl)) (mvT hZ (own_w hw 3 rfl)) (mvT hZ (own_w hw 29 rfl)) (by decide) (backOf (W := 2) (rm4 l Z a0 hw [] b1 (6 : Int32) 6 xs1 cs fm h36 n0 (by omega) (S_cs.ext f39.2) hcs (S_fm.ext f39.2) hfm f38 rfl (by decide)) hZ (own_w hw 29 rfl) (own_w hw 3 rfl) (by decide) (by decide)) (g := (mkF m 98 #[.val (.int p1), .val (.int p2), .val (.int p3), .val (.int p4), .val (.long q5), .second, .val (.int (p1 &&& (7 : Int32))), .val (.ref b1), .val (.int (Int32.ofNat xs1.length)), .val (.ref b6), .unset, .unset, .unset, .unset, .unset] [(.int (6 : Int32)), (.ref b1), (.int (6 : Int32)), (.ref b6)])) rfl (by rw [hml]; rfl) (argsL := [(.ref b1), (.int (6 : Int32))]) (rest := [(.int (6 : Int32)), (.ref b6)]) (lenOf pd_11 rfl) rfl (by show 2 * 0 + _ ≤ _; exact Nat.le_of_eq rfl) (hb hby at_98) (fun _ _ => ⟨rfl, e36, (by decide : 3 + 0 ≤ _), (by decide : 40 + 0 ≤ _)⟩)
  dsimp only [Pt.U, Pt.locs, Pt.cells, Pt.slots] at X40 l40 y40 z40 st40 hQ40
  replace y40 : k40 = 3 := y40.trans (by decide)
  replace z40 : n40 = 40 := z40.trans (by decide)
  subst y40 z40
  obtain ⟨z40, rfl, N40q, e40, hza40, hzb40⟩ := hQ40
  have N40 : Fr n0 L40 := by rw [l40]; exact Fr.app N36 N40q
  clear l40
  refine GoW.of st40 ?_
  show GoW _ _ _ _ _ _ _ (T40.setTop (mkF m 101 #[.val (.int p1), .val (.int p2), .val (.int p3), .val (.int p4), .val (.long q5), .second, .val (.int (p1 &&& (7 : Int32))), .val (.ref b1), .val (.int (Int32.ofNat xs1.length)), .val (.ref b6), .unset, .unset, .unset, .unset, .unset] [(.int z40), (.int (6 : Int32)), (.ref b6)]))
  obtain ⟨cl41, Ar41, q41, S41, N41', H41, G41⟩ := id V36
  have hin41 := inb_of S41 (j := (6 : Int32)) ⟨by decide, by decide⟩
  obtain ⟨T41, h41, X41, e41, W41, st41⟩ := stC X40 hx hZ e40 Ar41 (j := (6 : Int32)) hin41 (g := (mkF m 101 #[.val (.int p1), .val (.int p2), .val (.int p3), .val (.int p4), .val (.long q5), .second, .val (.int (p1 &&& (7 : Int32))), .val (.ref b1), .val (.int (Int32.ofNat xs1.length)), .val (.ref b6), .unset, .unset, .unset, .unset, .unset] [(.int z40), (.int (6 : Int32)), (.ref b6)])) rfl rfl (hb hby at_101)
  have V41 : Arv Z h41 b6 k6 .char (8 : Int32) [(.int (nar .char z10)), (.int (nar .char z15)), (.int (nar .char z20)), (.int (nar .char z25)), (.int (nar .char z30)), (.int (nar .char z35)), (.int (nar .char z40)), (.int (0 : Int32))] (.int (0 : Int32)) := Arv.set Ar41 q41 S41 N41' H41 G41 (fits_nar_char _) W41 6 rfl (Nat.le_of_ble_eq_true rfl)
  refine GoW.of st41 ?_
  have hs42 : h36.size ≤ h41.size := Nat.le_of_eq W41.size.symm
  have N41 := Fr.snoc X41 N40 (by omega)
  show GoW _ _ _ _ _ _ _ (T41.setTop (mkF m 102 #[.val (.int p1), .val (.int p2), .val (.int p3), .val (.int p4), .val (.long q5), .second, .val (.int (p1 &&& (7 : Int32))), .val (.ref b1), .val (.int (Int32.ofNat xs1.length)), .val (.ref b6), .unset, .unset, .unset, .unset, .unset] []))
  refine GoW.of (fun t k => XS.aload X41.here hx rfl (hb hby at_102) rfl rfl k) ?_
  show GoW _ _ _ _ _ _ _ (T41.setTop (mkF m 104 #[.val (.int p1), .val (.int p2), .val (.int p3), .val (.int p4), .val (.long q5), .second, .val (.int (p1 &&& (7 : Int32))), .val (.ref b1), .val (.int (Int32.ofNat xs1.length)), .val (.ref b6), .unset, .unset, .unset, .unset, .unset] [(.ref b6)]))
  refine GoW.of (fun t k => XS.bipush X41.here hx rfl (hb hby at_104) k) ?_
  show GoW _ _ _ _ _ _ _ (T41.setTop (mkF m 106 #[.val (.int p1), .val (.int p2), .val (.int p3), .val (.int p4), .val (.long q5), .second, .val (.int (p1 &&& (7 : Int32))), .val (.ref b1), .val (.int (Int32.ofNat xs1.length)), .val (.ref b6), .unset, .unset, .unset, .unset, .unset] [(.int (7 : Int32)), (.ref b6)]))
  refine GoW.of (fun t k => XS.aload X41.here hx rfl (hb hby at_106) rfl rfl k) ?_
  show GoW _ _ _ _ _ _ _ (T41.setTop (mkF m 108 #[.val (.int p1), .val (.int p2), .val (.int p3), .val (.int p4), .val (.long q5), .second, .val (.int (p1 &&& (7 : Int32))), .val (.ref b1), .val (.int (Int32.ofNat xs1.length)), .val (.ref b6), .unset, .unset, .unset, .unset, .unset] [(.ref b1), (.int (7 : Int32)), (.ref b6)]))
  refine GoW.of (fun t k => XS.bipush X41.here hx rfl (hb hby at_108) k) ?_
  show GoW _ _ _ _ _ _ _ (T41.setTop (mkF m 110 #[.val (.int p1), .val (.int p2), .val (.int p3), .val (.int p4), .val (.long q5), .second, .val (.int (p1 &&& (7 : Int32))), .val (.ref b1), .val (.int (Int32.ofNat xs1.length)), .val (.ref b6), .unset, .unset, .unset, .unset, .unset] [(.int (7 : Int32)), (.ref b1), (.int (7 : Int32)), (.ref b6)]))
  have f43 := (Sw1.keep (((((((((Keep.refl T1.heap []).ext E6).wr W11 (Or.inr (by omega))).wr W16 (Or.inr (by omega))).wr W21 (Or.inr (by omega))).wr W26 (Or.inr (by omega))).wr W31 (Or.inr (by omega))).wr W36 (Or.inr (by omega))).wr W41 (Or.inr (by omega))))
  have f44 := (f39.wr W41 (by omega))
  obtain ⟨_, _, ⟨T45, L45, k45, n45⟩, -, X45, ⟨Lc45, hQ45, l45, y45, z45⟩, st45⟩ := Jvm.LawKit.callS X41 hx (y := (⟨"com/example/clearstep/clearstep/core/EventKindFromWordPinLaw", "at", "(Ljava/lang/String;I)C"⟩ : MethodName)) hown (mvT hZ (own_w hw 27 rfl)) (mvT hZ (own_w hw 28 rfl)) (mvT hZ (own_w hw 3 rfl)) (mvT hZ (own_w hw 29 rfl)) (by decide) (backOf (W := 2) (rm4 l Z a0 hw [] b1 (7 : Int32) 7 xs1 cs fm h41 n0 (by omega) (S_cs.ext f44.2) hcs (S_fm.ext f44.2) hfm f43 rfl (by decide)) hZ (own_w hw 29 rfl) (own_w hw 3 rfl) (by decide) (by decide)) (g := (mkF m 110 #[.val (.int p1), .val (.int p2), .val (.int p3), .val (.int p4), .val (.long q5), .second, .val (.int (p1 &&& (7 : Int32))), .val (.ref b1), .val (.int (Int32.ofNat xs1.length)), .val (.ref b6), .unset, .unset, .unset, .unset, .unset] [(.int (7 : Int32)), (.ref b1), (.int (7 : Int32)), (.ref b6)])) rfl (by rw [hml]; rfl) (argsL := [(.ref b1), (.int (7 : Int32))]) (rest := [(.int (7 : Int32)), (.ref b6)]) (lenOf pd_11 rfl) rfl (by show 2 * 0 + _ ≤ _; exact Nat.le_of_eq rfl) (hb hby at_110) (fun _ _ => ⟨rfl, e41, (by decide : 3 + 0 ≤ _), (by decide : 40 + 0 ≤ _)⟩)
  dsimp only [Pt.U, Pt.locs, Pt.cells, Pt.slots] at X45 l45 y45 z45 st45 hQ45
  replace y45 : k45 = 3 := y45.trans (by decide)
  replace z45 : n45 = 40 := z45.trans (by decide)
  subst y45 z45
  obtain ⟨z45, rfl, N45q, e45, hza45, hzb45⟩ := hQ45
  have N45 : Fr n0 L45 := by rw [l45]; exact Fr.app N41 N45q
  clear l45
  refine GoW.of st45 ?_
  show GoW _ _ _ _ _ _ _ (T45.setTop (mkF m 113 #[.val (.int p1), .val (.int p2), .val (.int p3), .val (.int p4), .val (.long q5), .second, .val (.int (p1 &&& (7 : Int32))), .val (.ref b1), .val (.int (Int32.ofNat xs1.length)), .val (.ref b6), .unset, .unset, .unset, .unset, .unset] [(.int z45), (.int (7 : Int32)), (.ref b6)]))
  obtain ⟨cl46, Ar46, q46, S46, N46', H46, G46⟩ := id V41
  have hin46 := inb_of S46 (j := (7 : Int32)) ⟨by decide, by decide⟩
  obtain ⟨T46, h46, X46, e46, W46, st46⟩ := stC X45 hx hZ e45 Ar46 (j := (7 : Int32)) hin46 (g := (mkF m 113 #[.val (.int p1), .val (.int p2), .val (.int p3), .val (.int p4), .val (.long q5), .second, .val (.int (p1 &&& (7 : Int32))), .val (.ref b1), .val (.int (Int32.ofNat xs1.length)), .val (.ref b6), .unset, .unset, .unset, .unset, .unset] [(.int z45), (.int (7 : Int32)), (.ref b6)])) rfl rfl (hb hby at_113)
  have V46 : Arv Z h46 b6 k6 .char (8 : Int32) [(.int (nar .char z10)), (.int (nar .char z15)), (.int (nar .char z20)), (.int (nar .char z25)), (.int (nar .char z30)), (.int (nar .char z35)), (.int (nar .char z40)), (.int (nar .char z45))] (.int (0 : Int32)) := Arv.set Ar46 q46 S46 N46' H46 G46 (fits_nar_char _) W46 7 rfl (Nat.le_of_ble_eq_true rfl)
  refine GoW.of st46 ?_
  have hs47 : h41.size ≤ h46.size := Nat.le_of_eq W46.size.symm
  have N46 := Fr.snoc X46 N45 (by omega)
  show GoW _ _ _ _ _ _ _ (T46.setTop (mkF m 114 #[.val (.int p1), .val (.int p2), .val (.int p3), .val (.int p4), .val (.long q5), .second, .val (.int (p1 &&& (7 : Int32))), .val (.ref b1), .val (.int (Int32.ofNat xs1.length)), .val (.ref b6), .unset, .unset, .unset, .unset, .unset] []))
  refine GoW.of (fun t k => XS.iloadN X46.here hx rfl (hb hby at_114) rfl k) ?_
  show GoW _ _ _ _ _ _ _ (T46.setTop (mkF m 115 #[.val (.int p1), .val (.int p2), .val (.int p3), .val (.int p4), .val (.long q5), .second, .val (.int (p1 &&& (7 : Int32))), .val (.ref b1), .val (.int (Int32.ofNat xs1.length)), .val (.ref b6), .unset, .unset, .unset, .unset, .unset] [(.int p3)]))
  refine GoW.of (fun t k => X46.ldcInt hx hown (mvT hZ (own_w hw 0 rfl)) (g := (mkF m 115 #[.val (.int p1), .val (.int p2), .val (.int p3), .val (.int p4), .val (.long q5), .second, .val (.int (p1 &&& (7 : Int32))), .val (.ref b1), .val (.int (Int32.ofNat xs1.length)), .val (.ref b6), .unset, .unset, .unset, .unset, .unset] [(.int p3)])) rfl (hb hby at_115) _ k) ?_
  show GoW _ _ _ _ _ _ _ (T46.setTop (mkF m 117 #[.val (.int p1), .val (.int p2), .val (.int p3), .val (.int p4), .val (.long q5), .second, .val (.int (p1 &&& (7 : Int32))), .val (.ref b1), .val (.int (Int32.ofNat xs1.length)), .val (.ref b6), .unset, .unset, .unset, .unset, .unset] [(.int (2147483647 : Int32)), (.int p3)]))
  refine GoW.of (fun t k => XS.iand X46.here hx rfl (hb hby at_117) rfl k) ?_
  show GoW _ _ _ _ _ _ _ (T46.setTop (mkF m 118 #[.val (.int p1), .val (.int p2), .val (.int p3), .val (.int p4), .val (.long q5), .second, .val (.int (p1 &&& (7 : Int32))), .val (.ref b1), .val (.int (Int32.ofNat xs1.length)), .val (.ref b6), .unset, .unset, .unset, .unset, .unset] [(.int (p3 &&& (2147483647 : Int32)))]))
  refine GoW.of (fun t k => XS.iload X46.here hx rfl (hb hby at_118) rfl k) ?_
  show GoW _ _ _ _ _ _ _ (T46.setTop (mkF m 120 #[.val (.int p1), .val (.int p2), .val (.int p3), .val (.int p4), .val (.long q5), .second, .val (.int (p1 &&& (7 : Int32))), .val (.ref b1), .val (.int (Int32.ofNat xs1.length)), .val (.ref b6), .unset, .unset, .unset, .unset, .unset] [(.int (Int32.ofNat xs1.length)), (.int (p3 &&& (2147483647 : Int32)))]))
  refine GoW.of (fun t k => iremM X46 hx rfl (hb hby at_120) rfl (own_lenp hl01 (by omega)).2 k) ?_
  show GoW _ _ _ _ _ _ _ (T46.setTop (mkF m 121 #[.val (.int p1), .val (.int p2), .val (.int p3), .val (.int p4), .val (.long q5), .second, .val (.int (p1 &&& (7 : Int32))), .val (.ref b1), .val (.int (Int32.ofNat xs1.length)), .val (.ref b6), .unset, .unset, .unset, .unset, .unset] [(.int ((p3 &&& (2147483647 : Int32)) % (Int32.ofNat xs1.length)))]))
  refine GoW.of (fun t k => XS.istore X46.here hx rfl (hb hby at_121) rfl (l' := #[.val (.int p1), .val (.int p2), .val (.int p3), .val (.int p4), .val (.long q5), .second, .val (.int (p1 &&& (7 : Int32))), .val (.ref b1), .val (.int (Int32.ofNat xs1.length)), .val (.ref b6), .val (.int ((p3 &&& (2147483647 : Int32)) % (Int32.ofNat xs1.length))), .unset, .unset, .unset, .unset]) rfl k) ?_
  show GoW _ _ _ _ _ _ _ (T46.setTop (mkF m 123 #[.val (.int p1), .val (.int p2), .val (.int p3), .val (.int p4), .val (.long q5), .second, .val (.int (p1 &&& (7 : Int32))), .val (.ref b1), .val (.int (Int32.ofNat xs1.length)), .val (.ref b6), .val (.int ((p3 &&& (2147483647 : Int32)) % (Int32.ofNat xs1.length))), .unset, .unset, .unset, .unset] []))
  refine GoW.of (fun t k => XS.iloadN X46.here hx rfl (hb hby at_123) rfl k) ?_
  show GoW _ _ _ _ _ _ _ (T46.setTop (mkF m 124 #[.val (.int p1), .val (.int p2), .val (.int p3), .val (.int p4), .val (.long q5), .second, .val (.int (p1 &&& (7 : Int32))), .val (.ref b1), .val (.int (Int32.ofNat xs1.length)), .val (.ref b6), .val (.int ((p3 &&& (2147483647 : Int32)) % (Int32.ofNat xs1.length))), .unset, .unset, .unset, .unset] [(.int p4)]))
  refine GoW.of (fun t k => XS.sipush X46.here hx rfl (hb hby at_124) k) ?_
  show GoW _ _ _ _ _ _ _ (T46.setTop (mkF m 127 #[.val (.int p1), .val (.int p2), .val (.int p3), .val (.int p4), .val (.long q5), .second, .val (.int (p1 &&& (7 : Int32))), .val (.ref b1), .val (.int (Int32.ofNat xs1.length)), .val (.ref b6), .val (.int ((p3 &&& (2147483647 : Int32)) % (Int32.ofNat xs1.length))), .unset, .unset, .unset, .unset] [(.int (255 : Int32)), (.int p4)]))
  refine GoW.of (fun t k => XS.iand X46.here hx rfl (hb hby at_127) rfl k) ?_
  show GoW _ _ _ _ _ _ _ (T46.setTop (mkF m 128 #[.val (.int p1), .val (.int p2), .val (.int p3), .val (.int p4), .val (.long q5), .second, .val (.int (p1 &&& (7 : Int32))), .val (.ref b1), .val (.int (Int32.ofNat xs1.length)), .val (.ref b6), .val (.int ((p3 &&& (2147483647 : Int32)) % (Int32.ofNat xs1.length))), .unset, .unset, .unset, .unset] [(.int (p4 &&& (255 : Int32)))]))
  refine GoW.of (fun t k => XS.i2c X46.here hx rfl (hb hby at_128) rfl k) ?_
  show GoW _ _ _ _ _ _ _ (T46.setTop (mkF m 129 #[.val (.int p1), .val (.int p2), .val (.int p3), .val (.int p4), .val (.long q5), .second, .val (.int (p1 &&& (7 : Int32))), .val (.ref b1), .val (.int (Int32.ofNat xs1.length)), .val (.ref b6), .val (.int ((p3 &&& (2147483647 : Int32)) % (Int32.ofNat xs1.length))), .unset, .unset, .unset, .unset] [(.int ((p4 &&& (255 : Int32)).toUInt32.toUInt16.toUInt32.toInt32))]))
  refine GoW.of (fun t k => XS.istore X46.here hx rfl (hb hby at_129) rfl (l' := #[.val (.int p1), .val (.int p2), .val (.int p3), .val (.int p4), .val (.long q5), .second, .val (.int (p1 &&& (7 : Int32))), .val (.ref b1), .val (.int (Int32.ofNat xs1.length)), .val (.ref b6), .val (.int ((p3 &&& (2147483647 : Int32)) % (Int32.ofNat xs1.length))), .val (.int ((p4 &&& (255 : Int32)).toUInt32.toUInt16.toUInt32.toInt32)), .unset, .unset, .unset]) rfl k) ?_
  show GoW _ _ _ _ _ _ _ (T46.setTop (mkF m 131 #[.val (.int p1), .val (.int p2), .val (.int p3), .val (.int p4), .val (.long q5), .second, .val (.int (p1 &&& (7 : Int32))), .val (.ref b1), .val (.int (Int32.ofNat xs1.length)), .val (.ref b6), .val (.int ((p3 &&& (2147483647 : Int32)) % (Int32.ofNat xs1.length))), .val (.int ((p4 &&& (255 : Int32)).toUInt32.toUInt16.toUInt32.toInt32)), .unset, .unset, .unset] []))
  refine GoW.of (fun t k => XS.iload X46.here hx rfl (hb hby at_131) rfl k) ?_
  show GoW _ _ _ _ _ _ _ (T46.setTop (mkF m 133 #[.val (.int p1), .val (.int p2), .val (.int p3), .val (.int p4), .val (.long q5), .second, .val (.int (p1 &&& (7 : Int32))), .val (.ref b1), .val (.int (Int32.ofNat xs1.length)), .val (.ref b6), .val (.int ((p3 &&& (2147483647 : Int32)) % (Int32.ofNat xs1.length))), .val (.int ((p4 &&& (255 : Int32)).toUInt32.toUInt16.toUInt32.toInt32)), .unset, .unset, .unset] [(.int (p1 &&& (7 : Int32)))]))
  by_cases hc133_48 : (p1 &&& (7 : Int32)) = (0 : Int32)
  · skip
    refine GoW.of (fun t k => XS.ifNo X46.here hx rfl (hb hby at_133) rfl ((if0 _ _).trans (teq hc133_48).2) k) ?_
    show GoW _ _ _ _ _ _ _ (T46.setTop (mkF m 136 #[.val (.int p1), .val (.int p2), .val (.int p3), .val (.int p4), .val (.long q5), .second, .val (.int (p1 &&& (7 : Int32))), .val (.ref b1), .val (.int (Int32.ofNat xs1.length)), .val (.ref b6), .val (.int ((p3 &&& (2147483647 : Int32)) % (Int32.ofNat xs1.length))), .val (.int ((p4 &&& (255 : Int32)).toUInt32.toUInt16.toUInt32.toInt32)), .unset, .unset, .unset] []))
    refine GoW.of (fun t k => XS.aload X46.here hx rfl (hb hby at_136) rfl rfl k) ?_
    show GoW _ _ _ _ _ _ _ (T46.setTop (mkF m 138 #[.val (.int p1), .val (.int p2), .val (.int p3), .val (.int p4), .val (.long q5), .second, .val (.int (p1 &&& (7 : Int32))), .val (.ref b1), .val (.int (Int32.ofNat xs1.length)), .val (.ref b6), .val (.int ((p3 &&& (2147483647 : Int32)) % (Int32.ofNat xs1.length))), .val (.int ((p4 &&& (255 : Int32)).toUInt32.toUInt16.toUInt32.toInt32)), .unset, .unset, .unset] [(.ref b6)]))
    refine GoW.of (fun t k => XS.iload X46.here hx rfl (hb hby at_138) rfl k) ?_
    show GoW _ _ _ _ _ _ _ (T46.setTop (mkF m 140 #[.val (.int p1), .val (.int p2), .val (.int p3), .val (.int p4), .val (.long q5), .second, .val (.int (p1 &&& (7 : Int32))), .val (.ref b1), .val (.int (Int32.ofNat xs1.length)), .val (.ref b6), .val (.int ((p3 &&& (2147483647 : Int32)) % (Int32.ofNat xs1.length))), .val (.int ((p4 &&& (255 : Int32)).toUInt32.toUInt16.toUInt32.toInt32)), .unset, .unset, .unset] [(.int (Int32.ofNat xs1.length)), (.ref b6)]))
    have C8_49 : own_C8 Z h46 b6 := by
      refine ⟨_, _, _, _, _, _, _, _, _, V46, ?_⟩
      intro c hc
      simp only [List.mem_cons, List.not_mem_nil, or_false] at hc
      rcases hc with rfl | rfl | rfl | rfl | rfl | rfl | rfl | rfl
      · exact (own_narr ⟨hza10, hzb10⟩)
      · exact (own_narr ⟨hza15, hzb15⟩)
      · exact (own_narr ⟨hza20, hzb20⟩)
      · exact (own_narr ⟨hza25, hzb25⟩)
      · exact (own_narr ⟨hza30, hzb30⟩)
      · exact (own_narr ⟨hza35, hzb35⟩)
      · exact (own_narr ⟨hza40, hzb40⟩)
      · exact (own_narr ⟨hza45, hzb45⟩)
    have f50 := (f44.wr W46 (by omega))
    obtain ⟨_, _, ⟨T51, L51, k51, n51⟩, -, X51, hS51, hgr51, ⟨Lc51, hQ51, hJ51, l51, y51, z51⟩, st51⟩ := callSS X46 hx (y := (⟨"com/example/clearstep/clearstep/core/EventKindFromWordPinLaw", "make", "([CI)Ljava/lang/String;"⟩ : MethodName)) hown (mvT hZ (own_w hw 52 rfl)) (mvT hZ (own_w hw 53 rfl)) (mvT hZ (own_w hw 3 rfl)) (mvT hZ (own_w hw 54 rfl)) (by decide) (backOfJ (W := 0) (rm10 l Z a0 hw [] b6 (Int32.ofNat xs1.length) cs h46 n0 (by omega) f50 hcw hh0' hh1' hh2' hh3' hh4' hh5' S_cs hcs C8_49) hZ (own_w hw 54 rfl) (own_w hw 3 rfl) (by decide) (by decide)) (g := (mkF m 140 #[.val (.int p1), .val (.int p2), .val (.int p3), .val (.int p4), .val (.long q5), .second, .val (.int (p1 &&& (7 : Int32))), .val (.ref b1), .val (.int (Int32.ofNat xs1.length)), .val (.ref b6), .val (.int ((p3 &&& (2147483647 : Int32)) % (Int32.ofNat xs1.length))), .val (.int ((p4 &&& (255 : Int32)).toUInt32.toUInt16.toUInt32.toInt32)), .unset, .unset, .unset] [(.int (Int32.ofNat xs1.length)), (.ref b6)])) rfl (by rw [hml]; rfl) (argsL := [(.ref b6), (.int (Int32.ofNat xs1.length))]) (rest := []) (lenOf pd_12 rfl) rfl (by show 2 * 0 + _ ≤ _; exact Nat.le_of_eq rfl) (hb hby at_140) (fun _ hw1 => ⟨rfl, e46, own_J.warm (own_J.keep hJ1 ((((((((((Keep.refl T1.heap []).ext E6).wr W11 (Or.inr (by omega))).wr W16 (Or.inr (by omega))).wr W21 (Or.inr (by omega))).wr W26 (Or.inr (by omega))).wr W31 (Or.inr (by omega))).wr W36 (Or.inr (by omega))).wr W41 (Or.inr (by omega))).wr W46 (Or.inr (by omega)))) hw1, (by decide : 3 + 4 ≤ _), (by decide : 40 + 20 ≤ _)⟩)
    dsimp only [Pt.U, Pt.locs, Pt.cells, Pt.slots] at X51 l51 y51 z51 st51 hQ51 hS51 hgr51 hJ51
    replace y51 : k51 = 7 := y51.trans (by decide)
    replace z51 : n51 = 60 := z51.trans (by decide)
    subst y51 z51
    obtain ⟨X51, hS', hZ', hown'⟩ := rebS hS (by rw [e46]; omega) X51 hS51 hgr51 hZ hown
    have hk : T51.heap.size ≤ T51.heap.size := Nat.le_refl _
    have hS := hS'
    have hZ := hZ'
    have hown := hown'
    obtain ⟨b51, xs51, rfl, N51q, K51, Sm51⟩ := hQ51
    have N51 : Fr n0 L51 := by rw [l51]; exact Fr.app N46 N51q
    clear l51
    refine GoW.tr st51 ?_
    have hs52 : h46.size ≤ T51.heap.size := K51.1
    show GoW _ _ _ _ _ _ _ (T51.setTop (mkF m 143 #[.val (.int p1), .val (.int p2), .val (.int p3), .val (.int p4), .val (.long q5), .second, .val (.int (p1 &&& (7 : Int32))), .val (.ref b1), .val (.int (Int32.ofNat xs1.length)), .val (.ref b6), .val (.int ((p3 &&& (2147483647 : Int32)) % (Int32.ofNat xs1.length))), .val (.int ((p4 &&& (255 : Int32)).toUInt32.toUInt16.toUInt32.toInt32)), .unset, .unset, .unset] [(.ref b51)]))
    refine GoW.of (fun t k => XS.astore X51.here hx rfl (hb hby at_143) rfl rfl (l' := #[.val (.int p1), .val (.int p2), .val (.int p3), .val (.int p4), .val (.long q5), .second, .val (.int (p1 &&& (7 : Int32))), .val (.ref b1), .val (.int (Int32.ofNat xs1.length)), .val (.ref b6), .val (.int ((p3 &&& (2147483647 : Int32)) % (Int32.ofNat xs1.length))), .val (.int ((p4 &&& (255 : Int32)).toUInt32.toUInt16.toUInt32.toInt32)), .val (.ref b51), .unset, .unset]) rfl k) ?_
    show GoW _ _ _ _ _ _ _ (T51.setTop (mkF m 145 #[.val (.int p1), .val (.int p2), .val (.int p3), .val (.int p4), .val (.long q5), .second, .val (.int (p1 &&& (7 : Int32))), .val (.ref b1), .val (.int (Int32.ofNat xs1.length)), .val (.ref b6), .val (.int ((p3 &&& (2147483647 : Int32)) % (Int32.ofNat xs1.length))), .val (.int ((p4 &&& (255 : Int32)).toUInt32.toUInt16.toUInt32.toInt32)), .val (.ref b51), .unset, .unset] []))
    refine GoW.of (fun t k => XS.goto X51.here hx rfl (pc0 := 145) (pc' := 362) rfl (hb hby at_145) (by decide) (by decide) k) ?_
    show GoW _ _ _ _ _ _ _ (T51.setTop (mkF m 362 #[.val (.int p1), .val (.int p2), .val (.int p3), .val (.int p4), .val (.long q5), .second, .val (.int (p1 &&& (7 : Int32))), .val (.ref b1), .val (.int (Int32.ofNat xs1.length)), .val (.ref b6), .val (.int ((p3 &&& (2147483647 : Int32)) % (Int32.ofNat xs1.length))), .val (.int ((p4 &&& (255 : Int32)).toUInt32.toUInt16.toUInt32.toInt32)), .val (.ref b51), .unset, .unset] []))
    refine GoW.of (fun t k => XS.aload X51.here hx rfl (hb hby at_362) rfl rfl k) ?_
    show GoW _ _ _ _ _ _ _ (T51.setTop (mkF m 364 #[.val (.int p1), .val (.int p2), .val (.int p3), .val (.int p4), .val (.long q5), .second, .val (.int (p1 &&& (7 : Int32))), .val (.ref b1), .val (.int (Int32.ofNat xs1.length)), .val (.ref b6), .val (.int ((p3 &&& (2147483647 : Int32)) % (Int32.ofNat xs1.length))), .val (.int ((p4 &&& (255 : Int32)).toUInt32.toUInt16.toUInt32.toInt32)), .val (.ref b51), .unset, .unset] [(.ref b51)]))
    have f53 := (f50.keep K51 all0)
    obtain ⟨_, _, ⟨T54, L54, k54, n54⟩, -, X54, hS54, hgr54, ⟨Lc54, hQ54, hJ54, l54, y54, z54⟩, st54⟩ := callSS X51 hx (y := (⟨"com/example/clearstep/clearstep/core/EventKindFromWordPinLaw", "expected", "(Ljava/lang/String;)Lcom/example/clearstep/clearstep/core/EventKind;"⟩ : MethodName)) hown (mvT hZ (own_w hw 76 rfl)) (mvT hZ (own_w hw 77 rfl)) (mvT hZ (own_w hw 3 rfl)) (mvT hZ (own_w hw 78 rfl)) (by decide) (backOfJ (W := 0) (rmXS l Z a0 hw [] b51 xs51 cs w0 w1 w2 w3 w4 T51.heap n0 (by omega) f53 hcw hh0' hh1' hh2' hh3' hh4' hh5' S_cs hcs S_k0 S_k1 S_k2 S_k3 S_k4 Sm51) hZ (own_w hw 78 rfl) (own_w hw 3 rfl) (by decide) (by decide)) (g := (mkF m 364 #[.val (.int p1), .val (.int p2), .val (.int p3), .val (.int p4), .val (.long q5), .second, .val (.int (p1 &&& (7 : Int32))), .val (.ref b1), .val (.int (Int32.ofNat xs1.length)), .val (.ref b6), .val (.int ((p3 &&& (2147483647 : Int32)) % (Int32.ofNat xs1.length))), .val (.int ((p4 &&& (255 : Int32)).toUInt32.toUInt16.toUInt32.toInt32)), .val (.ref b51), .unset, .unset] [(.ref b51)])) rfl (by rw [hml]; rfl) (argsL := [(.ref b51)]) (rest := []) (lenOf pd_13 rfl) rfl (by show 2 * 0 + _ ≤ _; exact Nat.le_of_eq rfl) (hb hby at_364) (fun _ hw1 => ⟨rfl, rfl, own_J.warm hJ51 hw1, (by decide : 7 + 10 ≤ _), (by decide : 60 + 136 ≤ _)⟩)
    dsimp only [Pt.U, Pt.locs, Pt.cells, Pt.slots] at X54 l54 y54 z54 st54 hQ54 hS54 hgr54 hJ54
    replace y54 : k54 = 17 := y54.trans (by decide)
    replace z54 : n54 = 196 := z54.trans (by decide)
    subst y54 z54
    obtain ⟨X54, hS', hZ', hown'⟩ := rebS hS hk X54 hS54 hgr54 hZ hown
    have hk : T54.heap.size ≤ T54.heap.size := Nat.le_refl _
    have hS := hS'
    have hZ := hZ'
    have hown := hown'
    obtain ⟨rfl, N54q, K54⟩ := hQ54
    have N54 : Fr n0 L54 := by rw [l54]; exact Fr.app N51 N54q
    clear l54
    refine GoW.tr st54 ?_
    have hs55 : T51.heap.size ≤ T54.heap.size := K54.1
    show GoW _ _ _ _ _ _ _ (T54.setTop (mkF m 367 #[.val (.int p1), .val (.int p2), .val (.int p3), .val (.int p4), .val (.long q5), .second, .val (.int (p1 &&& (7 : Int32))), .val (.ref b1), .val (.int (Int32.ofNat xs1.length)), .val (.ref b6), .val (.int ((p3 &&& (2147483647 : Int32)) % (Int32.ofNat xs1.length))), .val (.int ((p4 &&& (255 : Int32)).toUInt32.toUInt16.toUInt32.toInt32)), .val (.ref b51), .unset, .unset] [(own_ev xs51 w0 w1 w2 w3 w4)]))
    refine GoW.of (fun t k => XS.astore X54.here hx rfl (hb hby at_367) rfl (own_ev_ref xs51 w0 w1 w2 w3 w4) (l' := #[.val (.int p1), .val (.int p2), .val (.int p3), .val (.int p4), .val (.long q5), .second, .val (.int (p1 &&& (7 : Int32))), .val (.ref b1), .val (.int (Int32.ofNat xs1.length)), .val (.ref b6), .val (.int ((p3 &&& (2147483647 : Int32)) % (Int32.ofNat xs1.length))), .val (.int ((p4 &&& (255 : Int32)).toUInt32.toUInt16.toUInt32.toInt32)), .val (.ref b51), .val (own_ev xs51 w0 w1 w2 w3 w4), .unset]) (by rcases ref_cases (own_ev_ref xs51 w0 w1 w2 w3 w4) with h' | ⟨x', h'⟩ <;> (rw [h']; rfl)) k) ?_
    show GoW _ _ _ _ _ _ _ (T54.setTop (mkF m 369 #[.val (.int p1), .val (.int p2), .val (.int p3), .val (.int p4), .val (.long q5), .second, .val (.int (p1 &&& (7 : Int32))), .val (.ref b1), .val (.int (Int32.ofNat xs1.length)), .val (.ref b6), .val (.int ((p3 &&& (2147483647 : Int32)) % (Int32.ofNat xs1.length))), .val (.int ((p4 &&& (255 : Int32)).toUInt32.toUInt16.toUInt32.toInt32)), .val (.ref b51), .val (own_ev xs51 w0 w1 w2 w3 w4), .unset] []))
    refine GoW.of (fun t k => XS.aload X54.here hx rfl (hb hby at_369) rfl rfl k) ?_
    show GoW _ _ _ _ _ _ _ (T54.setTop (mkF m 371 #[.val (.int p1), .val (.int p2), .val (.int p3), .val (.int p4), .val (.long q5), .second, .val (.int (p1 &&& (7 : Int32))), .val (.ref b1), .val (.int (Int32.ofNat xs1.length)), .val (.ref b6), .val (.int ((p3 &&& (2147483647 : Int32)) % (Int32.ofNat xs1.length))), .val (.int ((p4 &&& (255 : Int32)).toUInt32.toUInt16.toUInt32.toInt32)), .val (.ref b51), .val (own_ev xs51 w0 w1 w2 w3 w4), .unset] [(.ref b51)]))
    have f56 := (f53.keep K54 all0)
    have f57 := (Sm51.keep ((Keep.refl T51.heap []).trans K54 all0))
    obtain ⟨_, _, ⟨T58, L58, k58, n58⟩, -, X58, ⟨Lc58, hQ58, l58, y58, z58⟩, st58⟩ := Jvm.LawKit.callS X54 hx (y := (⟨"com/example/clearstep/clearstep/core/EventKind", "fromWord", "(Ljava/lang/String;)Ljava/util/Optional;"⟩ : MethodName)) hown (mvT hZ (own_w hw 94 rfl)) (mvT hZ (own_w hw 95 rfl)) (mvT hZ (own_w hw 92 rfl)) (mvT hZ (own_w hw 96 rfl)) (by decide) (backOf (W := 0) (rmFS l Z a0 hw [] b51 xs51 cs w0 w1 w2 w3 w4 s0 s1 s2 s3 s4 wE wV kv T54.heap n0 (by omega) f56 S_cs hcs F_w0 F_w1 F_w2 F_w3 F_w4 S_w0 S_w1 S_w2 S_w3 S_w4 S_E E_E F_E S_V V_V E_V f57) hZ (own_w hw 96 rfl) (own_w hw 92 rfl) (by decide) (by decide)) (g := (mkF m 371 #[.val (.int p1), .val (.int p2), .val (.int p3), .val (.int p4), .val (.long q5), .second, .val (.int (p1 &&& (7 : Int32))), .val (.ref b1), .val (.int (Int32.ofNat xs1.length)), .val (.ref b6), .val (.int ((p3 &&& (2147483647 : Int32)) % (Int32.ofNat xs1.length))), .val (.int ((p4 &&& (255 : Int32)).toUInt32.toUInt16.toUInt32.toInt32)), .val (.ref b51), .val (own_ev xs51 w0 w1 w2 w3 w4), .unset] [(.ref b51)])) rfl (by rw [hml]; rfl) (argsL := [(.ref b51)]) (rest := []) (lenOf pd_14 rfl) rfl (by show 2 * 0 + _ ≤ _; exact Nat.le_of_eq rfl) (hb hby at_371) (fun _ _ => ⟨rfl, rfl, (by decide : 17 + 2 ≤ _), (by decide : 196 + 6 ≤ _)⟩)
    dsimp only [Pt.U, Pt.locs, Pt.cells, Pt.slots] at X58 l58 y58 z58 st58 hQ58
    replace y58 : k58 = 19 := y58.trans (by decide)
    replace z58 : n58 = 202 := z58.trans (by decide)
    subst y58 z58
    obtain ⟨o58, rfl, N58q, K58, hlt58, Ex58, Fv58⟩ := hQ58
    have N58 : Fr n0 L58 := by rw [l58]; exact Fr.app N54 N58q
    clear l58
    refine GoW.of st58 ?_
    have hs59 : T54.heap.size ≤ T58.heap.size := K58.1
    show GoW _ _ _ _ _ _ _ (T58.setTop (mkF m 374 #[.val (.int p1), .val (.int p2), .val (.int p3), .val (.int p4), .val (.long q5), .second, .val (.int (p1 &&& (7 : Int32))), .val (.ref b1), .val (.int (Int32.ofNat xs1.length)), .val (.ref b6), .val (.int ((p3 &&& (2147483647 : Int32)) % (Int32.ofNat xs1.length))), .val (.int ((p4 &&& (255 : Int32)).toUInt32.toUInt16.toUInt32.toInt32)), .val (.ref b51), .val (own_ev xs51 w0 w1 w2 w3 w4), .unset] [(.ref o58)]))
    refine GoW.of (fun t k => XS.astore X58.here hx rfl (hb hby at_374) rfl rfl (l' := #[.val (.int p1), .val (.int p2), .val (.int p3), .val (.int p4), .val (.long q5), .second, .val (.int (p1 &&& (7 : Int32))), .val (.ref b1), .val (.int (Int32.ofNat xs1.length)), .val (.ref b6), .val (.int ((p3 &&& (2147483647 : Int32)) % (Int32.ofNat xs1.length))), .val (.int ((p4 &&& (255 : Int32)).toUInt32.toUInt16.toUInt32.toInt32)), .val (.ref b51), .val (own_ev xs51 w0 w1 w2 w3 w4), .val (.ref o58)]) rfl k) ?_
    show GoW _ _ _ _ _ _ _ (T58.setTop (mkF m 376 #[.val (.int p1), .val (.int p2), .val (.int p3), .val (.int p4), .val (.long q5), .second, .val (.int (p1 &&& (7 : Int32))), .val (.ref b1), .val (.int (Int32.ofNat xs1.length)), .val (.ref b6), .val (.int ((p3 &&& (2147483647 : Int32)) % (Int32.ofNat xs1.length))), .val (.int ((p4 &&& (255 : Int32)).toUInt32.toUInt16.toUInt32.toInt32)), .val (.ref b51), .val (own_ev xs51 w0 w1 w2 w3 w4), .val (.ref o58)] []))
    refine GoW.of (fun t k => XS.aload X58.here hx rfl (hb hby at_376) rfl rfl k) ?_
    show GoW _ _ _ _ _ _ _ (T58.setTop (mkF m 378 #[.val (.int p1), .val (.int p2), .val (.int p3), .val (.int p4), .val (.long q5), .second, .val (.int (p1 &&& (7 : Int32))), .val (.ref b1), .val (.int (Int32.ofNat xs1.length)), .val (.ref b6), .val (.int ((p3 &&& (2147483647 : Int32)) % (Int32.ofNat xs1.length))), .val (.int ((p4 &&& (255 : Int32)).toUInt32.toUInt16.toUInt32.toInt32)), .val (.ref b51), .val (own_ev xs51 w0 w1 w2 w3 w4), .val (.ref o58)] [(.ref o58)]))
    refine GoW.of (fun t k => XS.ifnonnullYes X58.here hx rfl (pc0 := 378) (pc' := 383) rfl (hb hby at_378) rfl (by decide) (by decide) k) ?_
    show GoW _ _ _ _ _ _ _ (T58.setTop (mkF m 383 #[.val (.int p1), .val (.int p2), .val (.int p3), .val (.int p4), .val (.long q5), .second, .val (.int (p1 &&& (7 : Int32))), .val (.ref b1), .val (.int (Int32.ofNat xs1.length)), .val (.ref b6), .val (.int ((p3 &&& (2147483647 : Int32)) % (Int32.ofNat xs1.length))), .val (.int ((p4 &&& (255 : Int32)).toUInt32.toUInt16.toUInt32.toInt32)), .val (.ref b51), .val (own_ev xs51 w0 w1 w2 w3 w4), .val (.ref o58)] []))
    refine GoW.of (fun t k => XS.aload X58.here hx rfl (hb hby at_383) rfl (own_ev_ref xs51 w0 w1 w2 w3 w4) k) ?_
    show GoW _ _ _ _ _ _ _ (T58.setTop (mkF m 385 #[.val (.int p1), .val (.int p2), .val (.int p3), .val (.int p4), .val (.long q5), .second, .val (.int (p1 &&& (7 : Int32))), .val (.ref b1), .val (.int (Int32.ofNat xs1.length)), .val (.ref b6), .val (.int ((p3 &&& (2147483647 : Int32)) % (Int32.ofNat xs1.length))), .val (.int ((p4 &&& (255 : Int32)).toUInt32.toUInt16.toUInt32.toInt32)), .val (.ref b51), .val (own_ev xs51 w0 w1 w2 w3 w4), .val (.ref o58)] [(own_ev xs51 w0 w1 w2 w3 w4)]))
    rcases ref_cases (own_ev_ref xs51 w0 w1 w2 w3 w4) with hv60 | ⟨xv60, hv60⟩
    · skip
      refine GoW.of (fun t k => XS.ifnonnullNo X58.here hx rfl (hb hby at_385) (congrArg (fun z => (z :: [] : List Value)) hv60) k) ?_
      show GoW _ _ _ _ _ _ _ (T58.setTop (mkF m 388 #[.val (.int p1), .val (.int p2), .val (.int p3), .val (.int p4), .val (.long q5), .second, .val (.int (p1 &&& (7 : Int32))), .val (.ref b1), .val (.int (Int32.ofNat xs1.length)), .val (.ref b6), .val (.int ((p3 &&& (2147483647 : Int32)) % (Int32.ofNat xs1.length))), .val (.int ((p4 &&& (255 : Int32)).toUInt32.toUInt16.toUInt32.toInt32)), .val (.ref b51), .val (own_ev xs51 w0 w1 w2 w3 w4), .val (.ref o58)] []))
      refine GoW.of (fun t k => XS.aload X58.here hx rfl (hb hby at_388) rfl rfl k) ?_
      show GoW _ _ _ _ _ _ _ (T58.setTop (mkF m 390 #[.val (.int p1), .val (.int p2), .val (.int p3), .val (.int p4), .val (.long q5), .second, .val (.int (p1 &&& (7 : Int32))), .val (.ref b1), .val (.int (Int32.ofNat xs1.length)), .val (.ref b6), .val (.int ((p3 &&& (2147483647 : Int32)) % (Int32.ofNat xs1.length))), .val (.int ((p4 &&& (255 : Int32)).toUInt32.toUInt16.toUInt32.toInt32)), .val (.ref b51), .val (own_ev xs51 w0 w1 w2 w3 w4), .val (.ref o58)] [(.ref o58)]))
      obtain ⟨cq61, kq61, q61a, q61b, q61c⟩ := isOf hZ rfl Ex58
      obtain ⟨_, _, ⟨T61, L61, k61, n61⟩, -, X61, ⟨Lc61, hQ61, l61, y61, z61⟩, st61⟩ := X58.virtualBack hx (y := (⟨"java/util/Optional", "isEmpty", "()Z"⟩ : MethodName)) (z := (⟨"java/util/Optional", "isEmpty", "()Z"⟩ : MethodName)) hown (mvT hZ (own_w hw 152 rfl)) (mvT hZ (own_w hw 153 rfl)) (notFace_of_selects (args := #[]) (mvT hZ (own_w hw 155 rfl))) (mvT hZ (own_w hw 155 rfl)) (mvT hZ (own_w hw 154 rfl)) (by decide) (backOf (W := 0) (rm28 l Z a0 hw [] o58 T58.heap n0 (by omega) (by rw [← hv60]; exact Fv58)) hZ (own_w hw 156 rfl) (own_w hw 121 rfl) (by decide) (by decide)) q61a q61c (g := (mkF m 390 #[.val (.int p1), .val (.int p2), .val (.int p3), .val (.int p4), .val (.long q5), .second, .val (.int (p1 &&& (7 : Int32))), .val (.ref b1), .val (.int (Int32.ofNat xs1.length)), .val (.ref b6), .val (.int ((p3 &&& (2147483647 : Int32)) % (Int32.ofNat xs1.length))), .val (.int ((p4 &&& (255 : Int32)).toUInt32.toUInt16.toUInt32.toInt32)), .val (.ref b51), .val (own_ev xs51 w0 w1 w2 w3 w4), .val (.ref o58)] [(.ref o58)])) rfl (by rw [hml]; rfl) (Steps.refl _) (argsL := []) (rest := []) (lenOf pd_15 rfl) rfl (by show 2 * 0 + _ ≤ _; exact Nat.le_of_eq rfl) (hb hby at_390) (fun _ _ => ⟨rfl, rfl, (by decide : 19 + 0 ≤ _), (by decide : 202 + 0 ≤ _)⟩)
      dsimp only [Pt.U, Pt.locs, Pt.cells, Pt.slots] at X61 l61 y61 z61 st61 hQ61
      replace y61 : k61 = 19 := y61.trans (by decide)
      replace z61 : n61 = 202 := z61.trans (by decide)
      subst y61 z61
      obtain ⟨rfl, N61q, e61⟩ := hQ61
      have N61 : Fr n0 L61 := by rw [l61]; exact Fr.app N58 N61q
      clear l61
      refine GoW.tr st61 ?_
      show GoW _ _ _ _ _ _ _ (T61.setTop (mkF m 393 #[.val (.int p1), .val (.int p2), .val (.int p3), .val (.int p4), .val (.long q5), .second, .val (.int (p1 &&& (7 : Int32))), .val (.ref b1), .val (.int (Int32.ofNat xs1.length)), .val (.ref b6), .val (.int ((p3 &&& (2147483647 : Int32)) % (Int32.ofNat xs1.length))), .val (.int ((p4 &&& (255 : Int32)).toUInt32.toUInt16.toUInt32.toInt32)), .val (.ref b51), .val (own_ev xs51 w0 w1 w2 w3 w4), .val (.ref o58)] [(.int (1 : Int32))]))
      refine GoW.out X61 hS (by rw [e61]; omega) (v := some (.int (1 : Int32))) (fun h => by rw [Bd.returns] at h; cases h) hlk (fun fs hr => retN X61 hx (t := .boolean) Bd.returns (by simp) (hb hby at_393) hr) ?_ (by decide) (by decide)
      show Q0 Z p1 p2 p3 p4 q5 cs fm w0 w1 w2 w3 w4 s0 s1 s2 s3 s4 wE wV kv h0 n0 _ T61.heap _
      rw [e61]
      exact ⟨rfl, N61⟩
    · skip
      refine GoW.of (fun t k => XS.ifnonnullYes X58.here hx rfl (pc0 := 385) (pc' := 394) rfl (hb hby at_385) (congrArg (fun z => (z :: [] : List Value)) hv60) (by decide) (by decide) k) ?_
      show GoW _ _ _ _ _ _ _ (T58.setTop (mkF m 394 #[.val (.int p1), .val (.int p2), .val (.int p3), .val (.int p4), .val (.long q5), .second, .val (.int (p1 &&& (7 : Int32))), .val (.ref b1), .val (.int (Int32.ofNat xs1.length)), .val (.ref b6), .val (.int ((p3 &&& (2147483647 : Int32)) % (Int32.ofNat xs1.length))), .val (.int ((p4 &&& (255 : Int32)).toUInt32.toUInt16.toUInt32.toInt32)), .val (.ref b51), .val (own_ev xs51 w0 w1 w2 w3 w4), .val (.ref o58)] []))
      refine GoW.of (fun t k => XS.aload X58.here hx rfl (hb hby at_394) rfl rfl k) ?_
      show GoW _ _ _ _ _ _ _ (T58.setTop (mkF m 396 #[.val (.int p1), .val (.int p2), .val (.int p3), .val (.int p4), .val (.long q5), .second, .val (.int (p1 &&& (7 : Int32))), .val (.ref b1), .val (.int (Int32.ofNat xs1.length)), .val (.ref b6), .val (.int ((p3 &&& (2147483647 : Int32)) % (Int32.ofNat xs1.length))), .val (.int ((p4 &&& (255 : Int32)).toUInt32.toUInt16.toUInt32.toInt32)), .val (.ref b51), .val (own_ev xs51 w0 w1 w2 w3 w4), .val (.ref o58)] [(.ref o58)]))
      obtain ⟨cq62, kq62, q62a, q62b, q62c⟩ := isOf hZ rfl Ex58
      obtain ⟨_, _, ⟨T62, L62, k62, n62⟩, -, X62, ⟨Lc62, hQ62, l62, y62, z62⟩, st62⟩ := X58.virtualBack hx (y := (⟨"java/util/Optional", "isPresent", "()Z"⟩ : MethodName)) (z := (⟨"java/util/Optional", "isPresent", "()Z"⟩ : MethodName)) hown (mvT hZ (own_w hw 136 rfl)) (mvT hZ (own_w hw 137 rfl)) (notFace_of_selects (args := #[]) (mvT hZ (own_w hw 139 rfl))) (mvT hZ (own_w hw 139 rfl)) (mvT hZ (own_w hw 138 rfl)) (by decide) (backOf (W := 0) (rm25 l Z a0 hw [] o58 xv60 T58.heap n0 (by omega) (by rw [← hv60]; exact Fv58)) hZ (own_w hw 140 rfl) (own_w hw 121 rfl) (by decide) (by decide)) q62a q62c (g := (mkF m 396 #[.val (.int p1), .val (.int p2), .val (.int p3), .val (.int p4), .val (.long q5), .second, .val (.int (p1 &&& (7 : Int32))), .val (.ref b1), .val (.int (Int32.ofNat xs1.length)), .val (.ref b6), .val (.int ((p3 &&& (2147483647 : Int32)) % (Int32.ofNat xs1.length))), .val (.int ((p4 &&& (255 : Int32)).toUInt32.toUInt16.toUInt32.toInt32)), .val (.ref b51), .val (own_ev xs51 w0 w1 w2 w3 w4), .val (.ref o58)] [(.ref o58)])) rfl (by rw [hml]; rfl) (Steps.refl _) (argsL := []) (rest := []) (lenOf pd_15 rfl) rfl (by show 2 * 0 + _ ≤ _; exact Nat.le_of_eq rfl) (hb hby at_396) (fun _ _ => ⟨rfl, rfl, (by decide : 19 + 0 ≤ _), (by decide : 202 + 0 ≤ _)⟩)
      dsimp only [Pt.U, Pt.locs, Pt.cells, Pt.slots] at X62 l62 y62 z62 st62 hQ62
      replace y62 : k62 = 19 := y62.trans (by decide)
      replace z62 : n62 = 202 := z62.trans (by decide)
      subst y62 z62
      obtain ⟨rfl, N62q, e62⟩ := hQ62
      have N62 : Fr n0 L62 := by rw [l62]; exact Fr.app N58 N62q
      clear l62
      refine GoW.tr st62 ?_
      show GoW _ _ _ _ _ _ _ (T62.setTop (mkF m 399 #[.val (.int p1), .val (.int p2), .val (.int p3), .val (.int p4), .val (.long q5), .second, .val (.int (p1 &&& (7 : Int32))), .val (.ref b1), .val (.int (Int32.ofNat xs1.length)), .val (.ref b6), .val (.int ((p3 &&& (2147483647 : Int32)) % (Int32.ofNat xs1.length))), .val (.int ((p4 &&& (255 : Int32)).toUInt32.toUInt16.toUInt32.toInt32)), .val (.ref b51), .val (own_ev xs51 w0 w1 w2 w3 w4), .val (.ref o58)] [(.int (1 : Int32))]))
      refine GoW.of (fun t k => XS.ifNo X62.here hx rfl (hb hby at_399) rfl ((if0 _ _).trans (feq (by decide : ¬ ((1 : Int32) = (0 : Int32)))).1) k) ?_
      show GoW _ _ _ _ _ _ _ (T62.setTop (mkF m 402 #[.val (.int p1), .val (.int p2), .val (.int p3), .val (.int p4), .val (.long q5), .second, .val (.int (p1 &&& (7 : Int32))), .val (.ref b1), .val (.int (Int32.ofNat xs1.length)), .val (.ref b6), .val (.int ((p3 &&& (2147483647 : Int32)) % (Int32.ofNat xs1.length))), .val (.int ((p4 &&& (255 : Int32)).toUInt32.toUInt16.toUInt32.toInt32)), .val (.ref b51), .val (own_ev xs51 w0 w1 w2 w3 w4), .val (.ref o58)] []))
      refine GoW.of (fun t k => XS.aload X62.here hx rfl (hb hby at_402) rfl rfl k) ?_
      show GoW _ _ _ _ _ _ _ (T62.setTop (mkF m 404 #[.val (.int p1), .val (.int p2), .val (.int p3), .val (.int p4), .val (.long q5), .second, .val (.int (p1 &&& (7 : Int32))), .val (.ref b1), .val (.int (Int32.ofNat xs1.length)), .val (.ref b6), .val (.int ((p3 &&& (2147483647 : Int32)) % (Int32.ofNat xs1.length))), .val (.int ((p4 &&& (255 : Int32)).toUInt32.toUInt16.toUInt32.toInt32)), .val (.ref b51), .val (own_ev xs51 w0 w1 w2 w3 w4), .val (.ref o58)] [(.ref o58)]))
      obtain ⟨cq63, kq63, q63a, q63b, q63c⟩ := isOf hZ e62 Ex58
      obtain ⟨_, _, ⟨T63, L63, k63, n63⟩, -, X63, ⟨Lc63, hQ63, l63, y63, z63⟩, st63⟩ := X62.virtualBack hx (y := (⟨"java/util/Optional", "get", "()Ljava/lang/Object;"⟩ : MethodName)) (z := (⟨"java/util/Optional", "get", "()Ljava/lang/Object;"⟩ : MethodName)) hown (mvT hZ (own_w hw 141 rfl)) (mvT hZ (own_w hw 142 rfl)) (notFace_of_selects (args := #[]) (mvT hZ (own_w hw 144 rfl))) (mvT hZ (own_w hw 144 rfl)) (mvT hZ (own_w hw 143 rfl)) (by decide) (backOf (W := 0) (rm26 l Z a0 hw [] o58 xv60 T58.heap n0 (by omega) (by rw [← hv60]; exact Fv58)) hZ (own_w hw 145 rfl) (own_w hw 121 rfl) (by decide) (by decide)) q63a q63c (g := (mkF m 404 #[.val (.int p1), .val (.int p2), .val (.int p3), .val (.int p4), .val (.long q5), .second, .val (.int (p1 &&& (7 : Int32))), .val (.ref b1), .val (.int (Int32.ofNat xs1.length)), .val (.ref b6), .val (.int ((p3 &&& (2147483647 : Int32)) % (Int32.ofNat xs1.length))), .val (.int ((p4 &&& (255 : Int32)).toUInt32.toUInt16.toUInt32.toInt32)), .val (.ref b51), .val (own_ev xs51 w0 w1 w2 w3 w4), .val (.ref o58)] [(.ref o58)])) rfl (by rw [hml]; rfl) (Steps.refl _) (argsL := []) (rest := []) (lenOf pd_16 rfl) rfl (by show 2 * 0 + _ ≤ _; exact Nat.le_of_eq rfl) (hb hby at_404) (fun _ _ => ⟨rfl, e62, (by decide : 19 + 0 ≤ _), (by decide : 202 + 0 ≤ _)⟩)
      dsimp only [Pt.U, Pt.locs, Pt.cells, Pt.slots] at X63 l63 y63 z63 st63 hQ63
      replace y63 : k63 = 19 := y63.trans (by decide)
      replace z63 : n63 = 202 := z63.trans (by decide)
      subst y63 z63
      obtain ⟨rfl, N63q, e63⟩ := hQ63
      have N63 : Fr n0 L63 := by rw [l63]; exact Fr.app N62 N63q
      clear l63
      refine GoW.tr st63 ?_
      show GoW _ _ _ _ _ _ _ (T63.setTop (mkF m 407 #[.val (.int p1), .val (.int p2), .val (.int p3), .val (.int p4), .val (.long q5), .second, .val (.int (p1 &&& (7 : Int32))), .val (.ref b1), .val (.int (Int32.ofNat xs1.length)), .val (.ref b6), .val (.int ((p3 &&& (2147483647 : Int32)) % (Int32.ofNat xs1.length))), .val (.int ((p4 &&& (255 : Int32)).toUInt32.toUInt16.toUInt32.toInt32)), .val (.ref b51), .val (own_ev xs51 w0 w1 w2 w3 w4), .val (.ref o58)] [(.ref xv60)]))
      refine GoW.of (fun t k => XS.aload X63.here hx rfl (hb hby at_407) rfl (own_ev_ref xs51 w0 w1 w2 w3 w4) k) ?_
      show GoW _ _ _ _ _ _ _ (T63.setTop (mkF m 409 #[.val (.int p1), .val (.int p2), .val (.int p3), .val (.int p4), .val (.long q5), .second, .val (.int (p1 &&& (7 : Int32))), .val (.ref b1), .val (.int (Int32.ofNat xs1.length)), .val (.ref b6), .val (.int ((p3 &&& (2147483647 : Int32)) % (Int32.ofNat xs1.length))), .val (.int ((p4 &&& (255 : Int32)).toUInt32.toUInt16.toUInt32.toInt32)), .val (.ref b51), .val (own_ev xs51 w0 w1 w2 w3 w4), .val (.ref o58)] [(own_ev xs51 w0 w1 w2 w3 w4), (.ref xv60)]))
      refine GoW.of (fun t k => Jvm.RoadKit.acmp (g := (mkF m 409 #[.val (.int p1), .val (.int p2), .val (.int p3), .val (.int p4), .val (.long q5), .second, .val (.int (p1 &&& (7 : Int32))), .val (.ref b1), .val (.int (Int32.ofNat xs1.length)), .val (.ref b6), .val (.int ((p3 &&& (2147483647 : Int32)) % (Int32.ofNat xs1.length))), .val (.int ((p4 &&& (255 : Int32)).toUInt32.toUInt16.toUInt32.toInt32)), .val (.ref b51), .val (own_ev xs51 w0 w1 w2 w3 w4), .val (.ref o58)] [(own_ev xs51 w0 w1 w2 w3 w4), (.ref xv60)])) X63 hx rfl rfl (own_ev_ref xs51 w0 w1 w2 w3 w4) (pc0 := 409) (pc' := 412) (same := true) rfl (hb hby at_409) rfl (decide_eq_true hv60.symm) (by decide) (by decide) k) ?_
      show GoW _ _ _ _ _ _ _ (T63.setTop (mkF m 412 #[.val (.int p1), .val (.int p2), .val (.int p3), .val (.int p4), .val (.long q5), .second, .val (.int (p1 &&& (7 : Int32))), .val (.ref b1), .val (.int (Int32.ofNat xs1.length)), .val (.ref b6), .val (.int ((p3 &&& (2147483647 : Int32)) % (Int32.ofNat xs1.length))), .val (.int ((p4 &&& (255 : Int32)).toUInt32.toUInt16.toUInt32.toInt32)), .val (.ref b51), .val (own_ev xs51 w0 w1 w2 w3 w4), .val (.ref o58)] []))
      refine GoW.of (fun t k => XS.iconst X63.here hx rfl (hb hby at_412) k) ?_
      show GoW _ _ _ _ _ _ _ (T63.setTop (mkF m 413 #[.val (.int p1), .val (.int p2), .val (.int p3), .val (.int p4), .val (.long q5), .second, .val (.int (p1 &&& (7 : Int32))), .val (.ref b1), .val (.int (Int32.ofNat xs1.length)), .val (.ref b6), .val (.int ((p3 &&& (2147483647 : Int32)) % (Int32.ofNat xs1.length))), .val (.int ((p4 &&& (255 : Int32)).toUInt32.toUInt16.toUInt32.toInt32)), .val (.ref b51), .val (own_ev xs51 w0 w1 w2 w3 w4), .val (.ref o58)] [(.int (1 : Int32))]))
      refine GoW.of (fun t k => XS.goto X63.here hx rfl (pc0 := 413) (pc' := 417) rfl (hb hby at_413) (by decide) (by decide) k) ?_
      show GoW _ _ _ _ _ _ _ (T63.setTop (mkF m 417 #[.val (.int p1), .val (.int p2), .val (.int p3), .val (.int p4), .val (.long q5), .second, .val (.int (p1 &&& (7 : Int32))), .val (.ref b1), .val (.int (Int32.ofNat xs1.length)), .val (.ref b6), .val (.int ((p3 &&& (2147483647 : Int32)) % (Int32.ofNat xs1.length))), .val (.int ((p4 &&& (255 : Int32)).toUInt32.toUInt16.toUInt32.toInt32)), .val (.ref b51), .val (own_ev xs51 w0 w1 w2 w3 w4), .val (.ref o58)] [(.int (1 : Int32))]))
      refine GoW.out X63 hS (by rw [e63]; omega) (v := some (.int (1 : Int32))) (fun h => by rw [Bd.returns] at h; cases h) hlk (fun fs hr => retN X63 hx (t := .boolean) Bd.returns (by simp) (hb hby at_417) hr) ?_ (by decide) (by decide)
      show Q0 Z p1 p2 p3 p4 q5 cs fm w0 w1 w2 w3 w4 s0 s1 s2 s3 s4 wE wV kv h0 n0 _ T63.heap _
      rw [e63]
      exact ⟨rfl, N63⟩
  · skip
    refine GoW.of (fun t k => XS.ifYes X46.here hx rfl (pc0 := 133) (pc' := 148) rfl (hb hby at_133) rfl ((if0 _ _).trans (feq hc133_48).2) (by decide) (by decide) k) ?_
    show GoW _ _ _ _ _ _ _ (T46.setTop (mkF m 148 #[.val (.int p1), .val (.int p2), .val (.int p3), .val (.int p4), .val (.long q5), .second, .val (.int (p1 &&& (7 : Int32))), .val (.ref b1), .val (.int (Int32.ofNat xs1.length)), .val (.ref b6), .val (.int ((p3 &&& (2147483647 : Int32)) % (Int32.ofNat xs1.length))), .val (.int ((p4 &&& (255 : Int32)).toUInt32.toUInt16.toUInt32.toInt32)), .unset, .unset, .unset] []))
    refine GoW.of (fun t k => XS.iload X46.here hx rfl (hb hby at_148) rfl k) ?_
    show GoW _ _ _ _ _ _ _ (T46.setTop (mkF m 150 #[.val (.int p1), .val (.int p2), .val (.int p3), .val (.int p4), .val (.long q5), .second, .val (.int (p1 &&& (7 : Int32))), .val (.ref b1), .val (.int (Int32.ofNat xs1.length)), .val (.ref b6), .val (.int ((p3 &&& (2147483647 : Int32)) % (Int32.ofNat xs1.length))), .val (.int ((p4 &&& (255 : Int32)).toUInt32.toUInt16.toUInt32.toInt32)), .unset, .unset, .unset] [(.int (p1 &&& (7 : Int32)))]))
    refine GoW.of (fun t k => XS.iconst X46.here hx rfl (hb hby at_150) k) ?_
    show GoW _ _ _ _ _ _ _ (T46.setTop (mkF m 151 #[.val (.int p1), .val (.int p2), .val (.int p3), .val (.int p4), .val (.long q5), .second, .val (.int (p1 &&& (7 : Int32))), .val (.ref b1), .val (.int (Int32.ofNat xs1.length)), .val (.ref b6), .val (.int ((p3 &&& (2147483647 : Int32)) % (Int32.ofNat xs1.length))), .val (.int ((p4 &&& (255 : Int32)).toUInt32.toUInt16.toUInt32.toInt32)), .unset, .unset, .unset] [(.int (1 : Int32)), (.int (p1 &&& (7 : Int32)))]))
    by_cases hc151_64 : (p1 &&& (7 : Int32)) = (1 : Int32)
    · skip
      refine GoW.of (fun t k => XS.icmpNo X46.here hx rfl (hb hby at_151) rfl (teq hc151_64).2 k) ?_
      show GoW _ _ _ _ _ _ _ (T46.setTop (mkF m 154 #[.val (.int p1), .val (.int p2), .val (.int p3), .val (.int p4), .val (.long q5), .second, .val (.int (p1 &&& (7 : Int32))), .val (.ref b1), .val (.int (Int32.ofNat xs1.length)), .val (.ref b6), .val (.int ((p3 &&& (2147483647 : Int32)) % (Int32.ofNat xs1.length))), .val (.int ((p4 &&& (255 : Int32)).toUInt32.toUInt16.toUInt32.toInt32)), .unset, .unset, .unset] []))
      refine GoW.of (fun t k => XS.aload X46.here hx rfl (hb hby at_154) rfl rfl k) ?_
      show GoW _ _ _ _ _ _ _ (T46.setTop (mkF m 156 #[.val (.int p1), .val (.int p2), .val (.int p3), .val (.int p4), .val (.long q5), .second, .val (.int (p1 &&& (7 : Int32))), .val (.ref b1), .val (.int (Int32.ofNat xs1.length)), .val (.ref b6), .val (.int ((p3 &&& (2147483647 : Int32)) % (Int32.ofNat xs1.length))), .val (.int ((p4 &&& (255 : Int32)).toUInt32.toUInt16.toUInt32.toInt32)), .unset, .unset, .unset] [(.ref b6)]))
      refine GoW.of (fun t k => XS.iload X46.here hx rfl (hb hby at_156) rfl k) ?_
      show GoW _ _ _ _ _ _ _ (T46.setTop (mkF m 158 #[.val (.int p1), .val (.int p2), .val (.int p3), .val (.int p4), .val (.long q5), .second, .val (.int (p1 &&& (7 : Int32))), .val (.ref b1), .val (.int (Int32.ofNat xs1.length)), .val (.ref b6), .val (.int ((p3 &&& (2147483647 : Int32)) % (Int32.ofNat xs1.length))), .val (.int ((p4 &&& (255 : Int32)).toUInt32.toUInt16.toUInt32.toInt32)), .unset, .unset, .unset] [(.int ((p3 &&& (2147483647 : Int32)) % (Int32.ofNat xs1.length))), (.ref b6)]))
      refine GoW.of (fun t k => XS.iload X46.here hx rfl (hb hby at_158) rfl k) ?_
      show GoW _ _ _ _ _ _ _ (T46.setTop (mkF m 160 #[.val (.int p1), .val (.int p2), .val (.int p3), .val (.int p4), .val (.long q5), .second, .val (.int (p1 &&& (7 : Int32))), .val (.ref b1), .val (.int (Int32.ofNat xs1.length)), .val (.ref b6), .val (.int ((p3 &&& (2147483647 : Int32)) % (Int32.ofNat xs1.length))), .val (.int ((p4 &&& (255 : Int32)).toUInt32.toUInt16.toUInt32.toInt32)), .unset, .unset, .unset] [(.int ((p4 &&& (255 : Int32)).toUInt32.toUInt16.toUInt32.toInt32)), (.int ((p3 &&& (2147483647 : Int32)) % (Int32.ofNat xs1.length))), (.ref b6)]))
      have hj65 : ¬ ((p3 &&& (2147483647 : Int32)) % (Int32.ofNat xs1.length)) < 0 ∧ ((p3 &&& (2147483647 : Int32)) % (Int32.ofNat xs1.length)) < 8 := own_mod hl01 (by omega)
      obtain ⟨cl65, Ar65, q65, S65, N65', H65, G65⟩ := id V46
      obtain ⟨T65, h65, X65, e65, W65, st65⟩ := stC X46 hx hZ e46 Ar65 (j := ((p3 &&& (2147483647 : Int32)) % (Int32.ofNat xs1.length))) (inb_of S65 hj65) (g := (mkF m 160 #[.val (.int p1), .val (.int p2), .val (.int p3), .val (.int p4), .val (.long q5), .second, .val (.int (p1 &&& (7 : Int32))), .val (.ref b1), .val (.int (Int32.ofNat xs1.length)), .val (.ref b6), .val (.int ((p3 &&& (2147483647 : Int32)) % (Int32.ofNat xs1.length))), .val (.int ((p4 &&& (255 : Int32)).toUInt32.toUInt16.toUInt32.toInt32)), .unset, .unset, .unset] [(.int ((p4 &&& (255 : Int32)).toUInt32.toUInt16.toUInt32.toInt32)), (.int ((p3 &&& (2147483647 : Int32)) % (Int32.ofNat xs1.length))), (.ref b6)])) rfl rfl (hb hby at_160)
      have hrr65 : ∀ c ∈ ([(nar .char z10), (nar .char z15), (nar .char z20), (nar .char z25), (nar .char z30), (nar .char z35), (nar .char z40), (nar .char z45)] : List Int32), ¬ c < 0 ∧ ¬ (255 : Int32) < c := by
        intro c hc
        simp only [List.mem_cons, List.not_mem_nil, or_false] at hc
        rcases hc with rfl | rfl | rfl | rfl | rfl | rfl | rfl | rfl
        · exact (own_narr ⟨hza10, hzb10⟩)
        · exact (own_narr ⟨hza15, hzb15⟩)
        · exact (own_narr ⟨hza20, hzb20⟩)
        · exact (own_narr ⟨hza25, hzb25⟩)
        · exact (own_narr ⟨hza30, hzb30⟩)
        · exact (own_narr ⟨hza35, hzb35⟩)
        · exact (own_narr ⟨hza40, hzb40⟩)
        · exact (own_narr ⟨hza45, hzb45⟩)
      have C8_65 : own_C8 Z h65 b6 := own_C8.set (us := ([(nar .char z10), (nar .char z15), (nar .char z20), (nar .char z25), (nar .char z30), (nar .char z35), (nar .char z40), (nar .char z45)] : List Int32)) Ar65 q65 S65 H65 G65 rfl hrr65 (own_chr p4) hj65 W65
      refine GoW.of st65 ?_
      have hs66 : h46.size ≤ h65.size := Nat.le_of_eq W65.size.symm
      have N65 := Fr.snoc X65 N46 (by omega)
      show GoW _ _ _ _ _ _ _ (T65.setTop (mkF m 161 #[.val (.int p1), .val (.int p2), .val (.int p3), .val (.int p4), .val (.long q5), .second, .val (.int (p1 &&& (7 : Int32))), .val (.ref b1), .val (.int (Int32.ofNat xs1.length)), .val (.ref b6), .val (.int ((p3 &&& (2147483647 : Int32)) % (Int32.ofNat xs1.length))), .val (.int ((p4 &&& (255 : Int32)).toUInt32.toUInt16.toUInt32.toInt32)), .unset, .unset, .unset] []))
      refine GoW.of (fun t k => XS.aload X65.here hx rfl (hb hby at_161) rfl rfl k) ?_
      show GoW _ _ _ _ _ _ _ (T65.setTop (mkF m 163 #[.val (.int p1), .val (.int p2), .val (.int p3), .val (.int p4), .val (.long q5), .second, .val (.int (p1 &&& (7 : Int32))), .val (.ref b1), .val (.int (Int32.ofNat xs1.length)), .val (.ref b6), .val (.int ((p3 &&& (2147483647 : Int32)) % (Int32.ofNat xs1.length))), .val (.int ((p4 &&& (255 : Int32)).toUInt32.toUInt16.toUInt32.toInt32)), .unset, .unset, .unset] [(.ref b6)]))
      refine GoW.of (fun t k => XS.iload X65.here hx rfl (hb hby at_163) rfl k) ?_
      show GoW _ _ _ _ _ _ _ (T65.setTop (mkF m 165 #[.val (.int p1), .val (.int p2), .val (.int p3), .val (.int p4), .val (.long q5), .second, .val (.int (p1 &&& (7 : Int32))), .val (.ref b1), .val (.int (Int32.ofNat xs1.length)), .val (.ref b6), .val (.int ((p3 &&& (2147483647 : Int32)) % (Int32.ofNat xs1.length))), .val (.int ((p4 &&& (255 : Int32)).toUInt32.toUInt16.toUInt32.toInt32)), .unset, .unset, .unset] [(.int (Int32.ofNat xs1.length)), (.ref b6)]))
      have f67 := ((f44.wr W46 (by omega)).wr W65 (by omega))
      obtain ⟨_, _, ⟨T68, L68, k68, n68⟩, -, X68, hS68, hgr68, ⟨Lc68, hQ68, hJ68, l68, y68, z68⟩, st68⟩ := callSS X65 hx (y := (⟨"com/example/clearstep/clearstep/core/EventKindFromWordPinLaw", "make", "([CI)Ljava/lang/String;"⟩ : MethodName)) hown (mvT hZ (own_w hw 52 rfl)) (mvT hZ (own_w hw 53 rfl)) (mvT hZ (own_w hw 3 rfl)) (mvT hZ (own_w hw 54 rfl)) (by decide) (backOfJ (W := 0) (rm10 l Z a0 hw [] b6 (Int32.ofNat xs1.length) cs h65 n0 (by omega) f67 hcw hh0' hh1' hh2' hh3' hh4' hh5' S_cs hcs C8_65) hZ (own_w hw 54 rfl) (own_w hw 3 rfl) (by decide) (by decide)) (g := (mkF m 165 #[.val (.int p1), .val (.int p2), .val (.int p3), .val (.int p4), .val (.long q5), .second, .val (.int (p1 &&& (7 : Int32))), .val (.ref b1), .val (.int (Int32.ofNat xs1.length)), .val (.ref b6), .val (.int ((p3 &&& (2147483647 : Int32)) % (Int32.ofNat xs1.length))), .val (.int ((p4 &&& (255 : Int32)).toUInt32.toUInt16.toUInt32.toInt32)), .unset, .unset, .unset] [(.int (Int32.ofNat xs1.length)), (.ref b6)])) rfl (by rw [hml]; rfl) (argsL := [(.ref b6), (.int (Int32.ofNat xs1.length))]) (rest := []) (lenOf pd_12 rfl) rfl (by show 2 * 0 + _ ≤ _; exact Nat.le_of_eq rfl) (hb hby at_165) (fun _ hw1 => ⟨rfl, e65, own_J.warm (own_J.keep hJ1 (((((((((((Keep.refl T1.heap []).ext E6).wr W11 (Or.inr (by omega))).wr W16 (Or.inr (by omega))).wr W21 (Or.inr (by omega))).wr W26 (Or.inr (by omega))).wr W31 (Or.inr (by omega))).wr W36 (Or.inr (by omega))).wr W41 (Or.inr (by omega))).wr W46 (Or.inr (by omega))).wr W65 (Or.inr (by omega)))) hw1, (by decide : 3 + 4 ≤ _), (by decide : 40 + 20 ≤ _)⟩)
      dsimp only [Pt.U, Pt.locs, Pt.cells, Pt.slots] at X68 l68 y68 z68 st68 hQ68 hS68 hgr68 hJ68
      replace y68 : k68 = 7 := y68.trans (by decide)
      replace z68 : n68 = 60 := z68.trans (by decide)
      subst y68 z68
      obtain ⟨X68, hS', hZ', hown'⟩ := rebS hS (by rw [e65]; omega) X68 hS68 hgr68 hZ hown
      have hk : T68.heap.size ≤ T68.heap.size := Nat.le_refl _
      have hS := hS'
      have hZ := hZ'
      have hown := hown'
      obtain ⟨b68, xs68, rfl, N68q, K68, Sm68⟩ := hQ68
      have N68 : Fr n0 L68 := by rw [l68]; exact Fr.app N65 N68q
      clear l68
      refine GoW.tr st68 ?_
      have hs69 : h65.size ≤ T68.heap.size := K68.1
      show GoW _ _ _ _ _ _ _ (T68.setTop (mkF m 168 #[.val (.int p1), .val (.int p2), .val (.int p3), .val (.int p4), .val (.long q5), .second, .val (.int (p1 &&& (7 : Int32))), .val (.ref b1), .val (.int (Int32.ofNat xs1.length)), .val (.ref b6), .val (.int ((p3 &&& (2147483647 : Int32)) % (Int32.ofNat xs1.length))), .val (.int ((p4 &&& (255 : Int32)).toUInt32.toUInt16.toUInt32.toInt32)), .unset, .unset, .unset] [(.ref b68)]))
      refine GoW.of (fun t k => XS.astore X68.here hx rfl (hb hby at_168) rfl rfl (l' := #[.val (.int p1), .val (.int p2), .val (.int p3), .val (.int p4), .val (.long q5), .second, .val (.int (p1 &&& (7 : Int32))), .val (.ref b1), .val (.int (Int32.ofNat xs1.length)), .val (.ref b6), .val (.int ((p3 &&& (2147483647 : Int32)) % (Int32.ofNat xs1.length))), .val (.int ((p4 &&& (255 : Int32)).toUInt32.toUInt16.toUInt32.toInt32)), .val (.ref b68), .unset, .unset]) rfl k) ?_
      show GoW _ _ _ _ _ _ _ (T68.setTop (mkF m 170 #[.val (.int p1), .val (.int p2), .val (.int p3), .val (.int p4), .val (.long q5), .second, .val (.int (p1 &&& (7 : Int32))), .val (.ref b1), .val (.int (Int32.ofNat xs1.length)), .val (.ref b6), .val (.int ((p3 &&& (2147483647 : Int32)) % (Int32.ofNat xs1.length))), .val (.int ((p4 &&& (255 : Int32)).toUInt32.toUInt16.toUInt32.toInt32)), .val (.ref b68), .unset, .unset] []))
      refine GoW.of (fun t k => XS.goto X68.here hx rfl (pc0 := 170) (pc' := 362) rfl (hb hby at_170) (by decide) (by decide) k) ?_
      show GoW _ _ _ _ _ _ _ (T68.setTop (mkF m 362 #[.val (.int p1), .val (.int p2), .val (.int p3), .val (.int p4), .val (.long q5), .second, .val (.int (p1 &&& (7 : Int32))), .val (.ref b1), .val (.int (Int32.ofNat xs1.length)), .val (.ref b6), .val (.int ((p3 &&& (2147483647 : Int32)) % (Int32.ofNat xs1.length))), .val (.int ((p4 &&& (255 : Int32)).toUInt32.toUInt16.toUInt32.toInt32)), .val (.ref b68), .unset, .unset] []))
      refine GoW.of (fun t k => XS.aload X68.here hx rfl (hb hby at_362) rfl rfl k) ?_
      show GoW _ _ _ _ _ _ _ (T68.setTop (mkF m 364 #[.val (.int p1), .val (.int p2), .val (.int p3), .val (.int p4), .val (.long q5), .second, .val (.int (p1 &&& (7 : Int32))), .val (.ref b1), .val (.int (Int32.ofNat xs1.length)), .val (.ref b6), .val (.int ((p3 &&& (2147483647 : Int32)) % (Int32.ofNat xs1.length))), .val (.int ((p4 &&& (255 : Int32)).toUInt32.toUInt16.toUInt32.toInt32)), .val (.ref b68), .unset, .unset] [(.ref b68)]))
      have f70 := (f67.keep K68 all0)
      obtain ⟨_, _, ⟨T71, L71, k71, n71⟩, -, X71, hS71, hgr71, ⟨Lc71, hQ71, hJ71, l71, y71, z71⟩, st71⟩ := callSS X68 hx (y := (⟨"com/example/clearstep/clearstep/core/EventKindFromWordPinLaw", "expected", "(Ljava/lang/String;)Lcom/example/clearstep/clearstep/core/EventKind;"⟩ : MethodName)) hown (mvT hZ (own_w hw 76 rfl)) (mvT hZ (own_w hw 77 rfl)) (mvT hZ (own_w hw 3 rfl)) (mvT hZ (own_w hw 78 rfl)) (by decide) (backOfJ (W := 0) (rmXS l Z a0 hw [] b68 xs68 cs w0 w1 w2 w3 w4 T68.heap n0 (by omega) f70 hcw hh0' hh1' hh2' hh3' hh4' hh5' S_cs hcs S_k0 S_k1 S_k2 S_k3 S_k4 Sm68) hZ (own_w hw 78 rfl) (own_w hw 3 rfl) (by decide) (by decide)) (g := (mkF m 364 #[.val (.int p1), .val (.int p2), .val (.int p3), .val (.int p4), .val (.long q5), .second, .val (.int (p1 &&& (7 : Int32))), .val (.ref b1), .val (.int (Int32.ofNat xs1.length)), .val (.ref b6), .val (.int ((p3 &&& (2147483647 : Int32)) % (Int32.ofNat xs1.length))), .val (.int ((p4 &&& (255 : Int32)).toUInt32.toUInt16.toUInt32.toInt32)), .val (.ref b68), .unset, .unset] [(.ref b68)])) rfl (by rw [hml]; rfl) (argsL := [(.ref b68)]) (rest := []) (lenOf pd_13 rfl) rfl (by show 2 * 0 + _ ≤ _; exact Nat.le_of_eq rfl) (hb hby at_364) (fun _ hw1 => ⟨rfl, rfl, own_J.warm hJ68 hw1, (by decide : 7 + 10 ≤ _), (by decide : 60 + 136 ≤ _)⟩)
      dsimp only [Pt.U, Pt.locs, Pt.cells, Pt.slots] at X71 l71 y71 z71 st71 hQ71 hS71 hgr71 hJ71
      replace y71 : k71 = 17 := y71.trans (by decide)
      replace z71 : n71 = 196 := z71.trans (by decide)
      subst y71 z71
      obtain ⟨X71, hS', hZ', hown'⟩ := rebS hS hk X71 hS71 hgr71 hZ hown
      have hk : T71.heap.size ≤ T71.heap.size := Nat.le_refl _
      have hS := hS'
      have hZ := hZ'
      have hown := hown'
      obtain ⟨rfl, N71q, K71⟩ := hQ71
      have N71 : Fr n0 L71 := by rw [l71]; exact Fr.app N68 N71q
      clear l71
      refine GoW.tr st71 ?_
      have hs72 : T68.heap.size ≤ T71.heap.size := K71.1
      show GoW _ _ _ _ _ _ _ (T71.setTop (mkF m 367 #[.val (.int p1), .val (.int p2), .val (.int p3), .val (.int p4), .val (.long q5), .second, .val (.int (p1 &&& (7 : Int32))), .val (.ref b1), .val (.int (Int32.ofNat xs1.length)), .val (.ref b6), .val (.int ((p3 &&& (2147483647 : Int32)) % (Int32.ofNat xs1.length))), .val (.int ((p4 &&& (255 : Int32)).toUInt32.toUInt16.toUInt32.toInt32)), .val (.ref b68), .unset, .unset] [(own_ev xs68 w0 w1 w2 w3 w4)]))
      refine GoW.of (fun t k => XS.astore X71.here hx rfl (hb hby at_367) rfl (own_ev_ref xs68 w0 w1 w2 w3 w4) (l' := #[.val (.int p1), .val (.int p2), .val (.int p3), .val (.int p4), .val (.long q5), .second, .val (.int (p1 &&& (7 : Int32))), .val (.ref b1), .val (.int (Int32.ofNat xs1.length)), .val (.ref b6), .val (.int ((p3 &&& (2147483647 : Int32)) % (Int32.ofNat xs1.length))), .val (.int ((p4 &&& (255 : Int32)).toUInt32.toUInt16.toUInt32.toInt32)), .val (.ref b68), .val (own_ev xs68 w0 w1 w2 w3 w4), .unset]) (by rcases ref_cases (own_ev_ref xs68 w0 w1 w2 w3 w4) with h' | ⟨x', h'⟩ <;> (rw [h']; rfl)) k) ?_
      show GoW _ _ _ _ _ _ _ (T71.setTop (mkF m 369 #[.val (.int p1), .val (.int p2), .val (.int p3), .val (.int p4), .val (.long q5), .second, .val (.int (p1 &&& (7 : Int32))), .val (.ref b1), .val (.int (Int32.ofNat xs1.length)), .val (.ref b6), .val (.int ((p3 &&& (2147483647 : Int32)) % (Int32.ofNat xs1.length))), .val (.int ((p4 &&& (255 : Int32)).toUInt32.toUInt16.toUInt32.toInt32)), .val (.ref b68), .val (own_ev xs68 w0 w1 w2 w3 w4), .unset] []))
      refine GoW.of (fun t k => XS.aload X71.here hx rfl (hb hby at_369) rfl rfl k) ?_
      show GoW _ _ _ _ _ _ _ (T71.setTop (mkF m 371 #[.val (.int p1), .val (.int p2), .val (.int p3), .val (.int p4), .val (.long q5), .second, .val (.int (p1 &&& (7 : Int32))), .val (.ref b1), .val (.int (Int32.ofNat xs1.length)), .val (.ref b6), .val (.int ((p3 &&& (2147483647 : Int32)) % (Int32.ofNat xs1.length))), .val (.int ((p4 &&& (255 : Int32)).toUInt32.toUInt16.toUInt32.toInt32)), .val (.ref b68), .val (own_ev xs68 w0 w1 w2 w3 w4), .unset] [(.ref b68)]))
      have f73 := (f70.keep K71 all0)
      have f74 := (Sm68.keep ((Keep.refl T68.heap []).trans K71 all0))
      obtain ⟨_, _, ⟨T75, L75, k75, n75⟩, -, X75, ⟨Lc75, hQ75, l75, y75, z75⟩, st75⟩ := Jvm.LawKit.callS X71 hx (y := (⟨"com/example/clearstep/clearstep/core/EventKind", "fromWord", "(Ljava/lang/String;)Ljava/util/Optional;"⟩ : MethodName)) hown (mvT hZ (own_w hw 94 rfl)) (mvT hZ (own_w hw 95 rfl)) (mvT hZ (own_w hw 92 rfl)) (mvT hZ (own_w hw 96 rfl)) (by decide) (backOf (W := 0) (rmFS l Z a0 hw [] b68 xs68 cs w0 w1 w2 w3 w4 s0 s1 s2 s3 s4 wE wV kv T71.heap n0 (by omega) f73 S_cs hcs F_w0 F_w1 F_w2 F_w3 F_w4 S_w0 S_w1 S_w2 S_w3 S_w4 S_E E_E F_E S_V V_V E_V f74) hZ (own_w hw 96 rfl) (own_w hw 92 rfl) (by decide) (by decide)) (g := (mkF m 371 #[.val (.int p1), .val (.int p2), .val (.int p3), .val (.int p4), .val (.long q5), .second, .val (.int (p1 &&& (7 : Int32))), .val (.ref b1), .val (.int (Int32.ofNat xs1.length)), .val (.ref b6), .val (.int ((p3 &&& (2147483647 : Int32)) % (Int32.ofNat xs1.length))), .val (.int ((p4 &&& (255 : Int32)).toUInt32.toUInt16.toUInt32.toInt32)), .val (.ref b68), .val (own_ev xs68 w0 w1 w2 w3 w4), .unset] [(.ref b68)])) rfl (by rw [hml]; rfl) (argsL := [(.ref b68)]) (rest := []) (lenOf pd_14 rfl) rfl (by show 2 * 0 + _ ≤ _; exact Nat.le_of_eq rfl) (hb hby at_371) (fun _ _ => ⟨rfl, rfl, (by decide : 17 + 2 ≤ _), (by decide : 196 + 6 ≤ _)⟩)
      dsimp only [Pt.U, Pt.locs, Pt.cells, Pt.slots] at X75 l75 y75 z75 st75 hQ75
      replace y75 : k75 = 19 := y75.trans (by decide)
      replace z75 : n75 = 202 := z75.trans (by decide)
      subst y75 z75
      obtain ⟨o75, rfl, N75q, K75, hlt75, Ex75, Fv75⟩ := hQ75
      have N75 : Fr n0 L75 := by rw [l75]; exact Fr.app N71 N75q
      clear l75
      refine GoW.of st75 ?_
      have hs76 : T71.heap.size ≤ T75.heap.size := K75.1
      show GoW _ _ _ _ _ _ _ (T75.setTop (mkF m 374 #[.val (.int p1), .val (.int p2), .val (.int p3), .val (.int p4), .val (.long q5), .second, .val (.int (p1 &&& (7 : Int32))), .val (.ref b1), .val (.int (Int32.ofNat xs1.length)), .val (.ref b6), .val (.int ((p3 &&& (2147483647 : Int32)) % (Int32.ofNat xs1.length))), .val (.int ((p4 &&& (255 : Int32)).toUInt32.toUInt16.toUInt32.toInt32)), .val (.ref b68), .val (own_ev xs68 w0 w1 w2 w3 w4), .unset] [(.ref o75)]))
      refine GoW.of (fun t k => XS.astore X75.here hx rfl (hb hby at_374) rfl rfl (l' := #[.val (.int p1), .val (.int p2), .val (.int p3), .val (.int p4), .val (.long q5), .second, .val (.int (p1 &&& (7 : Int32))), .val (.ref b1), .val (.int (Int32.ofNat xs1.length)), .val (.ref b6), .val (.int ((p3 &&& (2147483647 : Int32)) % (Int32.ofNat xs1.length))), .val (.int ((p4 &&& (255 : Int32)).toUInt32.toUInt16.toUInt32.toInt32)), .val (.ref b68), .val (own_ev xs68 w0 w1 w2 w3 w4), .val (.ref o75)]) rfl k) ?_
      show GoW _ _ _ _ _ _ _ (T75.setTop (mkF m 376 #[.val (.int p1), .val (.int p2), .val (.int p3), .val (.int p4), .val (.long q5), .second, .val (.int (p1 &&& (7 : Int32))), .val (.ref b1), .val (.int (Int32.ofNat xs1.length)), .val (.ref b6), .val (.int ((p3 &&& (2147483647 : Int32)) % (Int32.ofNat xs1.length))), .val (.int ((p4 &&& (255 : Int32)).toUInt32.toUInt16.toUInt32.toInt32)), .val (.ref b68), .val (own_ev xs68 w0 w1 w2 w3 w4), .val (.ref o75)] []))
      refine GoW.of (fun t k => XS.aload X75.here hx rfl (hb hby at_376) rfl rfl k) ?_
      show GoW _ _ _ _ _ _ _ (T75.setTop (mkF m 378 #[.val (.int p1), .val (.int p2), .val (.int p3), .val (.int p4), .val (.long q5), .second, .val (.int (p1 &&& (7 : Int32))), .val (.ref b1), .val (.int (Int32.ofNat xs1.length)), .val (.ref b6), .val (.int ((p3 &&& (2147483647 : Int32)) % (Int32.ofNat xs1.length))), .val (.int ((p4 &&& (255 : Int32)).toUInt32.toUInt16.toUInt32.toInt32)), .val (.ref b68), .val (own_ev xs68 w0 w1 w2 w3 w4), .val (.ref o75)] [(.ref o75)]))
      refine GoW.of (fun t k => XS.ifnonnullYes X75.here hx rfl (pc0 := 378) (pc' := 383) rfl (hb hby at_378) rfl (by decide) (by decide) k) ?_
      show GoW _ _ _ _ _ _ _ (T75.setTop (mkF m 383 #[.val (.int p1), .val (.int p2), .val (.int p3), .val (.int p4), .val (.long q5), .second, .val (.int (p1 &&& (7 : Int32))), .val (.ref b1), .val (.int (Int32.ofNat xs1.length)), .val (.ref b6), .val (.int ((p3 &&& (2147483647 : Int32)) % (Int32.ofNat xs1.length))), .val (.int ((p4 &&& (255 : Int32)).toUInt32.toUInt16.toUInt32.toInt32)), .val (.ref b68), .val (own_ev xs68 w0 w1 w2 w3 w4), .val (.ref o75)] []))
      refine GoW.of (fun t k => XS.aload X75.here hx rfl (hb hby at_383) rfl (own_ev_ref xs68 w0 w1 w2 w3 w4) k) ?_
      show GoW _ _ _ _ _ _ _ (T75.setTop (mkF m 385 #[.val (.int p1), .val (.int p2), .val (.int p3), .val (.int p4), .val (.long q5), .second, .val (.int (p1 &&& (7 : Int32))), .val (.ref b1), .val (.int (Int32.ofNat xs1.length)), .val (.ref b6), .val (.int ((p3 &&& (2147483647 : Int32)) % (Int32.ofNat xs1.length))), .val (.int ((p4 &&& (255 : Int32)).toUInt32.toUInt16.toUInt32.toInt32)), .val (.ref b68), .val (own_ev xs68 w0 w1 w2 w3 w4), .val (.ref o75)] [(own_ev xs68 w0 w1 w2 w3 w4)]))
      rcases ref_cases (own_ev_ref xs68 w0 w1 w2 w3 w4) with hv77 | ⟨xv77, hv77⟩
      · skip
        refine GoW.of (fun t k => XS.ifnonnullNo X75.here hx rfl (hb hby at_385) (congrArg (fun z => (z :: [] : List Value)) hv77) k) ?_
        show GoW _ _ _ _ _ _ _ (T75.setTop (mkF m 388 #[.val (.int p1), .val (.int p2), .val (.int p3), .val (.int p4), .val (.long q5), .second, .val (.int (p1 &&& (7 : Int32))), .val (.ref b1), .val (.int (Int32.ofNat xs1.length)), .val (.ref b6), .val (.int ((p3 &&& (2147483647 : Int32)) % (Int32.ofNat xs1.length))), .val (.int ((p4 &&& (255 : Int32)).toUInt32.toUInt16.toUInt32.toInt32)), .val (.ref b68), .val (own_ev xs68 w0 w1 w2 w3 w4), .val (.ref o75)] []))
        refine GoW.of (fun t k => XS.aload X75.here hx rfl (hb hby at_388) rfl rfl k) ?_
        show GoW _ _ _ _ _ _ _ (T75.setTop (mkF m 390 #[.val (.int p1), .val (.int p2), .val (.int p3), .val (.int p4), .val (.long q5), .second, .val (.int (p1 &&& (7 : Int32))), .val (.ref b1), .val (.int (Int32.ofNat xs1.length)), .val (.ref b6), .val (.int ((p3 &&& (2147483647 : Int32)) % (Int32.ofNat xs1.length))), .val (.int ((p4 &&& (255 : Int32)).toUInt32.toUInt16.toUInt32.toInt32)), .val (.ref b68), .val (own_ev xs68 w0 w1 w2 w3 w4), .val (.ref o75)] [(.ref o75)]))
        obtain ⟨cq78, kq78, q78a, q78b, q78c⟩ := isOf hZ rfl Ex75
        obtain ⟨_, _, ⟨T78, L78, k78, n78⟩, -, X78, ⟨Lc78, hQ78, l78, y78, z78⟩, st78⟩ := X75.virtualBack hx (y := (⟨"java/util/Optional", "isEmpty", "()Z"⟩ : MethodName)) (z := (⟨"java/util/Optional", "isEmpty", "()Z"⟩ : MethodName)) hown (mvT hZ (own_w hw 152 rfl)) (mvT hZ (own_w hw 153 rfl)) (notFace_of_selects (args := #[]) (mvT hZ (own_w hw 155 rfl))) (mvT hZ (own_w hw 155 rfl)) (mvT hZ (own_w hw 154 rfl)) (by decide) (backOf (W := 0) (rm28 l Z a0 hw [] o75 T75.heap n0 (by omega) (by rw [← hv77]; exact Fv75)) hZ (own_w hw 156 rfl) (own_w hw 121 rfl) (by decide) (by decide)) q78a q78c (g := (mkF m 390 #[.val (.int p1), .val (.int p2), .val (.int p3), .val (.int p4), .val (.long q5), .second, .val (.int (p1 &&& (7 : Int32))), .val (.ref b1), .val (.int (Int32.ofNat xs1.length)), .val (.ref b6), .val (.int ((p3 &&& (2147483647 : Int32)) % (Int32.ofNat xs1.length))), .val (.int ((p4 &&& (255 : Int32)).toUInt32.toUInt16.toUInt32.toInt32)), .val (.ref b68), .val (own_ev xs68 w0 w1 w2 w3 w4), .val (.ref o75)] [(.ref o75)])) rfl (by rw [hml]; rfl) (Steps.refl _) (argsL := []) (rest := []) (lenOf pd_15 rfl) rfl (by show 2 * 0 + _ ≤ _; exact Nat.le_of_eq rfl) (hb hby at_390) (fun _ _ => ⟨rfl, rfl, (by decide : 19 + 0 ≤ _), (by decide : 202 + 0 ≤ _)⟩)
        dsimp only [Pt.U, Pt.locs, Pt.cells, Pt.slots] at X78 l78 y78 z78 st78 hQ78
        replace y78 : k78 = 19 := y78.trans (by decide)
        replace z78 : n78 = 202 := z78.trans (by decide)
        subst y78 z78
        obtain ⟨rfl, N78q, e78⟩ := hQ78
        have N78 : Fr n0 L78 := by rw [l78]; exact Fr.app N75 N78q
        clear l78
        refine GoW.tr st78 ?_
        show GoW _ _ _ _ _ _ _ (T78.setTop (mkF m 393 #[.val (.int p1), .val (.int p2), .val (.int p3), .val (.int p4), .val (.long q5), .second, .val (.int (p1 &&& (7 : Int32))), .val (.ref b1), .val (.int (Int32.ofNat xs1.length)), .val (.ref b6), .val (.int ((p3 &&& (2147483647 : Int32)) % (Int32.ofNat xs1.length))), .val (.int ((p4 &&& (255 : Int32)).toUInt32.toUInt16.toUInt32.toInt32)), .val (.ref b68), .val (own_ev xs68 w0 w1 w2 w3 w4), .val (.ref o75)] [(.int (1 : Int32))]))
        refine GoW.out X78 hS (by rw [e78]; omega) (v := some (.int (1 : Int32))) (fun h => by rw [Bd.returns] at h; cases h) hlk (fun fs hr => retN X78 hx (t := .boolean) Bd.returns (by simp) (hb hby at_393) hr) ?_ (by decide) (by decide)
        show Q0 Z p1 p2 p3 p4 q5 cs fm w0 w1 w2 w3 w4 s0 s1 s2 s3 s4 wE wV kv h0 n0 _ T78.heap _
        rw [e78]
        exact ⟨rfl, N78⟩
      · skip
        refine GoW.of (fun t k => XS.ifnonnullYes X75.here hx rfl (pc0 := 385) (pc' := 394) rfl (hb hby at_385) (congrArg (fun z => (z :: [] : List Value)) hv77) (by decide) (by decide) k) ?_
        show GoW _ _ _ _ _ _ _ (T75.setTop (mkF m 394 #[.val (.int p1), .val (.int p2), .val (.int p3), .val (.int p4), .val (.long q5), .second, .val (.int (p1 &&& (7 : Int32))), .val (.ref b1), .val (.int (Int32.ofNat xs1.length)), .val (.ref b6), .val (.int ((p3 &&& (2147483647 : Int32)) % (Int32.ofNat xs1.length))), .val (.int ((p4 &&& (255 : Int32)).toUInt32.toUInt16.toUInt32.toInt32)), .val (.ref b68), .val (own_ev xs68 w0 w1 w2 w3 w4), .val (.ref o75)] []))
        refine GoW.of (fun t k => XS.aload X75.here hx rfl (hb hby at_394) rfl rfl k) ?_
        show GoW _ _ _ _ _ _ _ (T75.setTop (mkF m 396 #[.val (.int p1), .val (.int p2), .val (.int p3), .val (.int p4), .val (.long q5), .second, .val (.int (p1 &&& (7 : Int32))), .val (.ref b1), .val (.int (Int32.ofNat xs1.length)), .val (.ref b6), .val (.int ((p3 &&& (2147483647 : Int32)) % (Int32.ofNat xs1.length))), .val (.int ((p4 &&& (255 : Int32)).toUInt32.toUInt16.toUInt32.toInt32)), .val (.ref b68), .val (own_ev xs68 w0 w1 w2 w3 w4), .val (.ref o75)] [(.ref o75)]))
        obtain ⟨cq79, kq79, q79a, q79b, q79c⟩ := isOf hZ rfl Ex75
        obtain ⟨_, _, ⟨T79, L79, k79, n79⟩, -, X79, ⟨Lc79, hQ79, l79, y79, z79⟩, st79⟩ := X75.virtualBack hx (y := (⟨"java/util/Optional", "isPresent", "()Z"⟩ : MethodName)) (z := (⟨"java/util/Optional", "isPresent", "()Z"⟩ : MethodName)) hown (mvT hZ (own_w hw 136 rfl)) (mvT hZ (own_w hw 137 rfl)) (notFace_of_selects (args := #[]) (mvT hZ (own_w hw 139 rfl))) (mvT hZ (own_w hw 139 rfl)) (mvT hZ (own_w hw 138 rfl)) (by decide) (backOf (W := 0) (rm25 l Z a0 hw [] o75 xv77 T75.heap n0 (by omega) (by rw [← hv77]; exact Fv75)) hZ (own_w hw 140 rfl) (own_w hw 121 rfl) (by decide) (by decide)) q79a q79c (g := (mkF m 396 #[.val (.int p1), .val (.int p2), .val (.int p3), .val (.int p4), .val (.long q5), .second, .val (.int (p1 &&& (7 : Int32))), .val (.ref b1), .val (.int (Int32.ofNat xs1.length)), .val (.ref b6), .val (.int ((p3 &&& (2147483647 : Int32)) % (Int32.ofNat xs1.length))), .val (.int ((p4 &&& (255 : Int32)).toUInt32.toUInt16.toUInt32.toInt32)), .val (.ref b68), .val (own_ev xs68 w0 w1 w2 w3 w4), .val (.ref o75)] [(.ref o75)])) rfl (by rw [hml]; rfl) (Steps.refl _) (argsL := []) (rest := []) (lenOf pd_15 rfl) rfl (by show 2 * 0 + _ ≤ _; exact Nat.le_of_eq rfl) (hb hby at_396) (fun _ _ => ⟨rfl, rfl, (by decide : 19 + 0 ≤ _), (by decide : 202 + 0 ≤ _)⟩)
        dsimp only [Pt.U, Pt.locs, Pt.cells, Pt.slots] at X79 l79 y79 z79 st79 hQ79
        replace y79 : k79 = 19 := y79.trans (by decide)
        replace z79 : n79 = 202 := z79.trans (by decide)
        subst y79 z79
        obtain ⟨rfl, N79q, e79⟩ := hQ79
        have N79 : Fr n0 L79 := by rw [l79]; exact Fr.app N75 N79q
        clear l79
        refine GoW.tr st79 ?_
        show GoW _ _ _ _ _ _ _ (T79.setTop (mkF m 399 #[.val (.int p1), .val (.int p2), .val (.int p3), .val (.int p4), .val (.long q5), .second, .val (.int (p1 &&& (7 : Int32))), .val (.ref b1), .val (.int (Int32.ofNat xs1.length)), .val (.ref b6), .val (.int ((p3 &&& (2147483647 : Int32)) % (Int32.ofNat xs1.length))), .val (.int ((p4 &&& (255 : Int32)).toUInt32.toUInt16.toUInt32.toInt32)), .val (.ref b68), .val (own_ev xs68 w0 w1 w2 w3 w4), .val (.ref o75)] [(.int (1 : Int32))]))
        refine GoW.of (fun t k => XS.ifNo X79.here hx rfl (hb hby at_399) rfl ((if0 _ _).trans (feq (by decide : ¬ ((1 : Int32) = (0 : Int32)))).1) k) ?_
        show GoW _ _ _ _ _ _ _ (T79.setTop (mkF m 402 #[.val (.int p1), .val (.int p2), .val (.int p3), .val (.int p4), .val (.long q5), .second, .val (.int (p1 &&& (7 : Int32))), .val (.ref b1), .val (.int (Int32.ofNat xs1.length)), .val (.ref b6), .val (.int ((p3 &&& (2147483647 : Int32)) % (Int32.ofNat xs1.length))), .val (.int ((p4 &&& (255 : Int32)).toUInt32.toUInt16.toUInt32.toInt32)), .val (.ref b68), .val (own_ev xs68 w0 w1 w2 w3 w4), .val (.ref o75)] []))
        refine GoW.of (fun t k => XS.aload X79.here hx rfl (hb hby at_402) rfl rfl k) ?_
        show GoW _ _ _ _ _ _ _ (T79.setTop (mkF m 404 #[.val (.int p1), .val (.int p2), .val (.int p3), .val (.int p4), .val (.long q5), .second, .val (.int (p1 &&& (7 : Int32))), .val (.ref b1), .val (.int (Int32.ofNat xs1.length)), .val (.ref b6), .val (.int ((p3 &&& (2147483647 : Int32)) % (Int32.ofNat xs1.length))), .val (.int ((p4 &&& (255 : Int32)).toUInt32.toUInt16.toUInt32.toInt32)), .val (.ref b68), .val (own_ev xs68 w0 w1 w2 w3 w4), .val (.ref o75)] [(.ref o75)]))
        obtain ⟨cq80, kq80, q80a, q80b, q80c⟩ := isOf hZ e79 Ex75
        obtain ⟨_, _, ⟨T80, L80, k80, n80⟩, -, X80, ⟨Lc80, hQ80, l80, y80, z80⟩, st80⟩ := X79.virtualBack hx (y := (⟨"java/util/Optional", "get", "()Ljava/lang/Object;"⟩ : MethodName)) (z := (⟨"java/util/Optional", "get", "()Ljava/lang/Object;"⟩ : MethodName)) hown (mvT hZ (own_w hw 141 rfl)) (mvT hZ (own_w hw 142 rfl)) (notFace_of_selects (args := #[]) (mvT hZ (own_w hw 144 rfl))) (mvT hZ (own_w hw 144 rfl)) (mvT hZ (own_w hw 143 rfl)) (by decide) (backOf (W := 0) (rm26 l Z a0 hw [] o75 xv77 T75.heap n0 (by omega) (by rw [← hv77]; exact Fv75)) hZ (own_w hw 145 rfl) (own_w hw 121 rfl) (by decide) (by decide)) q80a q80c (g := (mkF m 404 #[.val (.int p1), .val (.int p2), .val (.int p3), .val (.int p4), .val (.long q5), .second, .val (.int (p1 &&& (7 : Int32))), .val (.ref b1), .val (.int (Int32.ofNat xs1.length)), .val (.ref b6), .val (.int ((p3 &&& (2147483647 : Int32)) % (Int32.ofNat xs1.length))), .val (.int ((p4 &&& (255 : Int32)).toUInt32.toUInt16.toUInt32.toInt32)), .val (.ref b68), .val (own_ev xs68 w0 w1 w2 w3 w4), .val (.ref o75)] [(.ref o75)])) rfl (by rw [hml]; rfl) (Steps.refl _) (argsL := []) (rest := []) (lenOf pd_16 rfl) rfl (by show 2 * 0 + _ ≤ _; exact Nat.le_of_eq rfl) (hb hby at_404) (fun _ _ => ⟨rfl, e79, (by decide : 19 + 0 ≤ _), (by decide : 202 + 0 ≤ _)⟩)
        dsimp only [Pt.U, Pt.locs, Pt.cells, Pt.slots] at X80 l80 y80 z80 st80 hQ80
        replace y80 : k80 = 19 := y80.trans (by decide)
        replace z80 : n80 = 202 := z80.trans (by decide)
        subst y80 z80
        obtain ⟨rfl, N80q, e80⟩ := hQ80
        have N80 : Fr n0 L80 := by rw [l80]; exact Fr.app N79 N80q
        clear l80
        refine GoW.tr st80 ?_
        show GoW _ _ _ _ _ _ _ (T80.setTop (mkF m 407 #[.val (.int p1), .val (.int p2), .val (.int p3), .val (.int p4), .val (.long q5), .second, .val (.int (p1 &&& (7 : Int32))), .val (.ref b1), .val (.int (Int32.ofNat xs1.length)), .val (.ref b6), .val (.int ((p3 &&& (2147483647 : Int32)) % (Int32.ofNat xs1.length))), .val (.int ((p4 &&& (255 : Int32)).toUInt32.toUInt16.toUInt32.toInt32)), .val (.ref b68), .val (own_ev xs68 w0 w1 w2 w3 w4), .val (.ref o75)] [(.ref xv77)]))
        refine GoW.of (fun t k => XS.aload X80.here hx rfl (hb hby at_407) rfl (own_ev_ref xs68 w0 w1 w2 w3 w4) k) ?_
        show GoW _ _ _ _ _ _ _ (T80.setTop (mkF m 409 #[.val (.int p1), .val (.int p2), .val (.int p3), .val (.int p4), .val (.long q5), .second, .val (.int (p1 &&& (7 : Int32))), .val (.ref b1), .val (.int (Int32.ofNat xs1.length)), .val (.ref b6), .val (.int ((p3 &&& (2147483647 : Int32)) % (Int32.ofNat xs1.length))), .val (.int ((p4 &&& (255 : Int32)).toUInt32.toUInt16.toUInt32.toInt32)), .val (.ref b68), .val (own_ev xs68 w0 w1 w2 w3 w4), .val (.ref o75)] [(own_ev xs68 w0 w1 w2 w3 w4), (.ref xv77)]))
        refine GoW.of (fun t k => Jvm.RoadKit.acmp (g := (mkF m 409 #[.val (.int p1), .val (.int p2), .val (.int p3), .val (.int p4), .val (.long q5), .second, .val (.int (p1 &&& (7 : Int32))), .val (.ref b1), .val (.int (Int32.ofNat xs1.length)), .val (.ref b6), .val (.int ((p3 &&& (2147483647 : Int32)) % (Int32.ofNat xs1.length))), .val (.int ((p4 &&& (255 : Int32)).toUInt32.toUInt16.toUInt32.toInt32)), .val (.ref b68), .val (own_ev xs68 w0 w1 w2 w3 w4), .val (.ref o75)] [(own_ev xs68 w0 w1 w2 w3 w4), (.ref xv77)])) X80 hx rfl rfl (own_ev_ref xs68 w0 w1 w2 w3 w4) (pc0 := 409) (pc' := 412) (same := true) rfl (hb hby at_409) rfl (decide_eq_true hv77.symm) (by decide) (by decide) k) ?_
        show GoW _ _ _ _ _ _ _ (T80.setTop (mkF m 412 #[.val (.int p1), .val (.int p2), .val (.int p3), .val (.int p4), .val (.long q5), .second, .val (.int (p1 &&& (7 : Int32))), .val (.ref b1), .val (.int (Int32.ofNat xs1.length)), .val (.ref b6), .val (.int ((p3 &&& (2147483647 : Int32)) % (Int32.ofNat xs1.length))), .val (.int ((p4 &&& (255 : Int32)).toUInt32.toUInt16.toUInt32.toInt32)), .val (.ref b68), .val (own_ev xs68 w0 w1 w2 w3 w4), .val (.ref o75)] []))
        refine GoW.of (fun t k => XS.iconst X80.here hx rfl (hb hby at_412) k) ?_
        show GoW _ _ _ _ _ _ _ (T80.setTop (mkF m 413 #[.val (.int p1), .val (.int p2), .val (.int p3), .val (.int p4), .val (.long q5), .second, .val (.int (p1 &&& (7 : Int32))), .val (.ref b1), .val (.int (Int32.ofNat xs1.length)), .val (.ref b6), .val (.int ((p3 &&& (2147483647 : Int32)) % (Int32.ofNat xs1.length))), .val (.int ((p4 &&& (255 : Int32)).toUInt32.toUInt16.toUInt32.toInt32)), .val (.ref b68), .val (own_ev xs68 w0 w1 w2 w3 w4), .val (.ref o75)] [(.int (1 : Int32))]))
        refine GoW.of (fun t k => XS.goto X80.here hx rfl (pc0 := 413) (pc' := 417) rfl (hb hby at_413) (by decide) (by decide) k) ?_
        show GoW _ _ _ _ _ _ _ (T80.setTop (mkF m 417 #[.val (.int p1), .val (.int p2), .val (.int p3), .val (.int p4), .val (.long q5), .second, .val (.int (p1 &&& (7 : Int32))), .val (.ref b1), .val (.int (Int32.ofNat xs1.length)), .val (.ref b6), .val (.int ((p3 &&& (2147483647 : Int32)) % (Int32.ofNat xs1.length))), .val (.int ((p4 &&& (255 : Int32)).toUInt32.toUInt16.toUInt32.toInt32)), .val (.ref b68), .val (own_ev xs68 w0 w1 w2 w3 w4), .val (.ref o75)] [(.int (1 : Int32))]))
        refine GoW.out X80 hS (by rw [e80]; omega) (v := some (.int (1 : Int32))) (fun h => by rw [Bd.returns] at h; cases h) hlk (fun fs hr => retN X80 hx (t := .boolean) Bd.returns (by simp) (hb hby at_417) hr) ?_ (by decide) (by decide)
        show Q0 Z p1 p2 p3 p4 q5 cs fm w0 w1 w2 w3 w4 s0 s1 s2 s3 s4 wE wV kv h0 n0 _ T80.heap _
        rw [e80]
        exact ⟨rfl, N80⟩
    · skip
      refine GoW.of (fun t k => XS.icmpYes X46.here hx rfl (pc0 := 151) (pc' := 173) rfl (hb hby at_151) rfl (feq hc151_64).2 (by decide) (by decide) k) ?_
      show GoW _ _ _ _ _ _ _ (T46.setTop (mkF m 173 #[.val (.int p1), .val (.int p2), .val (.int p3), .val (.int p4), .val (.long q5), .second, .val (.int (p1 &&& (7 : Int32))), .val (.ref b1), .val (.int (Int32.ofNat xs1.length)), .val (.ref b6), .val (.int ((p3 &&& (2147483647 : Int32)) % (Int32.ofNat xs1.length))), .val (.int ((p4 &&& (255 : Int32)).toUInt32.toUInt16.toUInt32.toInt32)), .unset, .unset, .unset] []))
      refine GoW.of (fun t k => XS.iload X46.here hx rfl (hb hby at_173) rfl k) ?_
      show GoW _ _ _ _ _ _ _ (T46.setTop (mkF m 175 #[.val (.int p1), .val (.int p2), .val (.int p3), .val (.int p4), .val (.long q5), .second, .val (.int (p1 &&& (7 : Int32))), .val (.ref b1), .val (.int (Int32.ofNat xs1.length)), .val (.ref b6), .val (.int ((p3 &&& (2147483647 : Int32)) % (Int32.ofNat xs1.length))), .val (.int ((p4 &&& (255 : Int32)).toUInt32.toUInt16.toUInt32.toInt32)), .unset, .unset, .unset] [(.int (p1 &&& (7 : Int32)))]))
      refine GoW.of (fun t k => XS.iconst X46.here hx rfl (hb hby at_175) k) ?_
      show GoW _ _ _ _ _ _ _ (T46.setTop (mkF m 176 #[.val (.int p1), .val (.int p2), .val (.int p3), .val (.int p4), .val (.long q5), .second, .val (.int (p1 &&& (7 : Int32))), .val (.ref b1), .val (.int (Int32.ofNat xs1.length)), .val (.ref b6), .val (.int ((p3 &&& (2147483647 : Int32)) % (Int32.ofNat xs1.length))), .val (.int ((p4 &&& (255 : Int32)).toUInt32.toUInt16.toUInt32.toInt32)), .unset, .unset, .unset] [(.int (2 : Int32)), (.int (p1 &&& (7 : Int32)))]))
      by_cases hc176_81 : (p1 &&& (7 : Int32)) = (2 : Int32)
      · skip
        refine GoW.of (fun t k => XS.icmpNo X46.here hx rfl (hb hby at_176) rfl (teq hc176_81).2 k) ?_
        show GoW _ _ _ _ _ _ _ (T46.setTop (mkF m 179 #[.val (.int p1), .val (.int p2), .val (.int p3), .val (.int p4), .val (.long q5), .second, .val (.int (p1 &&& (7 : Int32))), .val (.ref b1), .val (.int (Int32.ofNat xs1.length)), .val (.ref b6), .val (.int ((p3 &&& (2147483647 : Int32)) % (Int32.ofNat xs1.length))), .val (.int ((p4 &&& (255 : Int32)).toUInt32.toUInt16.toUInt32.toInt32)), .unset, .unset, .unset] []))
        refine GoW.of (fun t k => XS.aload X46.here hx rfl (hb hby at_179) rfl rfl k) ?_
        show GoW _ _ _ _ _ _ _ (T46.setTop (mkF m 181 #[.val (.int p1), .val (.int p2), .val (.int p3), .val (.int p4), .val (.long q5), .second, .val (.int (p1 &&& (7 : Int32))), .val (.ref b1), .val (.int (Int32.ofNat xs1.length)), .val (.ref b6), .val (.int ((p3 &&& (2147483647 : Int32)) % (Int32.ofNat xs1.length))), .val (.int ((p4 &&& (255 : Int32)).toUInt32.toUInt16.toUInt32.toInt32)), .unset, .unset, .unset] [(.ref b6)]))
        refine GoW.of (fun t k => XS.iload X46.here hx rfl (hb hby at_181) rfl k) ?_
        show GoW _ _ _ _ _ _ _ (T46.setTop (mkF m 183 #[.val (.int p1), .val (.int p2), .val (.int p3), .val (.int p4), .val (.long q5), .second, .val (.int (p1 &&& (7 : Int32))), .val (.ref b1), .val (.int (Int32.ofNat xs1.length)), .val (.ref b6), .val (.int ((p3 &&& (2147483647 : Int32)) % (Int32.ofNat xs1.length))), .val (.int ((p4 &&& (255 : Int32)).toUInt32.toUInt16.toUInt32.toInt32)), .unset, .unset, .unset] [(.int ((p3 &&& (2147483647 : Int32)) % (Int32.ofNat xs1.length))), (.ref b6)]))
        have C8_82 : own_C8 Z h46 b6 := by
          refine ⟨_, _, _, _, _, _, _, _, _, V46, ?_⟩
          intro c hc
          simp only [List.mem_cons, List.not_mem_nil, or_false] at hc
          rcases hc with rfl | rfl | rfl | rfl | rfl | rfl | rfl | rfl
          · exact (own_narr ⟨hza10, hzb10⟩)
          · exact (own_narr ⟨hza15, hzb15⟩)
          · exact (own_narr ⟨hza20, hzb20⟩)
          · exact (own_narr ⟨hza25, hzb25⟩)
          · exact (own_narr ⟨hza30, hzb30⟩)
          · exact (own_narr ⟨hza35, hzb35⟩)
          · exact (own_narr ⟨hza40, hzb40⟩)
          · exact (own_narr ⟨hza45, hzb45⟩)
        have f83 := (f44.wr W46 (by omega))
        obtain ⟨_, _, ⟨T84, L84, k84, n84⟩, -, X84, hS84, hgr84, ⟨Lc84, hQ84, hJ84, l84, y84, z84⟩, st84⟩ := callSS X46 hx (y := (⟨"com/example/clearstep/clearstep/core/EventKindFromWordPinLaw", "make", "([CI)Ljava/lang/String;"⟩ : MethodName)) hown (mvT hZ (own_w hw 52 rfl)) (mvT hZ (own_w hw 53 rfl)) (mvT hZ (own_w hw 3 rfl)) (mvT hZ (own_w hw 54 rfl)) (by decide) (backOfJ (W := 0) (rm10 l Z a0 hw [] b6 ((p3 &&& (2147483647 : Int32)) % (Int32.ofNat xs1.length)) cs h46 n0 (by omega) f83 hcw hh0' hh1' hh2' hh3' hh4' hh5' S_cs hcs C8_82) hZ (own_w hw 54 rfl) (own_w hw 3 rfl) (by decide) (by decide)) (g := (mkF m 183 #[.val (.int p1), .val (.int p2), .val (.int p3), .val (.int p4), .val (.long q5), .second, .val (.int (p1 &&& (7 : Int32))), .val (.ref b1), .val (.int (Int32.ofNat xs1.length)), .val (.ref b6), .val (.int ((p3 &&& (2147483647 : Int32)) % (Int32.ofNat xs1.length))), .val (.int ((p4 &&& (255 : Int32)).toUInt32.toUInt16.toUInt32.toInt32)), .unset, .unset, .unset] [(.int ((p3 &&& (2147483647 : Int32)) % (Int32.ofNat xs1.length))), (.ref b6)])) rfl (by rw [hml]; rfl) (argsL := [(.ref b6), (.int ((p3 &&& (2147483647 : Int32)) % (Int32.ofNat xs1.length)))]) (rest := []) (lenOf pd_12 rfl) rfl (by show 2 * 0 + _ ≤ _; exact Nat.le_of_eq rfl) (hb hby at_183) (fun _ hw1 => ⟨rfl, e46, own_J.warm (own_J.keep hJ1 ((((((((((Keep.refl T1.heap []).ext E6).wr W11 (Or.inr (by omega))).wr W16 (Or.inr (by omega))).wr W21 (Or.inr (by omega))).wr W26 (Or.inr (by omega))).wr W31 (Or.inr (by omega))).wr W36 (Or.inr (by omega))).wr W41 (Or.inr (by omega))).wr W46 (Or.inr (by omega)))) hw1, (by decide : 3 + 4 ≤ _), (by decide : 40 + 20 ≤ _)⟩)
        dsimp only [Pt.U, Pt.locs, Pt.cells, Pt.slots] at X84 l84 y84 z84 st84 hQ84 hS84 hgr84 hJ84
        replace y84 : k84 = 7 := y84.trans (by decide)
        replace z84 : n84 = 60 := z84.trans (by decide)
        subst y84 z84
        obtain ⟨X84, hS', hZ', hown'⟩ := rebS hS (by rw [e46]; omega) X84 hS84 hgr84 hZ hown
        have hk : T84.heap.size ≤ T84.heap.size := Nat.le_refl _
        have hS := hS'
        have hZ := hZ'
        have hown := hown'
        obtain ⟨b84, xs84, rfl, N84q, K84, Sm84⟩ := hQ84
        have N84 : Fr n0 L84 := by rw [l84]; exact Fr.app N46 N84q
        clear l84
        refine GoW.tr st84 ?_
        have hs85 : h46.size ≤ T84.heap.size := K84.1
        show GoW _ _ _ _ _ _ _ (T84.setTop (mkF m 186 #[.val (.int p1), .val (.int p2), .val (.int p3), .val (.int p4), .val (.long q5), .second, .val (.int (p1 &&& (7 : Int32))), .val (.ref b1), .val (.int (Int32.ofNat xs1.length)), .val (.ref b6), .val (.int ((p3 &&& (2147483647 : Int32)) % (Int32.ofNat xs1.length))), .val (.int ((p4 &&& (255 : Int32)).toUInt32.toUInt16.toUInt32.toInt32)), .unset, .unset, .unset] [(.ref b84)]))
        refine GoW.of (fun t k => XS.astore X84.here hx rfl (hb hby at_186) rfl rfl (l' := #[.val (.int p1), .val (.int p2), .val (.int p3), .val (.int p4), .val (.long q5), .second, .val (.int (p1 &&& (7 : Int32))), .val (.ref b1), .val (.int (Int32.ofNat xs1.length)), .val (.ref b6), .val (.int ((p3 &&& (2147483647 : Int32)) % (Int32.ofNat xs1.length))), .val (.int ((p4 &&& (255 : Int32)).toUInt32.toUInt16.toUInt32.toInt32)), .val (.ref b84), .unset, .unset]) rfl k) ?_
        show GoW _ _ _ _ _ _ _ (T84.setTop (mkF m 188 #[.val (.int p1), .val (.int p2), .val (.int p3), .val (.int p4), .val (.long q5), .second, .val (.int (p1 &&& (7 : Int32))), .val (.ref b1), .val (.int (Int32.ofNat xs1.length)), .val (.ref b6), .val (.int ((p3 &&& (2147483647 : Int32)) % (Int32.ofNat xs1.length))), .val (.int ((p4 &&& (255 : Int32)).toUInt32.toUInt16.toUInt32.toInt32)), .val (.ref b84), .unset, .unset] []))
        refine GoW.of (fun t k => XS.goto X84.here hx rfl (pc0 := 188) (pc' := 362) rfl (hb hby at_188) (by decide) (by decide) k) ?_
        show GoW _ _ _ _ _ _ _ (T84.setTop (mkF m 362 #[.val (.int p1), .val (.int p2), .val (.int p3), .val (.int p4), .val (.long q5), .second, .val (.int (p1 &&& (7 : Int32))), .val (.ref b1), .val (.int (Int32.ofNat xs1.length)), .val (.ref b6), .val (.int ((p3 &&& (2147483647 : Int32)) % (Int32.ofNat xs1.length))), .val (.int ((p4 &&& (255 : Int32)).toUInt32.toUInt16.toUInt32.toInt32)), .val (.ref b84), .unset, .unset] []))
        refine GoW.of (fun t k => XS.aload X84.here hx rfl (hb hby at_362) rfl rfl k) ?_
        show GoW _ _ _ _ _ _ _ (T84.setTop (mkF m 364 #[.val (.int p1), .val (.int p2), .val (.int p3), .val (.int p4), .val (.long q5), .second, .val (.int (p1 &&& (7 : Int32))), .val (.ref b1), .val (.int (Int32.ofNat xs1.length)), .val (.ref b6), .val (.int ((p3 &&& (2147483647 : Int32)) % (Int32.ofNat xs1.length))), .val (.int ((p4 &&& (255 : Int32)).toUInt32.toUInt16.toUInt32.toInt32)), .val (.ref b84), .unset, .unset] [(.ref b84)]))
        have f86 := (f83.keep K84 all0)
        obtain ⟨_, _, ⟨T87, L87, k87, n87⟩, -, X87, hS87, hgr87, ⟨Lc87, hQ87, hJ87, l87, y87, z87⟩, st87⟩ := callSS X84 hx (y := (⟨"com/example/clearstep/clearstep/core/EventKindFromWordPinLaw", "expected", "(Ljava/lang/String;)Lcom/example/clearstep/clearstep/core/EventKind;"⟩ : MethodName)) hown (mvT hZ (own_w hw 76 rfl)) (mvT hZ (own_w hw 77 rfl)) (mvT hZ (own_w hw 3 rfl)) (mvT hZ (own_w hw 78 rfl)) (by decide) (backOfJ (W := 0) (rmXS l Z a0 hw [] b84 xs84 cs w0 w1 w2 w3 w4 T84.heap n0 (by omega) f86 hcw hh0' hh1' hh2' hh3' hh4' hh5' S_cs hcs S_k0 S_k1 S_k2 S_k3 S_k4 Sm84) hZ (own_w hw 78 rfl) (own_w hw 3 rfl) (by decide) (by decide)) (g := (mkF m 364 #[.val (.int p1), .val (.int p2), .val (.int p3), .val (.int p4), .val (.long q5), .second, .val (.int (p1 &&& (7 : Int32))), .val (.ref b1), .val (.int (Int32.ofNat xs1.length)), .val (.ref b6), .val (.int ((p3 &&& (2147483647 : Int32)) % (Int32.ofNat xs1.length))), .val (.int ((p4 &&& (255 : Int32)).toUInt32.toUInt16.toUInt32.toInt32)), .val (.ref b84), .unset, .unset] [(.ref b84)])) rfl (by rw [hml]; rfl) (argsL := [(.ref b84)]) (rest := []) (lenOf pd_13 rfl) rfl (by show 2 * 0 + _ ≤ _; exact Nat.le_of_eq rfl) (hb hby at_364) (fun _ hw1 => ⟨rfl, rfl, own_J.warm hJ84 hw1, (by decide : 7 + 10 ≤ _), (by decide : 60 + 136 ≤ _)⟩)
        dsimp only [Pt.U, Pt.locs, Pt.cells, Pt.slots] at X87 l87 y87 z87 st87 hQ87 hS87 hgr87 hJ87
        replace y87 : k87 = 17 := y87.trans (by decide)
        replace z87 : n87 = 196 := z87.trans (by decide)
        subst y87 z87
        obtain ⟨X87, hS', hZ', hown'⟩ := rebS hS hk X87 hS87 hgr87 hZ hown
        have hk : T87.heap.size ≤ T87.heap.size := Nat.le_refl _
        have hS := hS'
        have hZ := hZ'
        have hown := hown'
        obtain ⟨rfl, N87q, K87⟩ := hQ87
        have N87 : Fr n0 L87 := by rw [l87]; exact Fr.app N84 N87q
        clear l87
        refine GoW.tr st87 ?_
        have hs88 : T84.heap.size ≤ T87.heap.size := K87.1
        show GoW _ _ _ _ _ _ _ (T87.setTop (mkF m 367 #[.val (.int p1), .val (.int p2), .val (.int p3), .val (.int p4), .val (.long q5), .second, .val (.int (p1 &&& (7 : Int32))), .val (.ref b1), .val (.int (Int32.ofNat xs1.length)), .val (.ref b6), .val (.int ((p3 &&& (2147483647 : Int32)) % (Int32.ofNat xs1.length))), .val (.int ((p4 &&& (255 : Int32)).toUInt32.toUInt16.toUInt32.toInt32)), .val (.ref b84), .unset, .unset] [(own_ev xs84 w0 w1 w2 w3 w4)]))
        refine GoW.of (fun t k => XS.astore X87.here hx rfl (hb hby at_367) rfl (own_ev_ref xs84 w0 w1 w2 w3 w4) (l' := #[.val (.int p1), .val (.int p2), .val (.int p3), .val (.int p4), .val (.long q5), .second, .val (.int (p1 &&& (7 : Int32))), .val (.ref b1), .val (.int (Int32.ofNat xs1.length)), .val (.ref b6), .val (.int ((p3 &&& (2147483647 : Int32)) % (Int32.ofNat xs1.length))), .val (.int ((p4 &&& (255 : Int32)).toUInt32.toUInt16.toUInt32.toInt32)), .val (.ref b84), .val (own_ev xs84 w0 w1 w2 w3 w4), .unset]) (by rcases ref_cases (own_ev_ref xs84 w0 w1 w2 w3 w4) with h' | ⟨x', h'⟩ <;> (rw [h']; rfl)) k) ?_
        show GoW _ _ _ _ _ _ _ (T87.setTop (mkF m 369 #[.val (.int p1), .val (.int p2), .val (.int p3), .val (.int p4), .val (.long q5), .second, .val (.int (p1 &&& (7 : Int32))), .val (.ref b1), .val (.int (Int32.ofNat xs1.length)), .val (.ref b6), .val (.int ((p3 &&& (2147483647 : Int32)) % (Int32.ofNat xs1.length))), .val (.int ((p4 &&& (255 : Int32)).toUInt32.toUInt16.toUInt32.toInt32)), .val (.ref b84), .val (own_ev xs84 w0 w1 w2 w3 w4), .unset] []))
        refine GoW.of (fun t k => XS.aload X87.here hx rfl (hb hby at_369) rfl rfl k) ?_
        show GoW _ _ _ _ _ _ _ (T87.setTop (mkF m 371 #[.val (.int p1), .val (.int p2), .val (.int p3), .val (.int p4), .val (.long q5), .second, .val (.int (p1 &&& (7 : Int32))), .val (.ref b1), .val (.int (Int32.ofNat xs1.length)), .val (.ref b6), .val (.int ((p3 &&& (2147483647 : Int32)) % (Int32.ofNat xs1.length))), .val (.int ((p4 &&& (255 : Int32)).toUInt32.toUInt16.toUInt32.toInt32)), .val (.ref b84), .val (own_ev xs84 w0 w1 w2 w3 w4), .unset] [(.ref b84)]))
        have f89 := (f86.keep K87 all0)
        have f90 := (Sm84.keep ((Keep.refl T84.heap []).trans K87 all0))
        obtain ⟨_, _, ⟨T91, L91, k91, n91⟩, -, X91, ⟨Lc91, hQ91, l91, y91, z91⟩, st91⟩ := Jvm.LawKit.callS X87 hx (y := (⟨"com/example/clearstep/clearstep/core/EventKind", "fromWord", "(Ljava/lang/String;)Ljava/util/Optional;"⟩ : MethodName)) hown (mvT hZ (own_w hw 94 rfl)) (mvT hZ (own_w hw 95 rfl)) (mvT hZ (own_w hw 92 rfl)) (mvT hZ (own_w hw 96 rfl)) (by decide) (backOf (W := 0) (rmFS l Z a0 hw [] b84 xs84 cs w0 w1 w2 w3 w4 s0 s1 s2 s3 s4 wE wV kv T87.heap n0 (by omega) f89 S_cs hcs F_w0 F_w1 F_w2 F_w3 F_w4 S_w0 S_w1 S_w2 S_w3 S_w4 S_E E_E F_E S_V V_V E_V f90) hZ (own_w hw 96 rfl) (own_w hw 92 rfl) (by decide) (by decide)) (g := (mkF m 371 #[.val (.int p1), .val (.int p2), .val (.int p3), .val (.int p4), .val (.long q5), .second, .val (.int (p1 &&& (7 : Int32))), .val (.ref b1), .val (.int (Int32.ofNat xs1.length)), .val (.ref b6), .val (.int ((p3 &&& (2147483647 : Int32)) % (Int32.ofNat xs1.length))), .val (.int ((p4 &&& (255 : Int32)).toUInt32.toUInt16.toUInt32.toInt32)), .val (.ref b84), .val (own_ev xs84 w0 w1 w2 w3 w4), .unset] [(.ref b84)])) rfl (by rw [hml]; rfl) (argsL := [(.ref b84)]) (rest := []) (lenOf pd_14 rfl) rfl (by show 2 * 0 + _ ≤ _; exact Nat.le_of_eq rfl) (hb hby at_371) (fun _ _ => ⟨rfl, rfl, (by decide : 17 + 2 ≤ _), (by decide : 196 + 6 ≤ _)⟩)
        dsimp only [Pt.U, Pt.locs, Pt.cells, Pt.slots] at X91 l91 y91 z91 st91 hQ91
        replace y91 : k91 = 19 := y91.trans (by decide)
        replace z91 : n91 = 202 := z91.trans (by decide)
        subst y91 z91
        obtain ⟨o91, rfl, N91q, K91, hlt91, Ex91, Fv91⟩ := hQ91
        have N91 : Fr n0 L91 := by rw [l91]; exact Fr.app N87 N91q
        clear l91
        refine GoW.of st91 ?_
        have hs92 : T87.heap.size ≤ T91.heap.size := K91.1
        show GoW _ _ _ _ _ _ _ (T91.setTop (mkF m 374 #[.val (.int p1), .val (.int p2), .val (.int p3), .val (.int p4), .val (.long q5), .second, .val (.int (p1 &&& (7 : Int32))), .val (.ref b1), .val (.int (Int32.ofNat xs1.length)), .val (.ref b6), .val (.int ((p3 &&& (2147483647 : Int32)) % (Int32.ofNat xs1.length))), .val (.int ((p4 &&& (255 : Int32)).toUInt32.toUInt16.toUInt32.toInt32)), .val (.ref b84), .val (own_ev xs84 w0 w1 w2 w3 w4), .unset] [(.ref o91)]))
        refine GoW.of (fun t k => XS.astore X91.here hx rfl (hb hby at_374) rfl rfl (l' := #[.val (.int p1), .val (.int p2), .val (.int p3), .val (.int p4), .val (.long q5), .second, .val (.int (p1 &&& (7 : Int32))), .val (.ref b1), .val (.int (Int32.ofNat xs1.length)), .val (.ref b6), .val (.int ((p3 &&& (2147483647 : Int32)) % (Int32.ofNat xs1.length))), .val (.int ((p4 &&& (255 : Int32)).toUInt32.toUInt16.toUInt32.toInt32)), .val (.ref b84), .val (own_ev xs84 w0 w1 w2 w3 w4), .val (.ref o91)]) rfl k) ?_
        show GoW _ _ _ _ _ _ _ (T91.setTop (mkF m 376 #[.val (.int p1), .val (.int p2), .val (.int p3), .val (.int p4), .val (.long q5), .second, .val (.int (p1 &&& (7 : Int32))), .val (.ref b1), .val (.int (Int32.ofNat xs1.length)), .val (.ref b6), .val (.int ((p3 &&& (2147483647 : Int32)) % (Int32.ofNat xs1.length))), .val (.int ((p4 &&& (255 : Int32)).toUInt32.toUInt16.toUInt32.toInt32)), .val (.ref b84), .val (own_ev xs84 w0 w1 w2 w3 w4), .val (.ref o91)] []))
        refine GoW.of (fun t k => XS.aload X91.here hx rfl (hb hby at_376) rfl rfl k) ?_
        show GoW _ _ _ _ _ _ _ (T91.setTop (mkF m 378 #[.val (.int p1), .val (.int p2), .val (.int p3), .val (.int p4), .val (.long q5), .second, .val (.int (p1 &&& (7 : Int32))), .val (.ref b1), .val (.int (Int32.ofNat xs1.length)), .val (.ref b6), .val (.int ((p3 &&& (2147483647 : Int32)) % (Int32.ofNat xs1.length))), .val (.int ((p4 &&& (255 : Int32)).toUInt32.toUInt16.toUInt32.toInt32)), .val (.ref b84), .val (own_ev xs84 w0 w1 w2 w3 w4), .val (.ref o91)] [(.ref o91)]))
        refine GoW.of (fun t k => XS.ifnonnullYes X91.here hx rfl (pc0 := 378) (pc' := 383) rfl (hb hby at_378) rfl (by decide) (by decide) k) ?_
        show GoW _ _ _ _ _ _ _ (T91.setTop (mkF m 383 #[.val (.int p1), .val (.int p2), .val (.int p3), .val (.int p4), .val (.long q5), .second, .val (.int (p1 &&& (7 : Int32))), .val (.ref b1), .val (.int (Int32.ofNat xs1.length)), .val (.ref b6), .val (.int ((p3 &&& (2147483647 : Int32)) % (Int32.ofNat xs1.length))), .val (.int ((p4 &&& (255 : Int32)).toUInt32.toUInt16.toUInt32.toInt32)), .val (.ref b84), .val (own_ev xs84 w0 w1 w2 w3 w4), .val (.ref o91)] []))
        refine GoW.of (fun t k => XS.aload X91.here hx rfl (hb hby at_383) rfl (own_ev_ref xs84 w0 w1 w2 w3 w4) k) ?_
        show GoW _ _ _ _ _ _ _ (T91.setTop (mkF m 385 #[.val (.int p1), .val (.int p2), .val (.int p3), .val (.int p4), .val (.long q5), .second, .val (.int (p1 &&& (7 : Int32))), .val (.ref b1), .val (.int (Int32.ofNat xs1.length)), .val (.ref b6), .val (.int ((p3 &&& (2147483647 : Int32)) % (Int32.ofNat xs1.length))), .val (.int ((p4 &&& (255 : Int32)).toUInt32.toUInt16.toUInt32.toInt32)), .val (.ref b84), .val (own_ev xs84 w0 w1 w2 w3 w4), .val (.ref o91)] [(own_ev xs84 w0 w1 w2 w3 w4)]))
        rcases ref_cases (own_ev_ref xs84 w0 w1 w2 w3 w4) with hv93 | ⟨xv93, hv93⟩
        · skip
          refine GoW.of (fun t k => XS.ifnonnullNo X91.here hx rfl (hb hby at_385) (congrArg (fun z => (z :: [] : List Value)) hv93) k) ?_
          show GoW _ _ _ _ _ _ _ (T91.setTop (mkF m 388 #[.val (.int p1), .val (.int p2), .val (.int p3), .val (.int p4), .val (.long q5), .second, .val (.int (p1 &&& (7 : Int32))), .val (.ref b1), .val (.int (Int32.ofNat xs1.length)), .val (.ref b6), .val (.int ((p3 &&& (2147483647 : Int32)) % (Int32.ofNat xs1.length))), .val (.int ((p4 &&& (255 : Int32)).toUInt32.toUInt16.toUInt32.toInt32)), .val (.ref b84), .val (own_ev xs84 w0 w1 w2 w3 w4), .val (.ref o91)] []))
          refine GoW.of (fun t k => XS.aload X91.here hx rfl (hb hby at_388) rfl rfl k) ?_
          show GoW _ _ _ _ _ _ _ (T91.setTop (mkF m 390 #[.val (.int p1), .val (.int p2), .val (.int p3), .val (.int p4), .val (.long q5), .second, .val (.int (p1 &&& (7 : Int32))), .val (.ref b1), .val (.int (Int32.ofNat xs1.length)), .val (.ref b6), .val (.int ((p3 &&& (2147483647 : Int32)) % (Int32.ofNat xs1.length))), .val (.int ((p4 &&& (255 : Int32)).toUInt32.toUInt16.toUInt32.toInt32)), .val (.ref b84), .val (own_ev xs84 w0 w1 w2 w3 w4), .val (.ref o91)] [(.ref o91)]))
          obtain ⟨cq94, kq94, q94a, q94b, q94c⟩ := isOf hZ rfl Ex91
          obtain ⟨_, _, ⟨T94, L94, k94, n94⟩, -, X94, ⟨Lc94, hQ94, l94, y94, z94⟩, st94⟩ := X91.virtualBack hx (y := (⟨"java/util/Optional", "isEmpty", "()Z"⟩ : MethodName)) (z := (⟨"java/util/Optional", "isEmpty", "()Z"⟩ : MethodName)) hown (mvT hZ (own_w hw 152 rfl)) (mvT hZ (own_w hw 153 rfl)) (notFace_of_selects (args := #[]) (mvT hZ (own_w hw 155 rfl))) (mvT hZ (own_w hw 155 rfl)) (mvT hZ (own_w hw 154 rfl)) (by decide) (backOf (W := 0) (rm28 l Z a0 hw [] o91 T91.heap n0 (by omega) (by rw [← hv93]; exact Fv91)) hZ (own_w hw 156 rfl) (own_w hw 121 rfl) (by decide) (by decide)) q94a q94c (g := (mkF m 390 #[.val (.int p1), .val (.int p2), .val (.int p3), .val (.int p4), .val (.long q5), .second, .val (.int (p1 &&& (7 : Int32))), .val (.ref b1), .val (.int (Int32.ofNat xs1.length)), .val (.ref b6), .val (.int ((p3 &&& (2147483647 : Int32)) % (Int32.ofNat xs1.length))), .val (.int ((p4 &&& (255 : Int32)).toUInt32.toUInt16.toUInt32.toInt32)), .val (.ref b84), .val (own_ev xs84 w0 w1 w2 w3 w4), .val (.ref o91)] [(.ref o91)])) rfl (by rw [hml]; rfl) (Steps.refl _) (argsL := []) (rest := []) (lenOf pd_15 rfl) rfl (by show 2 * 0 + _ ≤ _; exact Nat.le_of_eq rfl) (hb hby at_390) (fun _ _ => ⟨rfl, rfl, (by decide : 19 + 0 ≤ _), (by decide : 202 + 0 ≤ _)⟩)
          dsimp only [Pt.U, Pt.locs, Pt.cells, Pt.slots] at X94 l94 y94 z94 st94 hQ94
          replace y94 : k94 = 19 := y94.trans (by decide)
          replace z94 : n94 = 202 := z94.trans (by decide)
          subst y94 z94
          obtain ⟨rfl, N94q, e94⟩ := hQ94
          have N94 : Fr n0 L94 := by rw [l94]; exact Fr.app N91 N94q
          clear l94
          refine GoW.tr st94 ?_
          show GoW _ _ _ _ _ _ _ (T94.setTop (mkF m 393 #[.val (.int p1), .val (.int p2), .val (.int p3), .val (.int p4), .val (.long q5), .second, .val (.int (p1 &&& (7 : Int32))), .val (.ref b1), .val (.int (Int32.ofNat xs1.length)), .val (.ref b6), .val (.int ((p3 &&& (2147483647 : Int32)) % (Int32.ofNat xs1.length))), .val (.int ((p4 &&& (255 : Int32)).toUInt32.toUInt16.toUInt32.toInt32)), .val (.ref b84), .val (own_ev xs84 w0 w1 w2 w3 w4), .val (.ref o91)] [(.int (1 : Int32))]))
          refine GoW.out X94 hS (by rw [e94]; omega) (v := some (.int (1 : Int32))) (fun h => by rw [Bd.returns] at h; cases h) hlk (fun fs hr => retN X94 hx (t := .boolean) Bd.returns (by simp) (hb hby at_393) hr) ?_ (by decide) (by decide)
          show Q0 Z p1 p2 p3 p4 q5 cs fm w0 w1 w2 w3 w4 s0 s1 s2 s3 s4 wE wV kv h0 n0 _ T94.heap _
          rw [e94]
          exact ⟨rfl, N94⟩
        · skip
          refine GoW.of (fun t k => XS.ifnonnullYes X91.here hx rfl (pc0 := 385) (pc' := 394) rfl (hb hby at_385) (congrArg (fun z => (z :: [] : List Value)) hv93) (by decide) (by decide) k) ?_
          show GoW _ _ _ _ _ _ _ (T91.setTop (mkF m 394 #[.val (.int p1), .val (.int p2), .val (.int p3), .val (.int p4), .val (.long q5), .second, .val (.int (p1 &&& (7 : Int32))), .val (.ref b1), .val (.int (Int32.ofNat xs1.length)), .val (.ref b6), .val (.int ((p3 &&& (2147483647 : Int32)) % (Int32.ofNat xs1.length))), .val (.int ((p4 &&& (255 : Int32)).toUInt32.toUInt16.toUInt32.toInt32)), .val (.ref b84), .val (own_ev xs84 w0 w1 w2 w3 w4), .val (.ref o91)] []))
          refine GoW.of (fun t k => XS.aload X91.here hx rfl (hb hby at_394) rfl rfl k) ?_
          show GoW _ _ _ _ _ _ _ (T91.setTop (mkF m 396 #[.val (.int p1), .val (.int p2), .val (.int p3), .val (.int p4), .val (.long q5), .second, .val (.int (p1 &&& (7 : Int32))), .val (.ref b1), .val (.int (Int32.ofNat xs1.length)), .val (.ref b6), .val (.int ((p3 &&& (2147483647 : Int32)) % (Int32.ofNat xs1.length))), .val (.int ((p4 &&& (255 : Int32)).toUInt32.toUInt16.toUInt32.toInt32)), .val (.ref b84), .val (own_ev xs84 w0 w1 w2 w3 w4), .val (.ref o91)] [(.ref o91)]))
          obtain ⟨cq95, kq95, q95a, q95b, q95c⟩ := isOf hZ rfl Ex91
          obtain ⟨_, _, ⟨T95, L95, k95, n95⟩, -, X95, ⟨Lc95, hQ95, l95, y95, z95⟩, st95⟩ := X91.virtualBack hx (y := (⟨"java/util/Optional", "isPresent", "()Z"⟩ : MethodName)) (z := (⟨"java/util/Optional", "isPresent", "()Z"⟩ : MethodName)) hown (mvT hZ (own_w hw 136 rfl)) (mvT hZ (own_w hw 137 rfl)) (notFace_of_selects (args := #[]) (mvT hZ (own_w hw 139 rfl))) (mvT hZ (own_w hw 139 rfl)) (mvT hZ (own_w hw 138 rfl)) (by decide) (backOf (W := 0) (rm25 l Z a0 hw [] o91 xv93 T91.heap n0 (by omega) (by rw [← hv93]; exact Fv91)) hZ (own_w hw 140 rfl) (own_w hw 121 rfl) (by decide) (by decide)) q95a q95c (g := (mkF m 396 #[.val (.int p1), .val (.int p2), .val (.int p3), .val (.int p4), .val (.long q5), .second, .val (.int (p1 &&& (7 : Int32))), .val (.ref b1), .val (.int (Int32.ofNat xs1.length)), .val (.ref b6), .val (.int ((p3 &&& (2147483647 : Int32)) % (Int32.ofNat xs1.length))), .val (.int ((p4 &&& (255 : Int32)).toUInt32.toUInt16.toUInt32.toInt32)), .val (.ref b84), .val (own_ev xs84 w0 w1 w2 w3 w4), .val (.ref o91)] [(.ref o91)])) rfl (by rw [hml]; rfl) (Steps.refl _) (argsL := []) (rest := []) (lenOf pd_15 rfl) rfl (by show 2 * 0 + _ ≤ _; exact Nat.le_of_eq rfl) (hb hby at_396) (fun _ _ => ⟨rfl, rfl, (by decide : 19 + 0 ≤ _), (by decide : 202 + 0 ≤ _)⟩)
          dsimp only [Pt.U, Pt.locs, Pt.cells, Pt.slots] at X95 l95 y95 z95 st95 hQ95
          replace y95 : k95 = 19 := y95.trans (by decide)
          replace z95 : n95 = 202 := z95.trans (by decide)
          subst y95 z95
          obtain ⟨rfl, N95q, e95⟩ := hQ95
          have N95 : Fr n0 L95 := by rw [l95]; exact Fr.app N91 N95q
          clear l95
          refine GoW.tr st95 ?_
          show GoW _ _ _ _ _ _ _ (T95.setTop (mkF m 399 #[.val (.int p1), .val (.int p2), .val (.int p3), .val (.int p4), .val (.long q5), .second, .val (.int (p1 &&& (7 : Int32))), .val (.ref b1), .val (.int (Int32.ofNat xs1.length)), .val (.ref b6), .val (.int ((p3 &&& (2147483647 : Int32)) % (Int32.ofNat xs1.length))), .val (.int ((p4 &&& (255 : Int32)).toUInt32.toUInt16.toUInt32.toInt32)), .val (.ref b84), .val (own_ev xs84 w0 w1 w2 w3 w4), .val (.ref o91)] [(.int (1 : Int32))]))
          refine GoW.of (fun t k => XS.ifNo X95.here hx rfl (hb hby at_399) rfl ((if0 _ _).trans (feq (by decide : ¬ ((1 : Int32) = (0 : Int32)))).1) k) ?_
          show GoW _ _ _ _ _ _ _ (T95.setTop (mkF m 402 #[.val (.int p1), .val (.int p2), .val (.int p3), .val (.int p4), .val (.long q5), .second, .val (.int (p1 &&& (7 : Int32))), .val (.ref b1), .val (.int (Int32.ofNat xs1.length)), .val (.ref b6), .val (.int ((p3 &&& (2147483647 : Int32)) % (Int32.ofNat xs1.length))), .val (.int ((p4 &&& (255 : Int32)).toUInt32.toUInt16.toUInt32.toInt32)), .val (.ref b84), .val (own_ev xs84 w0 w1 w2 w3 w4), .val (.ref o91)] []))
          refine GoW.of (fun t k => XS.aload X95.here hx rfl (hb hby at_402) rfl rfl k) ?_
          show GoW _ _ _ _ _ _ _ (T95.setTop (mkF m 404 #[.val (.int p1), .val (.int p2), .val (.int p3), .val (.int p4), .val (.long q5), .second, .val (.int (p1 &&& (7 : Int32))), .val (.ref b1), .val (.int (Int32.ofNat xs1.length)), .val (.ref b6), .val (.int ((p3 &&& (2147483647 : Int32)) % (Int32.ofNat xs1.length))), .val (.int ((p4 &&& (255 : Int32)).toUInt32.toUInt16.toUInt32.toInt32)), .val (.ref b84), .val (own_ev xs84 w0 w1 w2 w3 w4), .val (.ref o91)] [(.ref o91)]))
          obtain ⟨cq96, kq96, q96a, q96b, q96c⟩ := isOf hZ e95 Ex91
          obtain ⟨_, _, ⟨T96, L96, k96, n96⟩, -, X96, ⟨Lc96, hQ96, l96, y96, z96⟩, st96⟩ := X95.virtualBack hx (y := (⟨"java/util/Optional", "get", "()Ljava/lang/Object;"⟩ : MethodName)) (z := (⟨"java/util/Optional", "get", "()Ljava/lang/Object;"⟩ : MethodName)) hown (mvT hZ (own_w hw 141 rfl)) (mvT hZ (own_w hw 142 rfl)) (notFace_of_selects (args := #[]) (mvT hZ (own_w hw 144 rfl))) (mvT hZ (own_w hw 144 rfl)) (mvT hZ (own_w hw 143 rfl)) (by decide) (backOf (W := 0) (rm26 l Z a0 hw [] o91 xv93 T91.heap n0 (by omega) (by rw [← hv93]; exact Fv91)) hZ (own_w hw 145 rfl) (own_w hw 121 rfl) (by decide) (by decide)) q96a q96c (g := (mkF m 404 #[.val (.int p1), .val (.int p2), .val (.int p3), .val (.int p4), .val (.long q5), .second, .val (.int (p1 &&& (7 : Int32))), .val (.ref b1), .val (.int (Int32.ofNat xs1.length)), .val (.ref b6), .val (.int ((p3 &&& (2147483647 : Int32)) % (Int32.ofNat xs1.length))), .val (.int ((p4 &&& (255 : Int32)).toUInt32.toUInt16.toUInt32.toInt32)), .val (.ref b84), .val (own_ev xs84 w0 w1 w2 w3 w4), .val (.ref o91)] [(.ref o91)])) rfl (by rw [hml]; rfl) (Steps.refl _) (argsL := []) (rest := []) (lenOf pd_16 rfl) rfl (by show 2 * 0 + _ ≤ _; exact Nat.le_of_eq rfl) (hb hby at_404) (fun _ _ => ⟨rfl, e95, (by decide : 19 + 0 ≤ _), (by decide : 202 + 0 ≤ _)⟩)
          dsimp only [Pt.U, Pt.locs, Pt.cells, Pt.slots] at X96 l96 y96 z96 st96 hQ96
          replace y96 : k96 = 19 := y96.trans (by decide)
          replace z96 : n96 = 202 := z96.trans (by decide)
          subst y96 z96
          obtain ⟨rfl, N96q, e96⟩ := hQ96
          have N96 : Fr n0 L96 := by rw [l96]; exact Fr.app N95 N96q
          clear l96
          refine GoW.tr st96 ?_
          show GoW _ _ _ _ _ _ _ (T96.setTop (mkF m 407 #[.val (.int p1), .val (.int p2), .val (.int p3), .val (.int p4), .val (.long q5), .second, .val (.int (p1 &&& (7 : Int32))), .val (.ref b1), .val (.int (Int32.ofNat xs1.length)), .val (.ref b6), .val (.int ((p3 &&& (2147483647 : Int32)) % (Int32.ofNat xs1.length))), .val (.int ((p4 &&& (255 : Int32)).toUInt32.toUInt16.toUInt32.toInt32)), .val (.ref b84), .val (own_ev xs84 w0 w1 w2 w3 w4), .val (.ref o91)] [(.ref xv93)]))
          refine GoW.of (fun t k => XS.aload X96.here hx rfl (hb hby at_407) rfl (own_ev_ref xs84 w0 w1 w2 w3 w4) k) ?_
          show GoW _ _ _ _ _ _ _ (T96.setTop (mkF m 409 #[.val (.int p1), .val (.int p2), .val (.int p3), .val (.int p4), .val (.long q5), .second, .val (.int (p1 &&& (7 : Int32))), .val (.ref b1), .val (.int (Int32.ofNat xs1.length)), .val (.ref b6), .val (.int ((p3 &&& (2147483647 : Int32)) % (Int32.ofNat xs1.length))), .val (.int ((p4 &&& (255 : Int32)).toUInt32.toUInt16.toUInt32.toInt32)), .val (.ref b84), .val (own_ev xs84 w0 w1 w2 w3 w4), .val (.ref o91)] [(own_ev xs84 w0 w1 w2 w3 w4), (.ref xv93)]))
          refine GoW.of (fun t k => Jvm.RoadKit.acmp (g := (mkF m 409 #[.val (.int p1), .val (.int p2), .val (.int p3), .val (.int p4), .val (.long q5), .second, .val (.int (p1 &&& (7 : Int32))), .val (.ref b1), .val (.int (Int32.ofNat xs1.length)), .val (.ref b6), .val (.int ((p3 &&& (2147483647 : Int32)) % (Int32.ofNat xs1.length))), .val (.int ((p4 &&& (255 : Int32)).toUInt32.toUInt16.toUInt32.toInt32)), .val (.ref b84), .val (own_ev xs84 w0 w1 w2 w3 w4), .val (.ref o91)] [(own_ev xs84 w0 w1 w2 w3 w4), (.ref xv93)])) X96 hx rfl rfl (own_ev_ref xs84 w0 w1 w2 w3 w4) (pc0 := 409) (pc' := 412) (same := true) rfl (hb hby at_409) rfl (decide_eq_true hv93.symm) (by decide) (by decide) k) ?_
          show GoW _ _ _ _ _ _ _ (T96.setTop (mkF m 412 #[.val (.int p1), .val (.int p2), .val (.int p3), .val (.int p4), .val (.long q5), .second, .val (.int (p1 &&& (7 : Int32))), .val (.ref b1), .val (.int (Int32.ofNat xs1.length)), .val (.ref b6), .val (.int ((p3 &&& (2147483647 : Int32)) % (Int32.ofNat xs1.length))), .val (.int ((p4 &&& (255 : Int32)).toUInt32.toUInt16.toUInt32.toInt32)), .val (.ref b84), .val (own_ev xs84 w0 w1 w2 w3 w4), .val (.ref o91)] []))
          refine GoW.of (fun t k => XS.iconst X96.here hx rfl (hb hby at_412) k) ?_
          show GoW _ _ _ _ _ _ _ (T96.setTop (mkF m 413 #[.val (.int p1), .val (.int p2), .val (.int p3), .val (.int p4), .val (.long q5), .second, .val (.int (p1 &&& (7 : Int32))), .val (.ref b1), .val (.int (Int32.ofNat xs1.length)), .val (.ref b6), .val (.int ((p3 &&& (2147483647 : Int32)) % (Int32.ofNat xs1.length))), .val (.int ((p4 &&& (255 : Int32)).toUInt32.toUInt16.toUInt32.toInt32)), .val (.ref b84), .val (own_ev xs84 w0 w1 w2 w3 w4), .val (.ref o91)] [(.int (1 : Int32))]))
          refine GoW.of (fun t k => XS.goto X96.here hx rfl (pc0 := 413) (pc' := 417) rfl (hb hby at_413) (by decide) (by decide) k) ?_
          show GoW _ _ _ _ _ _ _ (T96.setTop (mkF m 417 #[.val (.int p1), .val (.int p2), .val (.int p3), .val (.int p4), .val (.long q5), .second, .val (.int (p1 &&& (7 : Int32))), .val (.ref b1), .val (.int (Int32.ofNat xs1.length)), .val (.ref b6), .val (.int ((p3 &&& (2147483647 : Int32)) % (Int32.ofNat xs1.length))), .val (.int ((p4 &&& (255 : Int32)).toUInt32.toUInt16.toUInt32.toInt32)), .val (.ref b84), .val (own_ev xs84 w0 w1 w2 w3 w4), .val (.ref o91)] [(.int (1 : Int32))]))
          refine GoW.out X96 hS (by rw [e96]; omega) (v := some (.int (1 : Int32))) (fun h => by rw [Bd.returns] at h; cases h) hlk (fun fs hr => retN X96 hx (t := .boolean) Bd.returns (by simp) (hb hby at_417) hr) ?_ (by decide) (by decide)
          show Q0 Z p1 p2 p3 p4 q5 cs fm w0 w1 w2 w3 w4 s0 s1 s2 s3 s4 wE wV kv h0 n0 _ T96.heap _
          rw [e96]
          exact ⟨rfl, N96⟩
      · skip
        refine GoW.of (fun t k => XS.icmpYes X46.here hx rfl (pc0 := 176) (pc' := 191) rfl (hb hby at_176) rfl (feq hc176_81).2 (by decide) (by decide) k) ?_
        show GoW _ _ _ _ _ _ _ (T46.setTop (mkF m 191 #[.val (.int p1), .val (.int p2), .val (.int p3), .val (.int p4), .val (.long q5), .second, .val (.int (p1 &&& (7 : Int32))), .val (.ref b1), .val (.int (Int32.ofNat xs1.length)), .val (.ref b6), .val (.int ((p3 &&& (2147483647 : Int32)) % (Int32.ofNat xs1.length))), .val (.int ((p4 &&& (255 : Int32)).toUInt32.toUInt16.toUInt32.toInt32)), .unset, .unset, .unset] []))
        refine GoW.of (fun t k => XS.iload X46.here hx rfl (hb hby at_191) rfl k) ?_
        show GoW _ _ _ _ _ _ _ (T46.setTop (mkF m 193 #[.val (.int p1), .val (.int p2), .val (.int p3), .val (.int p4), .val (.long q5), .second, .val (.int (p1 &&& (7 : Int32))), .val (.ref b1), .val (.int (Int32.ofNat xs1.length)), .val (.ref b6), .val (.int ((p3 &&& (2147483647 : Int32)) % (Int32.ofNat xs1.length))), .val (.int ((p4 &&& (255 : Int32)).toUInt32.toUInt16.toUInt32.toInt32)), .unset, .unset, .unset] [(.int (p1 &&& (7 : Int32)))]))
        refine GoW.of (fun t k => XS.iconst X46.here hx rfl (hb hby at_193) k) ?_
        show GoW _ _ _ _ _ _ _ (T46.setTop (mkF m 194 #[.val (.int p1), .val (.int p2), .val (.int p3), .val (.int p4), .val (.long q5), .second, .val (.int (p1 &&& (7 : Int32))), .val (.ref b1), .val (.int (Int32.ofNat xs1.length)), .val (.ref b6), .val (.int ((p3 &&& (2147483647 : Int32)) % (Int32.ofNat xs1.length))), .val (.int ((p4 &&& (255 : Int32)).toUInt32.toUInt16.toUInt32.toInt32)), .unset, .unset, .unset] [(.int (3 : Int32)), (.int (p1 &&& (7 : Int32)))]))
        by_cases hc194_97 : (p1 &&& (7 : Int32)) = (3 : Int32)
        · skip
          refine GoW.of (fun t k => XS.icmpNo X46.here hx rfl (hb hby at_194) rfl (teq hc194_97).2 k) ?_
          show GoW _ _ _ _ _ _ _ (T46.setTop (mkF m 197 #[.val (.int p1), .val (.int p2), .val (.int p3), .val (.int p4), .val (.long q5), .second, .val (.int (p1 &&& (7 : Int32))), .val (.ref b1), .val (.int (Int32.ofNat xs1.length)), .val (.ref b6), .val (.int ((p3 &&& (2147483647 : Int32)) % (Int32.ofNat xs1.length))), .val (.int ((p4 &&& (255 : Int32)).toUInt32.toUInt16.toUInt32.toInt32)), .unset, .unset, .unset] []))
          refine GoW.of (fun t k => XS.aload X46.here hx rfl (hb hby at_197) rfl rfl k) ?_
          show GoW _ _ _ _ _ _ _ (T46.setTop (mkF m 199 #[.val (.int p1), .val (.int p2), .val (.int p3), .val (.int p4), .val (.long q5), .second, .val (.int (p1 &&& (7 : Int32))), .val (.ref b1), .val (.int (Int32.ofNat xs1.length)), .val (.ref b6), .val (.int ((p3 &&& (2147483647 : Int32)) % (Int32.ofNat xs1.length))), .val (.int ((p4 &&& (255 : Int32)).toUInt32.toUInt16.toUInt32.toInt32)), .unset, .unset, .unset] [(.ref b6)]))
          refine GoW.of (fun t k => XS.iload X46.here hx rfl (hb hby at_199) rfl k) ?_
          show GoW _ _ _ _ _ _ _ (T46.setTop (mkF m 201 #[.val (.int p1), .val (.int p2), .val (.int p3), .val (.int p4), .val (.long q5), .second, .val (.int (p1 &&& (7 : Int32))), .val (.ref b1), .val (.int (Int32.ofNat xs1.length)), .val (.ref b6), .val (.int ((p3 &&& (2147483647 : Int32)) % (Int32.ofNat xs1.length))), .val (.int ((p4 &&& (255 : Int32)).toUInt32.toUInt16.toUInt32.toInt32)), .unset, .unset, .unset] [(.int (Int32.ofNat xs1.length)), (.ref b6)]))
          refine GoW.of (fun t k => XS.iload X46.here hx rfl (hb hby at_201) rfl k) ?_
          show GoW _ _ _ _ _ _ _ (T46.setTop (mkF m 203 #[.val (.int p1), .val (.int p2), .val (.int p3), .val (.int p4), .val (.long q5), .second, .val (.int (p1 &&& (7 : Int32))), .val (.ref b1), .val (.int (Int32.ofNat xs1.length)), .val (.ref b6), .val (.int ((p3 &&& (2147483647 : Int32)) % (Int32.ofNat xs1.length))), .val (.int ((p4 &&& (255 : Int32)).toUInt32.toUInt16.toUInt32.toInt32)), .unset, .unset, .unset] [(.int ((p4 &&& (255 : Int32)).toUInt32.toUInt16.toUInt32.toInt32)), (.int (Int32.ofNat xs1.length)), (.ref b6)]))
          have hj98 : ¬ (Int32.ofNat xs1.length) < 0 ∧ (Int32.ofNat xs1.length) < 8 := own_ofnat hl71
          obtain ⟨cl98, Ar98, q98, S98, N98', H98, G98⟩ := id V46
          obtain ⟨T98, h98, X98, e98, W98, st98⟩ := stC X46 hx hZ e46 Ar98 (j := (Int32.ofNat xs1.length)) (inb_of S98 hj98) (g := (mkF m 203 #[.val (.int p1), .val (.int p2), .val (.int p3), .val (.int p4), .val (.long q5), .second, .val (.int (p1 &&& (7 : Int32))), .val (.ref b1), .val (.int (Int32.ofNat xs1.length)), .val (.ref b6), .val (.int ((p3 &&& (2147483647 : Int32)) % (Int32.ofNat xs1.length))), .val (.int ((p4 &&& (255 : Int32)).toUInt32.toUInt16.toUInt32.toInt32)), .unset, .unset, .unset] [(.int ((p4 &&& (255 : Int32)).toUInt32.toUInt16.toUInt32.toInt32)), (.int (Int32.ofNat xs1.length)), (.ref b6)])) rfl rfl (hb hby at_203)
          have hrr98 : ∀ c ∈ ([(nar .char z10), (nar .char z15), (nar .char z20), (nar .char z25), (nar .char z30), (nar .char z35), (nar .char z40), (nar .char z45)] : List Int32), ¬ c < 0 ∧ ¬ (255 : Int32) < c := by
            intro c hc
            simp only [List.mem_cons, List.not_mem_nil, or_false] at hc
            rcases hc with rfl | rfl | rfl | rfl | rfl | rfl | rfl | rfl
            · exact (own_narr ⟨hza10, hzb10⟩)
            · exact (own_narr ⟨hza15, hzb15⟩)
            · exact (own_narr ⟨hza20, hzb20⟩)
            · exact (own_narr ⟨hza25, hzb25⟩)
            · exact (own_narr ⟨hza30, hzb30⟩)
            · exact (own_narr ⟨hza35, hzb35⟩)
            · exact (own_narr ⟨hza40, hzb40⟩)
            · exact (own_narr ⟨hza45, hzb45⟩)
          have C8_98 : own_C8 Z h98 b6 := own_C8.set (us := ([(nar .char z10), (nar .char z15), (nar .char z20), (nar .char z25), (nar .char z30), (nar .char z35), (nar .char z40), (nar .char z45)] : List Int32)) Ar98 q98 S98 H98 G98 rfl hrr98 (own_chr p4) hj98 W98
          refine GoW.of st98 ?_
          have hs99 : h46.size ≤ h98.size := Nat.le_of_eq W98.size.symm
          have N98 := Fr.snoc X98 N46 (by omega)
          show GoW _ _ _ _ _ _ _ (T98.setTop (mkF m 204 #[.val (.int p1), .val (.int p2), .val (.int p3), .val (.int p4), .val (.long q5), .second, .val (.int (p1 &&& (7 : Int32))), .val (.ref b1), .val (.int (Int32.ofNat xs1.length)), .val (.ref b6), .val (.int ((p3 &&& (2147483647 : Int32)) % (Int32.ofNat xs1.length))), .val (.int ((p4 &&& (255 : Int32)).toUInt32.toUInt16.toUInt32.toInt32)), .unset, .unset, .unset] []))
          refine GoW.of (fun t k => XS.aload X98.here hx rfl (hb hby at_204) rfl rfl k) ?_
          show GoW _ _ _ _ _ _ _ (T98.setTop (mkF m 206 #[.val (.int p1), .val (.int p2), .val (.int p3), .val (.int p4), .val (.long q5), .second, .val (.int (p1 &&& (7 : Int32))), .val (.ref b1), .val (.int (Int32.ofNat xs1.length)), .val (.ref b6), .val (.int ((p3 &&& (2147483647 : Int32)) % (Int32.ofNat xs1.length))), .val (.int ((p4 &&& (255 : Int32)).toUInt32.toUInt16.toUInt32.toInt32)), .unset, .unset, .unset] [(.ref b6)]))
          refine GoW.of (fun t k => XS.iload X98.here hx rfl (hb hby at_206) rfl k) ?_
          show GoW _ _ _ _ _ _ _ (T98.setTop (mkF m 208 #[.val (.int p1), .val (.int p2), .val (.int p3), .val (.int p4), .val (.long q5), .second, .val (.int (p1 &&& (7 : Int32))), .val (.ref b1), .val (.int (Int32.ofNat xs1.length)), .val (.ref b6), .val (.int ((p3 &&& (2147483647 : Int32)) % (Int32.ofNat xs1.length))), .val (.int ((p4 &&& (255 : Int32)).toUInt32.toUInt16.toUInt32.toInt32)), .unset, .unset, .unset] [(.int (Int32.ofNat xs1.length)), (.ref b6)]))
          refine GoW.of (fun t k => XS.iconst X98.here hx rfl (hb hby at_208) k) ?_
          show GoW _ _ _ _ _ _ _ (T98.setTop (mkF m 209 #[.val (.int p1), .val (.int p2), .val (.int p3), .val (.int p4), .val (.long q5), .second, .val (.int (p1 &&& (7 : Int32))), .val (.ref b1), .val (.int (Int32.ofNat xs1.length)), .val (.ref b6), .val (.int ((p3 &&& (2147483647 : Int32)) % (Int32.ofNat xs1.length))), .val (.int ((p4 &&& (255 : Int32)).toUInt32.toUInt16.toUInt32.toInt32)), .unset, .unset, .unset] [(.int (1 : Int32)), (.int (Int32.ofNat xs1.length)), (.ref b6)]))
          refine GoW.of (fun t k => XS.iadd X98.here hx rfl (hb hby at_209) rfl k) ?_
          show GoW _ _ _ _ _ _ _ (T98.setTop (mkF m 210 #[.val (.int p1), .val (.int p2), .val (.int p3), .val (.int p4), .val (.long q5), .second, .val (.int (p1 &&& (7 : Int32))), .val (.ref b1), .val (.int (Int32.ofNat xs1.length)), .val (.ref b6), .val (.int ((p3 &&& (2147483647 : Int32)) % (Int32.ofNat xs1.length))), .val (.int ((p4 &&& (255 : Int32)).toUInt32.toUInt16.toUInt32.toInt32)), .unset, .unset, .unset] [(.int ((Int32.ofNat xs1.length) + (1 : Int32))), (.ref b6)]))
          have f100 := ((f44.wr W46 (by omega)).wr W98 (by omega))
          obtain ⟨_, _, ⟨T101, L101, k101, n101⟩, -, X101, hS101, hgr101, ⟨Lc101, hQ101, hJ101, l101, y101, z101⟩, st101⟩ := callSS X98 hx (y := (⟨"com/example/clearstep/clearstep/core/EventKindFromWordPinLaw", "make", "([CI)Ljava/lang/String;"⟩ : MethodName)) hown (mvT hZ (own_w hw 52 rfl)) (mvT hZ (own_w hw 53 rfl)) (mvT hZ (own_w hw 3 rfl)) (mvT hZ (own_w hw 54 rfl)) (by decide) (backOfJ (W := 0) (rm10 l Z a0 hw [] b6 ((Int32.ofNat xs1.length) + (1 : Int32)) cs h98 n0 (by omega) f100 hcw hh0' hh1' hh2' hh3' hh4' hh5' S_cs hcs C8_98) hZ (own_w hw 54 rfl) (own_w hw 3 rfl) (by decide) (by decide)) (g := (mkF m 210 #[.val (.int p1), .val (.int p2), .val (.int p3), .val (.int p4), .val (.long q5), .second, .val (.int (p1 &&& (7 : Int32))), .val (.ref b1), .val (.int (Int32.ofNat xs1.length)), .val (.ref b6), .val (.int ((p3 &&& (2147483647 : Int32)) % (Int32.ofNat xs1.length))), .val (.int ((p4 &&& (255 : Int32)).toUInt32.toUInt16.toUInt32.toInt32)), .unset, .unset, .unset] [(.int ((Int32.ofNat xs1.length) + (1 : Int32))), (.ref b6)])) rfl (by rw [hml]; rfl) (argsL := [(.ref b6), (.int ((Int32.ofNat xs1.length) + (1 : Int32)))]) (rest := []) (lenOf pd_12 rfl) rfl (by show 2 * 0 + _ ≤ _; exact Nat.le_of_eq rfl) (hb hby at_210) (fun _ hw1 => ⟨rfl, e98, own_J.warm (own_J.keep hJ1 (((((((((((Keep.refl T1.heap []).ext E6).wr W11 (Or.inr (by omega))).wr W16 (Or.inr (by omega))).wr W21 (Or.inr (by omega))).wr W26 (Or.inr (by omega))).wr W31 (Or.inr (by omega))).wr W36 (Or.inr (by omega))).wr W41 (Or.inr (by omega))).wr W46 (Or.inr (by omega))).wr W98 (Or.inr (by omega)))) hw1, (by decide : 3 + 4 ≤ _), (by decide : 40 + 20 ≤ _)⟩)
          dsimp only [Pt.U, Pt.locs, Pt.cells, Pt.slots] at X101 l101 y101 z101 st101 hQ101 hS101 hgr101 hJ101
          replace y101 : k101 = 7 := y101.trans (by decide)
          replace z101 : n101 = 60 := z101.trans (by decide)
          subst y101 z101
          obtain ⟨X101, hS', hZ', hown'⟩ := rebS hS (by rw [e98]; omega) X101 hS101 hgr101 hZ hown
          have hk : T101.heap.size ≤ T101.heap.size := Nat.le_refl _
          have hS := hS'
          have hZ := hZ'
          have hown := hown'
          obtain ⟨b101, xs101, rfl, N101q, K101, Sm101⟩ := hQ101
          have N101 : Fr n0 L101 := by rw [l101]; exact Fr.app N98 N101q
          clear l101
          refine GoW.tr st101 ?_
          have hs102 : h98.size ≤ T101.heap.size := K101.1
          show GoW _ _ _ _ _ _ _ (T101.setTop (mkF m 213 #[.val (.int p1), .val (.int p2), .val (.int p3), .val (.int p4), .val (.long q5), .second, .val (.int (p1 &&& (7 : Int32))), .val (.ref b1), .val (.int (Int32.ofNat xs1.length)), .val (.ref b6), .val (.int ((p3 &&& (2147483647 : Int32)) % (Int32.ofNat xs1.length))), .val (.int ((p4 &&& (255 : Int32)).toUInt32.toUInt16.toUInt32.toInt32)), .unset, .unset, .unset] [(.ref b101)]))
          refine GoW.of (fun t k => XS.astore X101.here hx rfl (hb hby at_213) rfl rfl (l' := #[.val (.int p1), .val (.int p2), .val (.int p3), .val (.int p4), .val (.long q5), .second, .val (.int (p1 &&& (7 : Int32))), .val (.ref b1), .val (.int (Int32.ofNat xs1.length)), .val (.ref b6), .val (.int ((p3 &&& (2147483647 : Int32)) % (Int32.ofNat xs1.length))), .val (.int ((p4 &&& (255 : Int32)).toUInt32.toUInt16.toUInt32.toInt32)), .val (.ref b101), .unset, .unset]) rfl k) ?_
          show GoW _ _ _ _ _ _ _ (T101.setTop (mkF m 215 #[.val (.int p1), .val (.int p2), .val (.int p3), .val (.int p4), .val (.long q5), .second, .val (.int (p1 &&& (7 : Int32))), .val (.ref b1), .val (.int (Int32.ofNat xs1.length)), .val (.ref b6), .val (.int ((p3 &&& (2147483647 : Int32)) % (Int32.ofNat xs1.length))), .val (.int ((p4 &&& (255 : Int32)).toUInt32.toUInt16.toUInt32.toInt32)), .val (.ref b101), .unset, .unset] []))
          refine GoW.of (fun t k => XS.goto X101.here hx rfl (pc0 := 215) (pc' := 362) rfl (hb hby at_215) (by decide) (by decide) k) ?_
          show GoW _ _ _ _ _ _ _ (T101.setTop (mkF m 362 #[.val (.int p1), .val (.int p2), .val (.int p3), .val (.int p4), .val (.long q5), .second, .val (.int (p1 &&& (7 : Int32))), .val (.ref b1), .val (.int (Int32.ofNat xs1.length)), .val (.ref b6), .val (.int ((p3 &&& (2147483647 : Int32)) % (Int32.ofNat xs1.length))), .val (.int ((p4 &&& (255 : Int32)).toUInt32.toUInt16.toUInt32.toInt32)), .val (.ref b101), .unset, .unset] []))
          refine GoW.of (fun t k => XS.aload X101.here hx rfl (hb hby at_362) rfl rfl k) ?_
          show GoW _ _ _ _ _ _ _ (T101.setTop (mkF m 364 #[.val (.int p1), .val (.int p2), .val (.int p3), .val (.int p4), .val (.long q5), .second, .val (.int (p1 &&& (7 : Int32))), .val (.ref b1), .val (.int (Int32.ofNat xs1.length)), .val (.ref b6), .val (.int ((p3 &&& (2147483647 : Int32)) % (Int32.ofNat xs1.length))), .val (.int ((p4 &&& (255 : Int32)).toUInt32.toUInt16.toUInt32.toInt32)), .val (.ref b101), .unset, .unset] [(.ref b101)]))
          have f103 := (f100.keep K101 all0)
          obtain ⟨_, _, ⟨T104, L104, k104, n104⟩, -, X104, hS104, hgr104, ⟨Lc104, hQ104, hJ104, l104, y104, z104⟩, st104⟩ := callSS X101 hx (y := (⟨"com/example/clearstep/clearstep/core/EventKindFromWordPinLaw", "expected", "(Ljava/lang/String;)Lcom/example/clearstep/clearstep/core/EventKind;"⟩ : MethodName)) hown (mvT hZ (own_w hw 76 rfl)) (mvT hZ (own_w hw 77 rfl)) (mvT hZ (own_w hw 3 rfl)) (mvT hZ (own_w hw 78 rfl)) (by decide) (backOfJ (W := 0) (rmXS l Z a0 hw [] b101 xs101 cs w0 w1 w2 w3 w4 T101.heap n0 (by omega) f103 hcw hh0' hh1' hh2' hh3' hh4' hh5' S_cs hcs S_k0 S_k1 S_k2 S_k3 S_k4 Sm101) hZ (own_w hw 78 rfl) (own_w hw 3 rfl) (by decide) (by decide)) (g := (mkF m 364 #[.val (.int p1), .val (.int p2), .val (.int p3), .val (.int p4), .val (.long q5), .second, .val (.int (p1 &&& (7 : Int32))), .val (.ref b1), .val (.int (Int32.ofNat xs1.length)), .val (.ref b6), .val (.int ((p3 &&& (2147483647 : Int32)) % (Int32.ofNat xs1.length))), .val (.int ((p4 &&& (255 : Int32)).toUInt32.toUInt16.toUInt32.toInt32)), .val (.ref b101), .unset, .unset] [(.ref b101)])) rfl (by rw [hml]; rfl) (argsL := [(.ref b101)]) (rest := []) (lenOf pd_13 rfl) rfl (by show 2 * 0 + _ ≤ _; exact Nat.le_of_eq rfl) (hb hby at_364) (fun _ hw1 => ⟨rfl, rfl, own_J.warm hJ101 hw1, (by decide : 7 + 10 ≤ _), (by decide : 60 + 136 ≤ _)⟩)
          dsimp only [Pt.U, Pt.locs, Pt.cells, Pt.slots] at X104 l104 y104 z104 st104 hQ104 hS104 hgr104 hJ104
          replace y104 : k104 = 17 := y104.trans (by decide)
          replace z104 : n104 = 196 := z104.trans (by decide)
          subst y104 z104
          obtain ⟨X104, hS', hZ', hown'⟩ := rebS hS hk X104 hS104 hgr104 hZ hown
          have hk : T104.heap.size ≤ T104.heap.size := Nat.le_refl _
          have hS := hS'
          have hZ := hZ'
          have hown := hown'
          obtain ⟨rfl, N104q, K104⟩ := hQ104
          have N104 : Fr n0 L104 := by rw [l104]; exact Fr.app N101 N104q
          clear l104
          refine GoW.tr st104 ?_
          have hs105 : T101.heap.size ≤ T104.heap.size := K104.1
          show GoW _ _ _ _ _ _ _ (T104.setTop (mkF m 367 #[.val (.int p1), .val (.int p2), .val (.int p3), .val (.int p4), .val (.long q5), .second, .val (.int (p1 &&& (7 : Int32))), .val (.ref b1), .val (.int (Int32.ofNat xs1.length)), .val (.ref b6), .val (.int ((p3 &&& (2147483647 : Int32)) % (Int32.ofNat xs1.length))), .val (.int ((p4 &&& (255 : Int32)).toUInt32.toUInt16.toUInt32.toInt32)), .val (.ref b101), .unset, .unset] [(own_ev xs101 w0 w1 w2 w3 w4)]))
          refine GoW.of (fun t k => XS.astore X104.here hx rfl (hb hby at_367) rfl (own_ev_ref xs101 w0 w1 w2 w3 w4) (l' := #[.val (.int p1), .val (.int p2), .val (.int p3), .val (.int p4), .val (.long q5), .second, .val (.int (p1 &&& (7 : Int32))), .val (.ref b1), .val (.int (Int32.ofNat xs1.length)), .val (.ref b6), .val (.int ((p3 &&& (2147483647 : Int32)) % (Int32.ofNat xs1.length))), .val (.int ((p4 &&& (255 : Int32)).toUInt32.toUInt16.toUInt32.toInt32)), .val (.ref b101), .val (own_ev xs101 w0 w1 w2 w3 w4), .unset]) (by rcases ref_cases (own_ev_ref xs101 w0 w1 w2 w3 w4) with h' | ⟨x', h'⟩ <;> (rw [h']; rfl)) k) ?_
          show GoW _ _ _ _ _ _ _ (T104.setTop (mkF m 369 #[.val (.int p1), .val (.int p2), .val (.int p3), .val (.int p4), .val (.long q5), .second, .val (.int (p1 &&& (7 : Int32))), .val (.ref b1), .val (.int (Int32.ofNat xs1.length)), .val (.ref b6), .val (.int ((p3 &&& (2147483647 : Int32)) % (Int32.ofNat xs1.length))), .val (.int ((p4 &&& (255 : Int32)).toUInt32.toUInt16.toUInt32.toInt32)), .val (.ref b101), .val (own_ev xs101 w0 w1 w2 w3 w4), .unset] []))
          refine GoW.of (fun t k => XS.aload X104.here hx rfl (hb hby at_369) rfl rfl k) ?_
          show GoW _ _ _ _ _ _ _ (T104.setTop (mkF m 371 #[.val (.int p1), .val (.int p2), .val (.int p3), .val (.int p4), .val (.long q5), .second, .val (.int (p1 &&& (7 : Int32))), .val (.ref b1), .val (.int (Int32.ofNat xs1.length)), .val (.ref b6), .val (.int ((p3 &&& (2147483647 : Int32)) % (Int32.ofNat xs1.length))), .val (.int ((p4 &&& (255 : Int32)).toUInt32.toUInt16.toUInt32.toInt32)), .val (.ref b101), .val (own_ev xs101 w0 w1 w2 w3 w4), .unset] [(.ref b101)]))
          have f106 := (f103.keep K104 all0)
          have f107 := (Sm101.keep ((Keep.refl T101.heap []).trans K104 all0))
          obtain ⟨_, _, ⟨T108, L108, k108, n108⟩, -, X108, ⟨Lc108, hQ108, l108, y108, z108⟩, st108⟩ := Jvm.LawKit.callS X104 hx (y := (⟨"com/example/clearstep/clearstep/core/EventKind", "fromWord", "(Ljava/lang/String;)Ljava/util/Optional;"⟩ : MethodName)) hown (mvT hZ (own_w hw 94 rfl)) (mvT hZ (own_w hw 95 rfl)) (mvT hZ (own_w hw 92 rfl)) (mvT hZ (own_w hw 96 rfl)) (by decide) (backOf (W := 0) (rmFS l Z a0 hw [] b101 xs101 cs w0 w1 w2 w3 w4 s0 s1 s2 s3 s4 wE wV kv T104.heap n0 (by omega) f106 S_cs hcs F_w0 F_w1 F_w2 F_w3 F_w4 S_w0 S_w1 S_w2 S_w3 S_w4 S_E E_E F_E S_V V_V E_V f107) hZ (own_w hw 96 rfl) (own_w hw 92 rfl) (by decide) (by decide)) (g := (mkF m 371 #[.val (.int p1), .val (.int p2), .val (.int p3), .val (.int p4), .val (.long q5), .second, .val (.int (p1 &&& (7 : Int32))), .val (.ref b1), .val (.int (Int32.ofNat xs1.length)), .val (.ref b6), .val (.int ((p3 &&& (2147483647 : Int32)) % (Int32.ofNat xs1.length))), .val (.int ((p4 &&& (255 : Int32)).toUInt32.toUInt16.toUInt32.toInt32)), .val (.ref b101), .val (own_ev xs101 w0 w1 w2 w3 w4), .unset] [(.ref b101)])) rfl (by rw [hml]; rfl) (argsL := [(.ref b101)]) (rest := []) (lenOf pd_14 rfl) rfl (by show 2 * 0 + _ ≤ _; exact Nat.le_of_eq rfl) (hb hby at_371) (fun _ _ => ⟨rfl, rfl, (by decide : 17 + 2 ≤ _), (by decide : 196 + 6 ≤ _)⟩)
          dsimp only [Pt.U, Pt.locs, Pt.cells, Pt.slots] at X108 l108 y108 z108 st108 hQ108
          replace y108 : k108 = 19 := y108.trans (by decide)
          replace z108 : n108 = 202 := z108.trans (by decide)
          subst y108 z108
          obtain ⟨o108, rfl, N108q, K108, hlt108, Ex108, Fv108⟩ := hQ108
          have N108 : Fr n0 L108 := by rw [l108]; exact Fr.app N104 N108q
          clear l108
          refine GoW.of st108 ?_
          have hs109 : T104.heap.size ≤ T108.heap.size := K108.1
          show GoW _ _ _ _ _ _ _ (T108.setTop (mkF m 374 #[.val (.int p1), .val (.int p2), .val (.int p3), .val (.int p4), .val (.long q5), .second, .val (.int (p1 &&& (7 : Int32))), .val (.ref b1), .val (.int (Int32.ofNat xs1.length)), .val (.ref b6), .val (.int ((p3 &&& (2147483647 : Int32)) % (Int32.ofNat xs1.length))), .val (.int ((p4 &&& (255 : Int32)).toUInt32.toUInt16.toUInt32.toInt32)), .val (.ref b101), .val (own_ev xs101 w0 w1 w2 w3 w4), .unset] [(.ref o108)]))
          refine GoW.of (fun t k => XS.astore X108.here hx rfl (hb hby at_374) rfl rfl (l' := #[.val (.int p1), .val (.int p2), .val (.int p3), .val (.int p4), .val (.long q5), .second, .val (.int (p1 &&& (7 : Int32))), .val (.ref b1), .val (.int (Int32.ofNat xs1.length)), .val (.ref b6), .val (.int ((p3 &&& (2147483647 : Int32)) % (Int32.ofNat xs1.length))), .val (.int ((p4 &&& (255 : Int32)).toUInt32.toUInt16.toUInt32.toInt32)), .val (.ref b101), .val (own_ev xs101 w0 w1 w2 w3 w4), .val (.ref o108)]) rfl k) ?_
          show GoW _ _ _ _ _ _ _ (T108.setTop (mkF m 376 #[.val (.int p1), .val (.int p2), .val (.int p3), .val (.int p4), .val (.long q5), .second, .val (.int (p1 &&& (7 : Int32))), .val (.ref b1), .val (.int (Int32.ofNat xs1.length)), .val (.ref b6), .val (.int ((p3 &&& (2147483647 : Int32)) % (Int32.ofNat xs1.length))), .val (.int ((p4 &&& (255 : Int32)).toUInt32.toUInt16.toUInt32.toInt32)), .val (.ref b101), .val (own_ev xs101 w0 w1 w2 w3 w4), .val (.ref o108)] []))
          refine GoW.of (fun t k => XS.aload X108.here hx rfl (hb hby at_376) rfl rfl k) ?_
          show GoW _ _ _ _ _ _ _ (T108.setTop (mkF m 378 #[.val (.int p1), .val (.int p2), .val (.int p3), .val (.int p4), .val (.long q5), .second, .val (.int (p1 &&& (7 : Int32))), .val (.ref b1), .val (.int (Int32.ofNat xs1.length)), .val (.ref b6), .val (.int ((p3 &&& (2147483647 : Int32)) % (Int32.ofNat xs1.length))), .val (.int ((p4 &&& (255 : Int32)).toUInt32.toUInt16.toUInt32.toInt32)), .val (.ref b101), .val (own_ev xs101 w0 w1 w2 w3 w4), .val (.ref o108)] [(.ref o108)]))
          refine GoW.of (fun t k => XS.ifnonnullYes X108.here hx rfl (pc0 := 378) (pc' := 383) rfl (hb hby at_378) rfl (by decide) (by decide) k) ?_
          show GoW _ _ _ _ _ _ _ (T108.setTop (mkF m 383 #[.val (.int p1), .val (.int p2), .val (.int p3), .val (.int p4), .val (.long q5), .second, .val (.int (p1 &&& (7 : Int32))), .val (.ref b1), .val (.int (Int32.ofNat xs1.length)), .val (.ref b6), .val (.int ((p3 &&& (2147483647 : Int32)) % (Int32.ofNat xs1.length))), .val (.int ((p4 &&& (255 : Int32)).toUInt32.toUInt16.toUInt32.toInt32)), .val (.ref b101), .val (own_ev xs101 w0 w1 w2 w3 w4), .val (.ref o108)] []))
          refine GoW.of (fun t k => XS.aload X108.here hx rfl (hb hby at_383) rfl (own_ev_ref xs101 w0 w1 w2 w3 w4) k) ?_
          show GoW _ _ _ _ _ _ _ (T108.setTop (mkF m 385 #[.val (.int p1), .val (.int p2), .val (.int p3), .val (.int p4), .val (.long q5), .second, .val (.int (p1 &&& (7 : Int32))), .val (.ref b1), .val (.int (Int32.ofNat xs1.length)), .val (.ref b6), .val (.int ((p3 &&& (2147483647 : Int32)) % (Int32.ofNat xs1.length))), .val (.int ((p4 &&& (255 : Int32)).toUInt32.toUInt16.toUInt32.toInt32)), .val (.ref b101), .val (own_ev xs101 w0 w1 w2 w3 w4), .val (.ref o108)] [(own_ev xs101 w0 w1 w2 w3 w4)]))
          rcases ref_cases (own_ev_ref xs101 w0 w1 w2 w3 w4) with hv110 | ⟨xv110, hv110⟩
          · skip
            refine GoW.of (fun t k => XS.ifnonnullNo X108.here hx rfl (hb hby at_385) (congrArg (fun z => (z :: [] : List Value)) hv110) k) ?_
            show GoW _ _ _ _ _ _ _ (T108.setTop (mkF m 388 #[.val (.int p1), .val (.int p2), .val (.int p3), .val (.int p4), .val (.long q5), .second, .val (.int (p1 &&& (7 : Int32))), .val (.ref b1), .val (.int (Int32.ofNat xs1.length)), .val (.ref b6), .val (.int ((p3 &&& (2147483647 : Int32)) % (Int32.ofNat xs1.length))), .val (.int ((p4 &&& (255 : Int32)).toUInt32.toUInt16.toUInt32.toInt32)), .val (.ref b101), .val (own_ev xs101 w0 w1 w2 w3 w4), .val (.ref o108)] []))
            refine GoW.of (fun t k => XS.aload X108.here hx rfl (hb hby at_388) rfl rfl k) ?_
            show GoW _ _ _ _ _ _ _ (T108.setTop (mkF m 390 #[.val (.int p1), .val (.int p2), .val (.int p3), .val (.int p4), .val (.long q5), .second, .val (.int (p1 &&& (7 : Int32))), .val (.ref b1), .val (.int (Int32.ofNat xs1.length)), .val (.ref b6), .val (.int ((p3 &&& (2147483647 : Int32)) % (Int32.ofNat xs1.length))), .val (.int ((p4 &&& (255 : Int32)).toUInt32.toUInt16.toUInt32.toInt32)), .val (.ref b101), .val (own_ev xs101 w0 w1 w2 w3 w4), .val (.ref o108)] [(.ref o108)]))
            obtain ⟨cq111, kq111, q111a, q111b, q111c⟩ := isOf hZ rfl Ex108
            obtain ⟨_, _, ⟨T111, L111, k111, n111⟩, -, X111, ⟨Lc111, hQ111, l111, y111, z111⟩, st111⟩ := X108.virtualBack hx (y := (⟨"java/util/Optional", "isEmpty", "()Z"⟩ : MethodName)) (z := (⟨"java/util/Optional", "isEmpty", "()Z"⟩ : MethodName)) hown (mvT hZ (own_w hw 152 rfl)) (mvT hZ (own_w hw 153 rfl)) (notFace_of_selects (args := #[]) (mvT hZ (own_w hw 155 rfl))) (mvT hZ (own_w hw 155 rfl)) (mvT hZ (own_w hw 154 rfl)) (by decide) (backOf (W := 0) (rm28 l Z a0 hw [] o108 T108.heap n0 (by omega) (by rw [← hv110]; exact Fv108)) hZ (own_w hw 156 rfl) (own_w hw 121 rfl) (by decide) (by decide)) q111a q111c (g := (mkF m 390 #[.val (.int p1), .val (.int p2), .val (.int p3), .val (.int p4), .val (.long q5), .second, .val (.int (p1 &&& (7 : Int32))), .val (.ref b1), .val (.int (Int32.ofNat xs1.length)), .val (.ref b6), .val (.int ((p3 &&& (2147483647 : Int32)) % (Int32.ofNat xs1.length))), .val (.int ((p4 &&& (255 : Int32)).toUInt32.toUInt16.toUInt32.toInt32)), .val (.ref b101), .val (own_ev xs101 w0 w1 w2 w3 w4), .val (.ref o108)] [(.ref o108)])) rfl (by rw [hml]; rfl) (Steps.refl _) (argsL := []) (rest := []) (lenOf pd_15 rfl) rfl (by show 2 * 0 + _ ≤ _; exact Nat.le_of_eq rfl) (hb hby at_390) (fun _ _ => ⟨rfl, rfl, (by decide : 19 + 0 ≤ _), (by decide : 202 + 0 ≤ _)⟩)
            dsimp only [Pt.U, Pt.locs, Pt.cells, Pt.slots] at X111 l111 y111 z111 st111 hQ111
            replace y111 : k111 = 19 := y111.trans (by decide)
            replace z111 : n111 = 202 := z111.trans (by decide)
            subst y111 z111
            obtain ⟨rfl, N111q, e111⟩ := hQ111
            have N111 : Fr n0 L111 := by rw [l111]; exact Fr.app N108 N111q
            clear l111
            refine GoW.tr st111 ?_
            show GoW _ _ _ _ _ _ _ (T111.setTop (mkF m 393 #[.val (.int p1), .val (.int p2), .val (.int p3), .val (.int p4), .val (.long q5), .second, .val (.int (p1 &&& (7 : Int32))), .val (.ref b1), .val (.int (Int32.ofNat xs1.length)), .val (.ref b6), .val (.int ((p3 &&& (2147483647 : Int32)) % (Int32.ofNat xs1.length))), .val (.int ((p4 &&& (255 : Int32)).toUInt32.toUInt16.toUInt32.toInt32)), .val (.ref b101), .val (own_ev xs101 w0 w1 w2 w3 w4), .val (.ref o108)] [(.int (1 : Int32))]))
            refine GoW.out X111 hS (by rw [e111]; omega) (v := some (.int (1 : Int32))) (fun h => by rw [Bd.returns] at h; cases h) hlk (fun fs hr => retN X111 hx (t := .boolean) Bd.returns (by simp) (hb hby at_393) hr) ?_ (by decide) (by decide)
            show Q0 Z p1 p2 p3 p4 q5 cs fm w0 w1 w2 w3 w4 s0 s1 s2 s3 s4 wE wV kv h0 n0 _ T111.heap _
            rw [e111]
            exact ⟨rfl, N111⟩
          · skip
            refine GoW.of (fun t k => XS.ifnonnullYes X108.here hx rfl (pc0 := 385) (pc' := 394) rfl (hb hby at_385) (congrArg (fun z => (z :: [] : List Value)) hv110) (by decide) (by decide) k) ?_
            show GoW _ _ _ _ _ _ _ (T108.setTop (mkF m 394 #[.val (.int p1), .val (.int p2), .val (.int p3), .val (.int p4), .val (.long q5), .second, .val (.int (p1 &&& (7 : Int32))), .val (.ref b1), .val (.int (Int32.ofNat xs1.length)), .val (.ref b6), .val (.int ((p3 &&& (2147483647 : Int32)) % (Int32.ofNat xs1.length))), .val (.int ((p4 &&& (255 : Int32)).toUInt32.toUInt16.toUInt32.toInt32)), .val (.ref b101), .val (own_ev xs101 w0 w1 w2 w3 w4), .val (.ref o108)] []))
            refine GoW.of (fun t k => XS.aload X108.here hx rfl (hb hby at_394) rfl rfl k) ?_
            show GoW _ _ _ _ _ _ _ (T108.setTop (mkF m 396 #[.val (.int p1), .val (.int p2), .val (.int p3), .val (.int p4), .val (.long q5), .second, .val (.int (p1 &&& (7 : Int32))), .val (.ref b1), .val (.int (Int32.ofNat xs1.length)), .val (.ref b6), .val (.int ((p3 &&& (2147483647 : Int32)) % (Int32.ofNat xs1.length))), .val (.int ((p4 &&& (255 : Int32)).toUInt32.toUInt16.toUInt32.toInt32)), .val (.ref b101), .val (own_ev xs101 w0 w1 w2 w3 w4), .val (.ref o108)] [(.ref o108)]))
            obtain ⟨cq112, kq112, q112a, q112b, q112c⟩ := isOf hZ rfl Ex108
            obtain ⟨_, _, ⟨T112, L112, k112, n112⟩, -, X112, ⟨Lc112, hQ112, l112, y112, z112⟩, st112⟩ := X108.virtualBack hx (y := (⟨"java/util/Optional", "isPresent", "()Z"⟩ : MethodName)) (z := (⟨"java/util/Optional", "isPresent", "()Z"⟩ : MethodName)) hown (mvT hZ (own_w hw 136 rfl)) (mvT hZ (own_w hw 137 rfl)) (notFace_of_selects (args := #[]) (mvT hZ (own_w hw 139 rfl))) (mvT hZ (own_w hw 139 rfl)) (mvT hZ (own_w hw 138 rfl)) (by decide) (backOf (W := 0) (rm25 l Z a0 hw [] o108 xv110 T108.heap n0 (by omega) (by rw [← hv110]; exact Fv108)) hZ (own_w hw 140 rfl) (own_w hw 121 rfl) (by decide) (by decide)) q112a q112c (g := (mkF m 396 #[.val (.int p1), .val (.int p2), .val (.int p3), .val (.int p4), .val (.long q5), .second, .val (.int (p1 &&& (7 : Int32))), .val (.ref b1), .val (.int (Int32.ofNat xs1.length)), .val (.ref b6), .val (.int ((p3 &&& (2147483647 : Int32)) % (Int32.ofNat xs1.length))), .val (.int ((p4 &&& (255 : Int32)).toUInt32.toUInt16.toUInt32.toInt32)), .val (.ref b101), .val (own_ev xs101 w0 w1 w2 w3 w4), .val (.ref o108)] [(.ref o108)])) rfl (by rw [hml]; rfl) (Steps.refl _) (argsL := []) (rest := []) (lenOf pd_15 rfl) rfl (by show 2 * 0 + _ ≤ _; exact Nat.le_of_eq rfl) (hb hby at_396) (fun _ _ => ⟨rfl, rfl, (by decide : 19 + 0 ≤ _), (by decide : 202 + 0 ≤ _)⟩)
            dsimp only [Pt.U, Pt.locs, Pt.cells, Pt.slots] at X112 l112 y112 z112 st112 hQ112
            replace y112 : k112 = 19 := y112.trans (by decide)
            replace z112 : n112 = 202 := z112.trans (by decide)
            subst y112 z112
            obtain ⟨rfl, N112q, e112⟩ := hQ112
            have N112 : Fr n0 L112 := by rw [l112]; exact Fr.app N108 N112q
            clear l112
            refine GoW.tr st112 ?_
            show GoW _ _ _ _ _ _ _ (T112.setTop (mkF m 399 #[.val (.int p1), .val (.int p2), .val (.int p3), .val (.int p4), .val (.long q5), .second, .val (.int (p1 &&& (7 : Int32))), .val (.ref b1), .val (.int (Int32.ofNat xs1.length)), .val (.ref b6), .val (.int ((p3 &&& (2147483647 : Int32)) % (Int32.ofNat xs1.length))), .val (.int ((p4 &&& (255 : Int32)).toUInt32.toUInt16.toUInt32.toInt32)), .val (.ref b101), .val (own_ev xs101 w0 w1 w2 w3 w4), .val (.ref o108)] [(.int (1 : Int32))]))
            refine GoW.of (fun t k => XS.ifNo X112.here hx rfl (hb hby at_399) rfl ((if0 _ _).trans (feq (by decide : ¬ ((1 : Int32) = (0 : Int32)))).1) k) ?_
            show GoW _ _ _ _ _ _ _ (T112.setTop (mkF m 402 #[.val (.int p1), .val (.int p2), .val (.int p3), .val (.int p4), .val (.long q5), .second, .val (.int (p1 &&& (7 : Int32))), .val (.ref b1), .val (.int (Int32.ofNat xs1.length)), .val (.ref b6), .val (.int ((p3 &&& (2147483647 : Int32)) % (Int32.ofNat xs1.length))), .val (.int ((p4 &&& (255 : Int32)).toUInt32.toUInt16.toUInt32.toInt32)), .val (.ref b101), .val (own_ev xs101 w0 w1 w2 w3 w4), .val (.ref o108)] []))
            refine GoW.of (fun t k => XS.aload X112.here hx rfl (hb hby at_402) rfl rfl k) ?_
            show GoW _ _ _ _ _ _ _ (T112.setTop (mkF m 404 #[.val (.int p1), .val (.int p2), .val (.int p3), .val (.int p4), .val (.long q5), .second, .val (.int (p1 &&& (7 : Int32))), .val (.ref b1), .val (.int (Int32.ofNat xs1.length)), .val (.ref b6), .val (.int ((p3 &&& (2147483647 : Int32)) % (Int32.ofNat xs1.length))), .val (.int ((p4 &&& (255 : Int32)).toUInt32.toUInt16.toUInt32.toInt32)), .val (.ref b101), .val (own_ev xs101 w0 w1 w2 w3 w4), .val (.ref o108)] [(.ref o108)]))
            obtain ⟨cq113, kq113, q113a, q113b, q113c⟩ := isOf hZ e112 Ex108
            obtain ⟨_, _, ⟨T113, L113, k113, n113⟩, -, X113, ⟨Lc113, hQ113, l113, y113, z113⟩, st113⟩ := X112.virtualBack hx (y := (⟨"java/util/Optional", "get", "()Ljava/lang/Object;"⟩ : MethodName)) (z := (⟨"java/util/Optional", "get", "()Ljava/lang/Object;"⟩ : MethodName)) hown (mvT hZ (own_w hw 141 rfl)) (mvT hZ (own_w hw 142 rfl)) (notFace_of_selects (args := #[]) (mvT hZ (own_w hw 144 rfl))) (mvT hZ (own_w hw 144 rfl)) (mvT hZ (own_w hw 143 rfl)) (by decide) (backOf (W := 0) (rm26 l Z a0 hw [] o108 xv110 T108.heap n0 (by omega) (by rw [← hv110]; exact Fv108)) hZ (own_w hw 145 rfl) (own_w hw 121 rfl) (by decide) (by decide)) q113a q113c (g := (mkF m 404 #[.val (.int p1), .val (.int p2), .val (.int p3), .val (.int p4), .val (.long q5), .second, .val (.int (p1 &&& (7 : Int32))), .val (.ref b1), .val (.int (Int32.ofNat xs1.length)), .val (.ref b6), .val (.int ((p3 &&& (2147483647 : Int32)) % (Int32.ofNat xs1.length))), .val (.int ((p4 &&& (255 : Int32)).toUInt32.toUInt16.toUInt32.toInt32)), .val (.ref b101), .val (own_ev xs101 w0 w1 w2 w3 w4), .val (.ref o108)] [(.ref o108)])) rfl (by rw [hml]; rfl) (Steps.refl _) (argsL := []) (rest := []) (lenOf pd_16 rfl) rfl (by show 2 * 0 + _ ≤ _; exact Nat.le_of_eq rfl) (hb hby at_404) (fun _ _ => ⟨rfl, e112, (by decide : 19 + 0 ≤ _), (by decide : 202 + 0 ≤ _)⟩)
            dsimp only [Pt.U, Pt.locs, Pt.cells, Pt.slots] at X113 l113 y113 z113 st113 hQ113
            replace y113 : k113 = 19 := y113.trans (by decide)
            replace z113 : n113 = 202 := z113.trans (by decide)
            subst y113 z113
            obtain ⟨rfl, N113q, e113⟩ := hQ113
            have N113 : Fr n0 L113 := by rw [l113]; exact Fr.app N112 N113q
            clear l113
            refine GoW.tr st113 ?_
            show GoW _ _ _ _ _ _ _ (T113.setTop (mkF m 407 #[.val (.int p1), .val (.int p2), .val (.int p3), .val (.int p4), .val (.long q5), .second, .val (.int (p1 &&& (7 : Int32))), .val (.ref b1), .val (.int (Int32.ofNat xs1.length)), .val (.ref b6), .val (.int ((p3 &&& (2147483647 : Int32)) % (Int32.ofNat xs1.length))), .val (.int ((p4 &&& (255 : Int32)).toUInt32.toUInt16.toUInt32.toInt32)), .val (.ref b101), .val (own_ev xs101 w0 w1 w2 w3 w4), .val (.ref o108)] [(.ref xv110)]))
            refine GoW.of (fun t k => XS.aload X113.here hx rfl (hb hby at_407) rfl (own_ev_ref xs101 w0 w1 w2 w3 w4) k) ?_
            show GoW _ _ _ _ _ _ _ (T113.setTop (mkF m 409 #[.val (.int p1), .val (.int p2), .val (.int p3), .val (.int p4), .val (.long q5), .second, .val (.int (p1 &&& (7 : Int32))), .val (.ref b1), .val (.int (Int32.ofNat xs1.length)), .val (.ref b6), .val (.int ((p3 &&& (2147483647 : Int32)) % (Int32.ofNat xs1.length))), .val (.int ((p4 &&& (255 : Int32)).toUInt32.toUInt16.toUInt32.toInt32)), .val (.ref b101), .val (own_ev xs101 w0 w1 w2 w3 w4), .val (.ref o108)] [(own_ev xs101 w0 w1 w2 w3 w4), (.ref xv110)]))
            refine GoW.of (fun t k => Jvm.RoadKit.acmp (g := (mkF m 409 #[.val (.int p1), .val (.int p2), .val (.int p3), .val (.int p4), .val (.long q5), .second, .val (.int (p1 &&& (7 : Int32))), .val (.ref b1), .val (.int (Int32.ofNat xs1.length)), .val (.ref b6), .val (.int ((p3 &&& (2147483647 : Int32)) % (Int32.ofNat xs1.length))), .val (.int ((p4 &&& (255 : Int32)).toUInt32.toUInt16.toUInt32.toInt32)), .val (.ref b101), .val (own_ev xs101 w0 w1 w2 w3 w4), .val (.ref o108)] [(own_ev xs101 w0 w1 w2 w3 w4), (.ref xv110)])) X113 hx rfl rfl (own_ev_ref xs101 w0 w1 w2 w3 w4) (pc0 := 409) (pc' := 412) (same := true) rfl (hb hby at_409) rfl (decide_eq_true hv110.symm) (by decide) (by decide) k) ?_
            show GoW _ _ _ _ _ _ _ (T113.setTop (mkF m 412 #[.val (.int p1), .val (.int p2), .val (.int p3), .val (.int p4), .val (.long q5), .second, .val (.int (p1 &&& (7 : Int32))), .val (.ref b1), .val (.int (Int32.ofNat xs1.length)), .val (.ref b6), .val (.int ((p3 &&& (2147483647 : Int32)) % (Int32.ofNat xs1.length))), .val (.int ((p4 &&& (255 : Int32)).toUInt32.toUInt16.toUInt32.toInt32)), .val (.ref b101), .val (own_ev xs101 w0 w1 w2 w3 w4), .val (.ref o108)] []))
            refine GoW.of (fun t k => XS.iconst X113.here hx rfl (hb hby at_412) k) ?_
            show GoW _ _ _ _ _ _ _ (T113.setTop (mkF m 413 #[.val (.int p1), .val (.int p2), .val (.int p3), .val (.int p4), .val (.long q5), .second, .val (.int (p1 &&& (7 : Int32))), .val (.ref b1), .val (.int (Int32.ofNat xs1.length)), .val (.ref b6), .val (.int ((p3 &&& (2147483647 : Int32)) % (Int32.ofNat xs1.length))), .val (.int ((p4 &&& (255 : Int32)).toUInt32.toUInt16.toUInt32.toInt32)), .val (.ref b101), .val (own_ev xs101 w0 w1 w2 w3 w4), .val (.ref o108)] [(.int (1 : Int32))]))
            refine GoW.of (fun t k => XS.goto X113.here hx rfl (pc0 := 413) (pc' := 417) rfl (hb hby at_413) (by decide) (by decide) k) ?_
            show GoW _ _ _ _ _ _ _ (T113.setTop (mkF m 417 #[.val (.int p1), .val (.int p2), .val (.int p3), .val (.int p4), .val (.long q5), .second, .val (.int (p1 &&& (7 : Int32))), .val (.ref b1), .val (.int (Int32.ofNat xs1.length)), .val (.ref b6), .val (.int ((p3 &&& (2147483647 : Int32)) % (Int32.ofNat xs1.length))), .val (.int ((p4 &&& (255 : Int32)).toUInt32.toUInt16.toUInt32.toInt32)), .val (.ref b101), .val (own_ev xs101 w0 w1 w2 w3 w4), .val (.ref o108)] [(.int (1 : Int32))]))
            refine GoW.out X113 hS (by rw [e113]; omega) (v := some (.int (1 : Int32))) (fun h => by rw [Bd.returns] at h; cases h) hlk (fun fs hr => retN X113 hx (t := .boolean) Bd.returns (by simp) (hb hby at_417) hr) ?_ (by decide) (by decide)
            show Q0 Z p1 p2 p3 p4 q5 cs fm w0 w1 w2 w3 w4 s0 s1 s2 s3 s4 wE wV kv h0 n0 _ T113.heap _
            rw [e113]
            exact ⟨rfl, N113⟩
        · skip
          refine GoW.of (fun t k => XS.icmpYes X46.here hx rfl (pc0 := 194) (pc' := 218) rfl (hb hby at_194) rfl (feq hc194_97).2 (by decide) (by decide) k) ?_
          show GoW _ _ _ _ _ _ _ (T46.setTop (mkF m 218 #[.val (.int p1), .val (.int p2), .val (.int p3), .val (.int p4), .val (.long q5), .second, .val (.int (p1 &&& (7 : Int32))), .val (.ref b1), .val (.int (Int32.ofNat xs1.length)), .val (.ref b6), .val (.int ((p3 &&& (2147483647 : Int32)) % (Int32.ofNat xs1.length))), .val (.int ((p4 &&& (255 : Int32)).toUInt32.toUInt16.toUInt32.toInt32)), .unset, .unset, .unset] []))
          refine GoW.of (fun t k => XS.iload X46.here hx rfl (hb hby at_218) rfl k) ?_
          show GoW _ _ _ _ _ _ _ (T46.setTop (mkF m 220 #[.val (.int p1), .val (.int p2), .val (.int p3), .val (.int p4), .val (.long q5), .second, .val (.int (p1 &&& (7 : Int32))), .val (.ref b1), .val (.int (Int32.ofNat xs1.length)), .val (.ref b6), .val (.int ((p3 &&& (2147483647 : Int32)) % (Int32.ofNat xs1.length))), .val (.int ((p4 &&& (255 : Int32)).toUInt32.toUInt16.toUInt32.toInt32)), .unset, .unset, .unset] [(.int (p1 &&& (7 : Int32)))]))
          refine GoW.of (fun t k => XS.iconst X46.here hx rfl (hb hby at_220) k) ?_
          show GoW _ _ _ _ _ _ _ (T46.setTop (mkF m 221 #[.val (.int p1), .val (.int p2), .val (.int p3), .val (.int p4), .val (.long q5), .second, .val (.int (p1 &&& (7 : Int32))), .val (.ref b1), .val (.int (Int32.ofNat xs1.length)), .val (.ref b6), .val (.int ((p3 &&& (2147483647 : Int32)) % (Int32.ofNat xs1.length))), .val (.int ((p4 &&& (255 : Int32)).toUInt32.toUInt16.toUInt32.toInt32)), .unset, .unset, .unset] [(.int (4 : Int32)), (.int (p1 &&& (7 : Int32)))]))
          by_cases hc221_114 : (p1 &&& (7 : Int32)) = (4 : Int32)
          · skip
            refine GoW.of (fun t k => XS.icmpNo X46.here hx rfl (hb hby at_221) rfl (teq hc221_114).2 k) ?_
            show GoW _ _ _ _ _ _ _ (T46.setTop (mkF m 224 #[.val (.int p1), .val (.int p2), .val (.int p3), .val (.int p4), .val (.long q5), .second, .val (.int (p1 &&& (7 : Int32))), .val (.ref b1), .val (.int (Int32.ofNat xs1.length)), .val (.ref b6), .val (.int ((p3 &&& (2147483647 : Int32)) % (Int32.ofNat xs1.length))), .val (.int ((p4 &&& (255 : Int32)).toUInt32.toUInt16.toUInt32.toInt32)), .unset, .unset, .unset] []))
            refine GoW.of (fun t k => XS.aconstNull X46.here hx rfl (hb hby at_224) k) ?_
            show GoW _ _ _ _ _ _ _ (T46.setTop (mkF m 225 #[.val (.int p1), .val (.int p2), .val (.int p3), .val (.int p4), .val (.long q5), .second, .val (.int (p1 &&& (7 : Int32))), .val (.ref b1), .val (.int (Int32.ofNat xs1.length)), .val (.ref b6), .val (.int ((p3 &&& (2147483647 : Int32)) % (Int32.ofNat xs1.length))), .val (.int ((p4 &&& (255 : Int32)).toUInt32.toUInt16.toUInt32.toInt32)), .unset, .unset, .unset] [.null]))
            refine GoW.of (fun t k => XS.astore X46.here hx rfl (hb hby at_225) rfl rfl (l' := #[.val (.int p1), .val (.int p2), .val (.int p3), .val (.int p4), .val (.long q5), .second, .val (.int (p1 &&& (7 : Int32))), .val (.ref b1), .val (.int (Int32.ofNat xs1.length)), .val (.ref b6), .val (.int ((p3 &&& (2147483647 : Int32)) % (Int32.ofNat xs1.length))), .val (.int ((p4 &&& (255 : Int32)).toUInt32.toUInt16.toUInt32.toInt32)), .val .null, .unset, .unset]) rfl k) ?_
            show GoW _ _ _ _ _ _ _ (T46.setTop (mkF m 227 #[.val (.int p1), .val (.int p2), .val (.int p3), .val (.int p4), .val (.long q5), .second, .val (.int (p1 &&& (7 : Int32))), .val (.ref b1), .val (.int (Int32.ofNat xs1.length)), .val (.ref b6), .val (.int ((p3 &&& (2147483647 : Int32)) % (Int32.ofNat xs1.length))), .val (.int ((p4 &&& (255 : Int32)).toUInt32.toUInt16.toUInt32.toInt32)), .val .null, .unset, .unset] []))
            refine GoW.of (fun t k => XS.goto X46.here hx rfl (pc0 := 227) (pc' := 362) rfl (hb hby at_227) (by decide) (by decide) k) ?_
            show GoW _ _ _ _ _ _ _ (T46.setTop (mkF m 362 #[.val (.int p1), .val (.int p2), .val (.int p3), .val (.int p4), .val (.long q5), .second, .val (.int (p1 &&& (7 : Int32))), .val (.ref b1), .val (.int (Int32.ofNat xs1.length)), .val (.ref b6), .val (.int ((p3 &&& (2147483647 : Int32)) % (Int32.ofNat xs1.length))), .val (.int ((p4 &&& (255 : Int32)).toUInt32.toUInt16.toUInt32.toInt32)), .val .null, .unset, .unset] []))
            refine GoW.of (fun t k => XS.aload X46.here hx rfl (hb hby at_362) rfl rfl k) ?_
            show GoW _ _ _ _ _ _ _ (T46.setTop (mkF m 364 #[.val (.int p1), .val (.int p2), .val (.int p3), .val (.int p4), .val (.long q5), .second, .val (.int (p1 &&& (7 : Int32))), .val (.ref b1), .val (.int (Int32.ofNat xs1.length)), .val (.ref b6), .val (.int ((p3 &&& (2147483647 : Int32)) % (Int32.ofNat xs1.length))), .val (.int ((p4 &&& (255 : Int32)).toUInt32.toUInt16.toUInt32.toInt32)), .val .null, .unset, .unset] [.null]))
            obtain ⟨_, _, ⟨T115, L115, k115, n115⟩, -, X115, ⟨Lc115, hQ115, l115, y115, z115⟩, st115⟩ := Jvm.LawKit.callS X46 hx (y := (⟨"com/example/clearstep/clearstep/core/EventKindFromWordPinLaw", "expected", "(Ljava/lang/String;)Lcom/example/clearstep/clearstep/core/EventKind;"⟩ : MethodName)) hown (mvT hZ (own_w hw 76 rfl)) (mvT hZ (own_w hw 77 rfl)) (mvT hZ (own_w hw 3 rfl)) (mvT hZ (own_w hw 78 rfl)) (by decide) (backOf (W := 0) (rmXN l Z a0 hw []  h46 n0 (by omega) ) hZ (own_w hw 78 rfl) (own_w hw 3 rfl) (by decide) (by decide)) (g := (mkF m 364 #[.val (.int p1), .val (.int p2), .val (.int p3), .val (.int p4), .val (.long q5), .second, .val (.int (p1 &&& (7 : Int32))), .val (.ref b1), .val (.int (Int32.ofNat xs1.length)), .val (.ref b6), .val (.int ((p3 &&& (2147483647 : Int32)) % (Int32.ofNat xs1.length))), .val (.int ((p4 &&& (255 : Int32)).toUInt32.toUInt16.toUInt32.toInt32)), .val .null, .unset, .unset] [.null])) rfl (by rw [hml]; rfl) (argsL := [.null]) (rest := []) (lenOf pd_13 rfl) rfl (by show 2 * 0 + _ ≤ _; exact Nat.le_of_eq rfl) (hb hby at_364) (fun _ _ => ⟨rfl, e46, (by decide : 3 + 0 ≤ _), (by decide : 40 + 0 ≤ _)⟩)
            dsimp only [Pt.U, Pt.locs, Pt.cells, Pt.slots] at X115 l115 y115 z115 st115 hQ115
            replace y115 : k115 = 3 := y115.trans (by decide)
            replace z115 : n115 = 40 := z115.trans (by decide)
            subst y115 z115
            obtain ⟨rfl, N115q, e115⟩ := hQ115
            have N115 : Fr n0 L115 := by rw [l115]; exact Fr.app N46 N115q
            clear l115
            refine GoW.of st115 ?_
            show GoW _ _ _ _ _ _ _ (T115.setTop (mkF m 367 #[.val (.int p1), .val (.int p2), .val (.int p3), .val (.int p4), .val (.long q5), .second, .val (.int (p1 &&& (7 : Int32))), .val (.ref b1), .val (.int (Int32.ofNat xs1.length)), .val (.ref b6), .val (.int ((p3 &&& (2147483647 : Int32)) % (Int32.ofNat xs1.length))), .val (.int ((p4 &&& (255 : Int32)).toUInt32.toUInt16.toUInt32.toInt32)), .val .null, .unset, .unset] [.null]))
            refine GoW.of (fun t k => XS.astore X115.here hx rfl (hb hby at_367) rfl rfl (l' := #[.val (.int p1), .val (.int p2), .val (.int p3), .val (.int p4), .val (.long q5), .second, .val (.int (p1 &&& (7 : Int32))), .val (.ref b1), .val (.int (Int32.ofNat xs1.length)), .val (.ref b6), .val (.int ((p3 &&& (2147483647 : Int32)) % (Int32.ofNat xs1.length))), .val (.int ((p4 &&& (255 : Int32)).toUInt32.toUInt16.toUInt32.toInt32)), .val .null, .val .null, .unset]) rfl k) ?_
            show GoW _ _ _ _ _ _ _ (T115.setTop (mkF m 369 #[.val (.int p1), .val (.int p2), .val (.int p3), .val (.int p4), .val (.long q5), .second, .val (.int (p1 &&& (7 : Int32))), .val (.ref b1), .val (.int (Int32.ofNat xs1.length)), .val (.ref b6), .val (.int ((p3 &&& (2147483647 : Int32)) % (Int32.ofNat xs1.length))), .val (.int ((p4 &&& (255 : Int32)).toUInt32.toUInt16.toUInt32.toInt32)), .val .null, .val .null, .unset] []))
            refine GoW.of (fun t k => XS.aload X115.here hx rfl (hb hby at_369) rfl rfl k) ?_
            show GoW _ _ _ _ _ _ _ (T115.setTop (mkF m 371 #[.val (.int p1), .val (.int p2), .val (.int p3), .val (.int p4), .val (.long q5), .second, .val (.int (p1 &&& (7 : Int32))), .val (.ref b1), .val (.int (Int32.ofNat xs1.length)), .val (.ref b6), .val (.int ((p3 &&& (2147483647 : Int32)) % (Int32.ofNat xs1.length))), .val (.int ((p4 &&& (255 : Int32)).toUInt32.toUInt16.toUInt32.toInt32)), .val .null, .val .null, .unset] [.null]))
            have f116 := (f44.wr W46 (by omega))
            obtain ⟨_, _, ⟨T117, L117, k117, n117⟩, -, X117, ⟨Lc117, hQ117, l117, y117, z117⟩, st117⟩ := Jvm.LawKit.callS X115 hx (y := (⟨"com/example/clearstep/clearstep/core/EventKind", "fromWord", "(Ljava/lang/String;)Ljava/util/Optional;"⟩ : MethodName)) hown (mvT hZ (own_w hw 94 rfl)) (mvT hZ (own_w hw 95 rfl)) (mvT hZ (own_w hw 92 rfl)) (mvT hZ (own_w hw 96 rfl)) (by decide) (backOf (W := 0) (rmFN l Z a0 hw [] cs w0 w1 w2 w3 w4 s0 s1 s2 s3 s4 wE wV kv h46 n0 (by omega) f116 S_cs hcs F_w0 F_w1 F_w2 F_w3 F_w4 S_w0 S_w1 S_w2 S_w3 S_w4 S_E E_E F_E S_V V_V E_V) hZ (own_w hw 96 rfl) (own_w hw 92 rfl) (by decide) (by decide)) (g := (mkF m 371 #[.val (.int p1), .val (.int p2), .val (.int p3), .val (.int p4), .val (.long q5), .second, .val (.int (p1 &&& (7 : Int32))), .val (.ref b1), .val (.int (Int32.ofNat xs1.length)), .val (.ref b6), .val (.int ((p3 &&& (2147483647 : Int32)) % (Int32.ofNat xs1.length))), .val (.int ((p4 &&& (255 : Int32)).toUInt32.toUInt16.toUInt32.toInt32)), .val .null, .val .null, .unset] [.null])) rfl (by rw [hml]; rfl) (argsL := [.null]) (rest := []) (lenOf pd_14 rfl) rfl (by show 2 * 0 + _ ≤ _; exact Nat.le_of_eq rfl) (hb hby at_371) (fun _ _ => ⟨rfl, e115, (by decide : 3 + 2 ≤ _), (by decide : 40 + 6 ≤ _)⟩)
            dsimp only [Pt.U, Pt.locs, Pt.cells, Pt.slots] at X117 l117 y117 z117 st117 hQ117
            replace y117 : k117 = 5 := y117.trans (by decide)
            replace z117 : n117 = 46 := z117.trans (by decide)
            subst y117 z117
            obtain ⟨o117, rfl, N117q, K117, hlt117, Ex117, Fv117⟩ := hQ117
            have N117 : Fr n0 L117 := by rw [l117]; exact Fr.app N115 N117q
            clear l117
            refine GoW.of st117 ?_
            have hs118 : h46.size ≤ T117.heap.size := K117.1
            show GoW _ _ _ _ _ _ _ (T117.setTop (mkF m 374 #[.val (.int p1), .val (.int p2), .val (.int p3), .val (.int p4), .val (.long q5), .second, .val (.int (p1 &&& (7 : Int32))), .val (.ref b1), .val (.int (Int32.ofNat xs1.length)), .val (.ref b6), .val (.int ((p3 &&& (2147483647 : Int32)) % (Int32.ofNat xs1.length))), .val (.int ((p4 &&& (255 : Int32)).toUInt32.toUInt16.toUInt32.toInt32)), .val .null, .val .null, .unset] [(.ref o117)]))
            refine GoW.of (fun t k => XS.astore X117.here hx rfl (hb hby at_374) rfl rfl (l' := #[.val (.int p1), .val (.int p2), .val (.int p3), .val (.int p4), .val (.long q5), .second, .val (.int (p1 &&& (7 : Int32))), .val (.ref b1), .val (.int (Int32.ofNat xs1.length)), .val (.ref b6), .val (.int ((p3 &&& (2147483647 : Int32)) % (Int32.ofNat xs1.length))), .val (.int ((p4 &&& (255 : Int32)).toUInt32.toUInt16.toUInt32.toInt32)), .val .null, .val .null, .val (.ref o117)]) rfl k) ?_
            show GoW _ _ _ _ _ _ _ (T117.setTop (mkF m 376 #[.val (.int p1), .val (.int p2), .val (.int p3), .val (.int p4), .val (.long q5), .second, .val (.int (p1 &&& (7 : Int32))), .val (.ref b1), .val (.int (Int32.ofNat xs1.length)), .val (.ref b6), .val (.int ((p3 &&& (2147483647 : Int32)) % (Int32.ofNat xs1.length))), .val (.int ((p4 &&& (255 : Int32)).toUInt32.toUInt16.toUInt32.toInt32)), .val .null, .val .null, .val (.ref o117)] []))
            refine GoW.of (fun t k => XS.aload X117.here hx rfl (hb hby at_376) rfl rfl k) ?_
            show GoW _ _ _ _ _ _ _ (T117.setTop (mkF m 378 #[.val (.int p1), .val (.int p2), .val (.int p3), .val (.int p4), .val (.long q5), .second, .val (.int (p1 &&& (7 : Int32))), .val (.ref b1), .val (.int (Int32.ofNat xs1.length)), .val (.ref b6), .val (.int ((p3 &&& (2147483647 : Int32)) % (Int32.ofNat xs1.length))), .val (.int ((p4 &&& (255 : Int32)).toUInt32.toUInt16.toUInt32.toInt32)), .val .null, .val .null, .val (.ref o117)] [(.ref o117)]))
            refine GoW.of (fun t k => XS.ifnonnullYes X117.here hx rfl (pc0 := 378) (pc' := 383) rfl (hb hby at_378) rfl (by decide) (by decide) k) ?_
            show GoW _ _ _ _ _ _ _ (T117.setTop (mkF m 383 #[.val (.int p1), .val (.int p2), .val (.int p3), .val (.int p4), .val (.long q5), .second, .val (.int (p1 &&& (7 : Int32))), .val (.ref b1), .val (.int (Int32.ofNat xs1.length)), .val (.ref b6), .val (.int ((p3 &&& (2147483647 : Int32)) % (Int32.ofNat xs1.length))), .val (.int ((p4 &&& (255 : Int32)).toUInt32.toUInt16.toUInt32.toInt32)), .val .null, .val .null, .val (.ref o117)] []))
            refine GoW.of (fun t k => XS.aload X117.here hx rfl (hb hby at_383) rfl rfl k) ?_
            show GoW _ _ _ _ _ _ _ (T117.setTop (mkF m 385 #[.val (.int p1), .val (.int p2), .val (.int p3), .val (.int p4), .val (.long q5), .second, .val (.int (p1 &&& (7 : Int32))), .val (.ref b1), .val (.int (Int32.ofNat xs1.length)), .val (.ref b6), .val (.int ((p3 &&& (2147483647 : Int32)) % (Int32.ofNat xs1.length))), .val (.int ((p4 &&& (255 : Int32)).toUInt32.toUInt16.toUInt32.toInt32)), .val .null, .val .null, .val (.ref o117)] [.null]))
            refine GoW.of (fun t k => XS.ifnonnullNo X117.here hx rfl (hb hby at_385) rfl k) ?_
            show GoW _ _ _ _ _ _ _ (T117.setTop (mkF m 388 #[.val (.int p1), .val (.int p2), .val (.int p3), .val (.int p4), .val (.long q5), .second, .val (.int (p1 &&& (7 : Int32))), .val (.ref b1), .val (.int (Int32.ofNat xs1.length)), .val (.ref b6), .val (.int ((p3 &&& (2147483647 : Int32)) % (Int32.ofNat xs1.length))), .val (.int ((p4 &&& (255 : Int32)).toUInt32.toUInt16.toUInt32.toInt32)), .val .null, .val .null, .val (.ref o117)] []))
            refine GoW.of (fun t k => XS.aload X117.here hx rfl (hb hby at_388) rfl rfl k) ?_
            show GoW _ _ _ _ _ _ _ (T117.setTop (mkF m 390 #[.val (.int p1), .val (.int p2), .val (.int p3), .val (.int p4), .val (.long q5), .second, .val (.int (p1 &&& (7 : Int32))), .val (.ref b1), .val (.int (Int32.ofNat xs1.length)), .val (.ref b6), .val (.int ((p3 &&& (2147483647 : Int32)) % (Int32.ofNat xs1.length))), .val (.int ((p4 &&& (255 : Int32)).toUInt32.toUInt16.toUInt32.toInt32)), .val .null, .val .null, .val (.ref o117)] [(.ref o117)]))
            obtain ⟨cq119, kq119, q119a, q119b, q119c⟩ := isOf hZ rfl Ex117
            obtain ⟨_, _, ⟨T119, L119, k119, n119⟩, -, X119, ⟨Lc119, hQ119, l119, y119, z119⟩, st119⟩ := X117.virtualBack hx (y := (⟨"java/util/Optional", "isEmpty", "()Z"⟩ : MethodName)) (z := (⟨"java/util/Optional", "isEmpty", "()Z"⟩ : MethodName)) hown (mvT hZ (own_w hw 152 rfl)) (mvT hZ (own_w hw 153 rfl)) (notFace_of_selects (args := #[]) (mvT hZ (own_w hw 155 rfl))) (mvT hZ (own_w hw 155 rfl)) (mvT hZ (own_w hw 154 rfl)) (by decide) (backOf (W := 0) (rm28 l Z a0 hw [] o117 T117.heap n0 (by omega) Fv117) hZ (own_w hw 156 rfl) (own_w hw 121 rfl) (by decide) (by decide)) q119a q119c (g := (mkF m 390 #[.val (.int p1), .val (.int p2), .val (.int p3), .val (.int p4), .val (.long q5), .second, .val (.int (p1 &&& (7 : Int32))), .val (.ref b1), .val (.int (Int32.ofNat xs1.length)), .val (.ref b6), .val (.int ((p3 &&& (2147483647 : Int32)) % (Int32.ofNat xs1.length))), .val (.int ((p4 &&& (255 : Int32)).toUInt32.toUInt16.toUInt32.toInt32)), .val .null, .val .null, .val (.ref o117)] [(.ref o117)])) rfl (by rw [hml]; rfl) (Steps.refl _) (argsL := []) (rest := []) (lenOf pd_15 rfl) rfl (by show 2 * 0 + _ ≤ _; exact Nat.le_of_eq rfl) (hb hby at_390) (fun _ _ => ⟨rfl, rfl, (by decide : 5 + 0 ≤ _), (by decide : 46 + 0 ≤ _)⟩)
            dsimp only [Pt.U, Pt.locs, Pt.cells, Pt.slots] at X119 l119 y119 z119 st119 hQ119
            replace y119 : k119 = 5 := y119.trans (by decide)
            replace z119 : n119 = 46 := z119.trans (by decide)
            subst y119 z119
            obtain ⟨rfl, N119q, e119⟩ := hQ119
            have N119 : Fr n0 L119 := by rw [l119]; exact Fr.app N117 N119q
            clear l119
            refine GoW.tr st119 ?_
            show GoW _ _ _ _ _ _ _ (T119.setTop (mkF m 393 #[.val (.int p1), .val (.int p2), .val (.int p3), .val (.int p4), .val (.long q5), .second, .val (.int (p1 &&& (7 : Int32))), .val (.ref b1), .val (.int (Int32.ofNat xs1.length)), .val (.ref b6), .val (.int ((p3 &&& (2147483647 : Int32)) % (Int32.ofNat xs1.length))), .val (.int ((p4 &&& (255 : Int32)).toUInt32.toUInt16.toUInt32.toInt32)), .val .null, .val .null, .val (.ref o117)] [(.int (1 : Int32))]))
            refine GoW.out X119 hS (by rw [e119]; omega) (v := some (.int (1 : Int32))) (fun h => by rw [Bd.returns] at h; cases h) hlk (fun fs hr => retN X119 hx (t := .boolean) Bd.returns (by simp) (hb hby at_393) hr) ?_ (by decide) (by decide)
            show Q0 Z p1 p2 p3 p4 q5 cs fm w0 w1 w2 w3 w4 s0 s1 s2 s3 s4 wE wV kv h0 n0 _ T119.heap _
            rw [e119]
            exact ⟨rfl, N119⟩
          · skip
            refine GoW.of (fun t k => XS.icmpYes X46.here hx rfl (pc0 := 221) (pc' := 230) rfl (hb hby at_221) rfl (feq hc221_114).2 (by decide) (by decide) k) ?_
            show GoW _ _ _ _ _ _ _ (T46.setTop (mkF m 230 #[.val (.int p1), .val (.int p2), .val (.int p3), .val (.int p4), .val (.long q5), .second, .val (.int (p1 &&& (7 : Int32))), .val (.ref b1), .val (.int (Int32.ofNat xs1.length)), .val (.ref b6), .val (.int ((p3 &&& (2147483647 : Int32)) % (Int32.ofNat xs1.length))), .val (.int ((p4 &&& (255 : Int32)).toUInt32.toUInt16.toUInt32.toInt32)), .unset, .unset, .unset] []))
            refine GoW.of (fun t k => XS.aload X46.here hx rfl (hb hby at_230) rfl rfl k) ?_
            show GoW _ _ _ _ _ _ _ (T46.setTop (mkF m 232 #[.val (.int p1), .val (.int p2), .val (.int p3), .val (.int p4), .val (.long q5), .second, .val (.int (p1 &&& (7 : Int32))), .val (.ref b1), .val (.int (Int32.ofNat xs1.length)), .val (.ref b6), .val (.int ((p3 &&& (2147483647 : Int32)) % (Int32.ofNat xs1.length))), .val (.int ((p4 &&& (255 : Int32)).toUInt32.toUInt16.toUInt32.toInt32)), .unset, .unset, .unset] [(.ref b6)]))
            refine GoW.of (fun t k => XS.iconst X46.here hx rfl (hb hby at_232) k) ?_
            show GoW _ _ _ _ _ _ _ (T46.setTop (mkF m 233 #[.val (.int p1), .val (.int p2), .val (.int p3), .val (.int p4), .val (.long q5), .second, .val (.int (p1 &&& (7 : Int32))), .val (.ref b1), .val (.int (Int32.ofNat xs1.length)), .val (.ref b6), .val (.int ((p3 &&& (2147483647 : Int32)) % (Int32.ofNat xs1.length))), .val (.int ((p4 &&& (255 : Int32)).toUInt32.toUInt16.toUInt32.toInt32)), .unset, .unset, .unset] [(.int (0 : Int32)), (.ref b6)]))
            refine GoW.of (fun t k => XS.lload X46.here hx rfl (hb hby at_233) rfl k) ?_
            show GoW _ _ _ _ _ _ _ (T46.setTop (mkF m 235 #[.val (.int p1), .val (.int p2), .val (.int p3), .val (.int p4), .val (.long q5), .second, .val (.int (p1 &&& (7 : Int32))), .val (.ref b1), .val (.int (Int32.ofNat xs1.length)), .val (.ref b6), .val (.int ((p3 &&& (2147483647 : Int32)) % (Int32.ofNat xs1.length))), .val (.int ((p4 &&& (255 : Int32)).toUInt32.toUInt16.toUInt32.toInt32)), .unset, .unset, .unset] [(.long q5), (.int (0 : Int32)), (.ref b6)]))
            refine GoW.of (fun t k => X46.ldc2Long hx hown (mvT hZ (own_w hw 158 rfl)) (g := (mkF m 235 #[.val (.int p1), .val (.int p2), .val (.int p3), .val (.int p4), .val (.long q5), .second, .val (.int (p1 &&& (7 : Int32))), .val (.ref b1), .val (.int (Int32.ofNat xs1.length)), .val (.ref b6), .val (.int ((p3 &&& (2147483647 : Int32)) % (Int32.ofNat xs1.length))), .val (.int ((p4 &&& (255 : Int32)).toUInt32.toUInt16.toUInt32.toInt32)), .unset, .unset, .unset] [(.long q5), (.int (0 : Int32)), (.ref b6)])) rfl (hb hby at_235) _ k) ?_
            show GoW _ _ _ _ _ _ _ (T46.setTop (mkF m 238 #[.val (.int p1), .val (.int p2), .val (.int p3), .val (.int p4), .val (.long q5), .second, .val (.int (p1 &&& (7 : Int32))), .val (.ref b1), .val (.int (Int32.ofNat xs1.length)), .val (.ref b6), .val (.int ((p3 &&& (2147483647 : Int32)) % (Int32.ofNat xs1.length))), .val (.int ((p4 &&& (255 : Int32)).toUInt32.toUInt16.toUInt32.toInt32)), .unset, .unset, .unset] [(.long (255 : Int64)), (.long q5), (.int (0 : Int32)), (.ref b6)]))
            refine GoW.of (fun t k => XS.land X46.here hx rfl (hb hby at_238) rfl k) ?_
            show GoW _ _ _ _ _ _ _ (T46.setTop (mkF m 239 #[.val (.int p1), .val (.int p2), .val (.int p3), .val (.int p4), .val (.long q5), .second, .val (.int (p1 &&& (7 : Int32))), .val (.ref b1), .val (.int (Int32.ofNat xs1.length)), .val (.ref b6), .val (.int ((p3 &&& (2147483647 : Int32)) % (Int32.ofNat xs1.length))), .val (.int ((p4 &&& (255 : Int32)).toUInt32.toUInt16.toUInt32.toInt32)), .unset, .unset, .unset] [(.long (q5 &&& (255 : Int64))), (.int (0 : Int32)), (.ref b6)]))
            refine GoW.of (fun t k => XS.l2i X46.here hx rfl (hb hby at_239) rfl k) ?_
            show GoW _ _ _ _ _ _ _ (T46.setTop (mkF m 240 #[.val (.int p1), .val (.int p2), .val (.int p3), .val (.int p4), .val (.long q5), .second, .val (.int (p1 &&& (7 : Int32))), .val (.ref b1), .val (.int (Int32.ofNat xs1.length)), .val (.ref b6), .val (.int ((p3 &&& (2147483647 : Int32)) % (Int32.ofNat xs1.length))), .val (.int ((p4 &&& (255 : Int32)).toUInt32.toUInt16.toUInt32.toInt32)), .unset, .unset, .unset] [(.int ((q5 &&& (255 : Int64)).toInt32)), (.int (0 : Int32)), (.ref b6)]))
            refine GoW.of (fun t k => XS.i2c X46.here hx rfl (hb hby at_240) rfl k) ?_
            show GoW _ _ _ _ _ _ _ (T46.setTop (mkF m 241 #[.val (.int p1), .val (.int p2), .val (.int p3), .val (.int p4), .val (.long q5), .second, .val (.int (p1 &&& (7 : Int32))), .val (.ref b1), .val (.int (Int32.ofNat xs1.length)), .val (.ref b6), .val (.int ((p3 &&& (2147483647 : Int32)) % (Int32.ofNat xs1.length))), .val (.int ((p4 &&& (255 : Int32)).toUInt32.toUInt16.toUInt32.toInt32)), .unset, .unset, .unset] [(.int (((q5 &&& (255 : Int64)).toInt32).toUInt32.toUInt16.toUInt32.toInt32)), (.int (0 : Int32)), (.ref b6)]))
            obtain ⟨cl120, Ar120, q120, S120, N120', H120, G120⟩ := id V46
            have hin120 := inb_of S120 (j := (0 : Int32)) ⟨by decide, by decide⟩
            obtain ⟨T120, h120, X120, e120, W120, st120⟩ := stC X46 hx hZ e46 Ar120 (j := (0 : Int32)) hin120 (g := (mkF m 241 #[.val (.int p1), .val (.int p2), .val (.int p3), .val (.int p4), .val (.long q5), .second, .val (.int (p1 &&& (7 : Int32))), .val (.ref b1), .val (.int (Int32.ofNat xs1.length)), .val (.ref b6), .val (.int ((p3 &&& (2147483647 : Int32)) % (Int32.ofNat xs1.length))), .val (.int ((p4 &&& (255 : Int32)).toUInt32.toUInt16.toUInt32.toInt32)), .unset, .unset, .unset] [(.int (((q5 &&& (255 : Int64)).toInt32).toUInt32.toUInt16.toUInt32.toInt32)), (.int (0 : Int32)), (.ref b6)])) rfl rfl (hb hby at_241)
            have V120 : Arv Z h120 b6 k6 .char (8 : Int32) [(.int (nar .char (((q5 &&& (255 : Int64)).toInt32).toUInt32.toUInt16.toUInt32.toInt32))), (.int (nar .char z15)), (.int (nar .char z20)), (.int (nar .char z25)), (.int (nar .char z30)), (.int (nar .char z35)), (.int (nar .char z40)), (.int (nar .char z45))] (.int (0 : Int32)) := Arv.set Ar120 q120 S120 N120' H120 G120 (fits_nar_char _) W120 0 rfl (Nat.le_of_ble_eq_true rfl)
            refine GoW.of st120 ?_
            have hs121 : h46.size ≤ h120.size := Nat.le_of_eq W120.size.symm
            have N120 := Fr.snoc X120 N46 (by omega)
            show GoW _ _ _ _ _ _ _ (T120.setTop (mkF m 242 #[.val (.int p1), .val (.int p2), .val (.int p3), .val (.int p4), .val (.long q5), .second, .val (.int (p1 &&& (7 : Int32))), .val (.ref b1), .val (.int (Int32.ofNat xs1.length)), .val (.ref b6), .val (.int ((p3 &&& (2147483647 : Int32)) % (Int32.ofNat xs1.length))), .val (.int ((p4 &&& (255 : Int32)).toUInt32.toUInt16.toUInt32.toInt32)), .unset, .unset, .unset] []))
            refine GoW.of (fun t k => XS.aload X120.here hx rfl (hb hby at_242) rfl rfl k) ?_
            show GoW _ _ _ _ _ _ _ (T120.setTop (mkF m 244 #[.val (.int p1), .val (.int p2), .val (.int p3), .val (.int p4), .val (.long q5), .second, .val (.int (p1 &&& (7 : Int32))), .val (.ref b1), .val (.int (Int32.ofNat xs1.length)), .val (.ref b6), .val (.int ((p3 &&& (2147483647 : Int32)) % (Int32.ofNat xs1.length))), .val (.int ((p4 &&& (255 : Int32)).toUInt32.toUInt16.toUInt32.toInt32)), .unset, .unset, .unset] [(.ref b6)]))
            refine GoW.of (fun t k => XS.iconst X120.here hx rfl (hb hby at_244) k) ?_
            show GoW _ _ _ _ _ _ _ (T120.setTop (mkF m 245 #[.val (.int p1), .val (.int p2), .val (.int p3), .val (.int p4), .val (.long q5), .second, .val (.int (p1 &&& (7 : Int32))), .val (.ref b1), .val (.int (Int32.ofNat xs1.length)), .val (.ref b6), .val (.int ((p3 &&& (2147483647 : Int32)) % (Int32.ofNat xs1.length))), .val (.int ((p4 &&& (255 : Int32)).toUInt32.toUInt16.toUInt32.toInt32)), .unset, .unset, .unset] [(.int (1 : Int32)), (.ref b6)]))
            refine GoW.of (fun t k => XS.lload X120.here hx rfl (hb hby at_245) rfl k) ?_
            show GoW _ _ _ _ _ _ _ (T120.setTop (mkF m 247 #[.val (.int p1), .val (.int p2), .val (.int p3), .val (.int p4), .val (.long q5), .second, .val (.int (p1 &&& (7 : Int32))), .val (.ref b1), .val (.int (Int32.ofNat xs1.length)), .val (.ref b6), .val (.int ((p3 &&& (2147483647 : Int32)) % (Int32.ofNat xs1.length))), .val (.int ((p4 &&& (255 : Int32)).toUInt32.toUInt16.toUInt32.toInt32)), .unset, .unset, .unset] [(.long q5), (.int (1 : Int32)), (.ref b6)]))
            refine GoW.of (fun t k => XS.bipush X120.here hx rfl (hb hby at_247) k) ?_
            show GoW _ _ _ _ _ _ _ (T120.setTop (mkF m 249 #[.val (.int p1), .val (.int p2), .val (.int p3), .val (.int p4), .val (.long q5), .second, .val (.int (p1 &&& (7 : Int32))), .val (.ref b1), .val (.int (Int32.ofNat xs1.length)), .val (.ref b6), .val (.int ((p3 &&& (2147483647 : Int32)) % (Int32.ofNat xs1.length))), .val (.int ((p4 &&& (255 : Int32)).toUInt32.toUInt16.toUInt32.toInt32)), .unset, .unset, .unset] [(.int (8 : Int32)), (.long q5), (.int (1 : Int32)), (.ref b6)]))
            refine GoW.of (fun t k => XS.lushr X120.here hx rfl (hb hby at_249) rfl k) ?_
            show GoW _ _ _ _ _ _ _ (T120.setTop (mkF m 250 #[.val (.int p1), .val (.int p2), .val (.int p3), .val (.int p4), .val (.long q5), .second, .val (.int (p1 &&& (7 : Int32))), .val (.ref b1), .val (.int (Int32.ofNat xs1.length)), .val (.ref b6), .val (.int ((p3 &&& (2147483647 : Int32)) % (Int32.ofNat xs1.length))), .val (.int ((p4 &&& (255 : Int32)).toUInt32.toUInt16.toUInt32.toInt32)), .unset, .unset, .unset] [(.long ((q5.toUInt64 >>> ((8 : Int32) &&& 0x3f).toInt64.toUInt64).toInt64)), (.int (1 : Int32)), (.ref b6)]))
            refine GoW.of (fun t k => X120.ldc2Long hx hown (mvT hZ (own_w hw 158 rfl)) (g := (mkF m 250 #[.val (.int p1), .val (.int p2), .val (.int p3), .val (.int p4), .val (.long q5), .second, .val (.int (p1 &&& (7 : Int32))), .val (.ref b1), .val (.int (Int32.ofNat xs1.length)), .val (.ref b6), .val (.int ((p3 &&& (2147483647 : Int32)) % (Int32.ofNat xs1.length))), .val (.int ((p4 &&& (255 : Int32)).toUInt32.toUInt16.toUInt32.toInt32)), .unset, .unset, .unset] [(.long ((q5.toUInt64 >>> ((8 : Int32) &&& 0x3f).toInt64.toUInt64).toInt64)), (.int (1 : Int32)), (.ref b6)])) rfl (hb hby at_250) _ k) ?_
            show GoW _ _ _ _ _ _ _ (T120.setTop (mkF m 253 #[.val (.int p1), .val (.int p2), .val (.int p3), .val (.int p4), .val (.long q5), .second, .val (.int (p1 &&& (7 : Int32))), .val (.ref b1), .val (.int (Int32.ofNat xs1.length)), .val (.ref b6), .val (.int ((p3 &&& (2147483647 : Int32)) % (Int32.ofNat xs1.length))), .val (.int ((p4 &&& (255 : Int32)).toUInt32.toUInt16.toUInt32.toInt32)), .unset, .unset, .unset] [(.long (255 : Int64)), (.long ((q5.toUInt64 >>> ((8 : Int32) &&& 0x3f).toInt64.toUInt64).toInt64)), (.int (1 : Int32)), (.ref b6)]))
            refine GoW.of (fun t k => XS.land X120.here hx rfl (hb hby at_253) rfl k) ?_
            show GoW _ _ _ _ _ _ _ (T120.setTop (mkF m 254 #[.val (.int p1), .val (.int p2), .val (.int p3), .val (.int p4), .val (.long q5), .second, .val (.int (p1 &&& (7 : Int32))), .val (.ref b1), .val (.int (Int32.ofNat xs1.length)), .val (.ref b6), .val (.int ((p3 &&& (2147483647 : Int32)) % (Int32.ofNat xs1.length))), .val (.int ((p4 &&& (255 : Int32)).toUInt32.toUInt16.toUInt32.toInt32)), .unset, .unset, .unset] [(.long (((q5.toUInt64 >>> ((8 : Int32) &&& 0x3f).toInt64.toUInt64).toInt64) &&& (255 : Int64))), (.int (1 : Int32)), (.ref b6)]))
            refine GoW.of (fun t k => XS.l2i X120.here hx rfl (hb hby at_254) rfl k) ?_
            show GoW _ _ _ _ _ _ _ (T120.setTop (mkF m 255 #[.val (.int p1), .val (.int p2), .val (.int p3), .val (.int p4), .val (.long q5), .second, .val (.int (p1 &&& (7 : Int32))), .val (.ref b1), .val (.int (Int32.ofNat xs1.length)), .val (.ref b6), .val (.int ((p3 &&& (2147483647 : Int32)) % (Int32.ofNat xs1.length))), .val (.int ((p4 &&& (255 : Int32)).toUInt32.toUInt16.toUInt32.toInt32)), .unset, .unset, .unset] [(.int ((((q5.toUInt64 >>> ((8 : Int32) &&& 0x3f).toInt64.toUInt64).toInt64) &&& (255 : Int64)).toInt32)), (.int (1 : Int32)), (.ref b6)]))
            refine GoW.of (fun t k => XS.i2c X120.here hx rfl (hb hby at_255) rfl k) ?_
            show GoW _ _ _ _ _ _ _ (T120.setTop (mkF m 256 #[.val (.int p1), .val (.int p2), .val (.int p3), .val (.int p4), .val (.long q5), .second, .val (.int (p1 &&& (7 : Int32))), .val (.ref b1), .val (.int (Int32.ofNat xs1.length)), .val (.ref b6), .val (.int ((p3 &&& (2147483647 : Int32)) % (Int32.ofNat xs1.length))), .val (.int ((p4 &&& (255 : Int32)).toUInt32.toUInt16.toUInt32.toInt32)), .unset, .unset, .unset] [(.int (((((q5.toUInt64 >>> ((8 : Int32) &&& 0x3f).toInt64.toUInt64).toInt64) &&& (255 : Int64)).toInt32).toUInt32.toUInt16.toUInt32.toInt32)), (.int (1 : Int32)), (.ref b6)]))
            obtain ⟨cl122, Ar122, q122, S122, N122', H122, G122⟩ := id V120
            have hin122 := inb_of S122 (j := (1 : Int32)) ⟨by decide, by decide⟩
            obtain ⟨T122, h122, X122, e122, W122, st122⟩ := stC X120 hx hZ e120 Ar122 (j := (1 : Int32)) hin122 (g := (mkF m 256 #[.val (.int p1), .val (.int p2), .val (.int p3), .val (.int p4), .val (.long q5), .second, .val (.int (p1 &&& (7 : Int32))), .val (.ref b1), .val (.int (Int32.ofNat xs1.length)), .val (.ref b6), .val (.int ((p3 &&& (2147483647 : Int32)) % (Int32.ofNat xs1.length))), .val (.int ((p4 &&& (255 : Int32)).toUInt32.toUInt16.toUInt32.toInt32)), .unset, .unset, .unset] [(.int (((((q5.toUInt64 >>> ((8 : Int32) &&& 0x3f).toInt64.toUInt64).toInt64) &&& (255 : Int64)).toInt32).toUInt32.toUInt16.toUInt32.toInt32)), (.int (1 : Int32)), (.ref b6)])) rfl rfl (hb hby at_256)
            have V122 : Arv Z h122 b6 k6 .char (8 : Int32) [(.int (nar .char (((q5 &&& (255 : Int64)).toInt32).toUInt32.toUInt16.toUInt32.toInt32))), (.int (nar .char (((((q5.toUInt64 >>> ((8 : Int32) &&& 0x3f).toInt64.toUInt64).toInt64) &&& (255 : Int64)).toInt32).toUInt32.toUInt16.toUInt32.toInt32))), (.int (nar .char z20)), (.int (nar .char z25)), (.int (nar .char z30)), (.int (nar .char z35)), (.int (nar .char z40)), (.int (nar .char z45))] (.int (0 : Int32)) := Arv.set Ar122 q122 S122 N122' H122 G122 (fits_nar_char _) W122 1 rfl (Nat.le_of_ble_eq_true rfl)
            refine GoW.of st122 ?_
            have hs123 : h120.size ≤ h122.size := Nat.le_of_eq W122.size.symm
            have N122 := Fr.snoc X122 N120 (by omega)
            show GoW _ _ _ _ _ _ _ (T122.setTop (mkF m 257 #[.val (.int p1), .val (.int p2), .val (.int p3), .val (.int p4), .val (.long q5), .second, .val (.int (p1 &&& (7 : Int32))), .val (.ref b1), .val (.int (Int32.ofNat xs1.length)), .val (.ref b6), .val (.int ((p3 &&& (2147483647 : Int32)) % (Int32.ofNat xs1.length))), .val (.int ((p4 &&& (255 : Int32)).toUInt32.toUInt16.toUInt32.toInt32)), .unset, .unset, .unset] []))
            refine GoW.of (fun t k => XS.aload X122.here hx rfl (hb hby at_257) rfl rfl k) ?_
            show GoW _ _ _ _ _ _ _ (T122.setTop (mkF m 259 #[.val (.int p1), .val (.int p2), .val (.int p3), .val (.int p4), .val (.long q5), .second, .val (.int (p1 &&& (7 : Int32))), .val (.ref b1), .val (.int (Int32.ofNat xs1.length)), .val (.ref b6), .val (.int ((p3 &&& (2147483647 : Int32)) % (Int32.ofNat xs1.length))), .val (.int ((p4 &&& (255 : Int32)).toUInt32.toUInt16.toUInt32.toInt32)), .unset, .unset, .unset] [(.ref b6)]))
            refine GoW.of (fun t k => XS.iconst X122.here hx rfl (hb hby at_259) k) ?_
            show GoW _ _ _ _ _ _ _ (T122.setTop (mkF m 260 #[.val (.int p1), .val (.int p2), .val (.int p3), .val (.int p4), .val (.long q5), .second, .val (.int (p1 &&& (7 : Int32))), .val (.ref b1), .val (.int (Int32.ofNat xs1.length)), .val (.ref b6), .val (.int ((p3 &&& (2147483647 : Int32)) % (Int32.ofNat xs1.length))), .val (.int ((p4 &&& (255 : Int32)).toUInt32.toUInt16.toUInt32.toInt32)), .unset, .unset, .unset] [(.int (2 : Int32)), (.ref b6)]))
            refine GoW.of (fun t k => XS.lload X122.here hx rfl (hb hby at_260) rfl k) ?_
            show GoW _ _ _ _ _ _ _ (T122.setTop (mkF m 262 #[.val (.int p1), .val (.int p2), .val (.int p3), .val (.int p4), .val (.long q5), .second, .val (.int (p1 &&& (7 : Int32))), .val (.ref b1), .val (.int (Int32.ofNat xs1.length)), .val (.ref b6), .val (.int ((p3 &&& (2147483647 : Int32)) % (Int32.ofNat xs1.length))), .val (.int ((p4 &&& (255 : Int32)).toUInt32.toUInt16.toUInt32.toInt32)), .unset, .unset, .unset] [(.long q5), (.int (2 : Int32)), (.ref b6)]))
            refine GoW.of (fun t k => XS.bipush X122.here hx rfl (hb hby at_262) k) ?_
            show GoW _ _ _ _ _ _ _ (T122.setTop (mkF m 264 #[.val (.int p1), .val (.int p2), .val (.int p3), .val (.int p4), .val (.long q5), .second, .val (.int (p1 &&& (7 : Int32))), .val (.ref b1), .val (.int (Int32.ofNat xs1.length)), .val (.ref b6), .val (.int ((p3 &&& (2147483647 : Int32)) % (Int32.ofNat xs1.length))), .val (.int ((p4 &&& (255 : Int32)).toUInt32.toUInt16.toUInt32.toInt32)), .unset, .unset, .unset] [(.int (16 : Int32)), (.long q5), (.int (2 : Int32)), (.ref b6)]))
            refine GoW.of (fun t k => XS.lushr X122.here hx rfl (hb hby at_264) rfl k) ?_
            show GoW _ _ _ _ _ _ _ (T122.setTop (mkF m 265 #[.val (.int p1), .val (.int p2), .val (.int p3), .val (.int p4), .val (.long q5), .second, .val (.int (p1 &&& (7 : Int32))), .val (.ref b1), .val (.int (Int32.ofNat xs1.length)), .val (.ref b6), .val (.int ((p3 &&& (2147483647 : Int32)) % (Int32.ofNat xs1.length))), .val (.int ((p4 &&& (255 : Int32)).toUInt32.toUInt16.toUInt32.toInt32)), .unset, .unset, .unset] [(.long ((q5.toUInt64 >>> ((16 : Int32) &&& 0x3f).toInt64.toUInt64).toInt64)), (.int (2 : Int32)), (.ref b6)]))
            refine GoW.of (fun t k => X122.ldc2Long hx hown (mvT hZ (own_w hw 158 rfl)) (g := (mkF m 265 #[.val (.int p1), .val (.int p2), .val (.int p3), .val (.int p4), .val (.long q5), .second, .val (.int (p1 &&& (7 : Int32))), .val (.ref b1), .val (.int (Int32.ofNat xs1.length)), .val (.ref b6), .val (.int ((p3 &&& (2147483647 : Int32)) % (Int32.ofNat xs1.length))), .val (.int ((p4 &&& (255 : Int32)).toUInt32.toUInt16.toUInt32.toInt32)), .unset, .unset, .unset] [(.long ((q5.toUInt64 >>> ((16 : Int32) &&& 0x3f).toInt64.toUInt64).toInt64)), (.int (2 : Int32)), (.ref b6)])) rfl (hb hby at_265) _ k) ?_
            show GoW _ _ _ _ _ _ _ (T122.setTop (mkF m 268 #[.val (.int p1), .val (.int p2), .val (.int p3), .val (.int p4), .val (.long q5), .second, .val (.int (p1 &&& (7 : Int32))), .val (.ref b1), .val (.int (Int32.ofNat xs1.length)), .val (.ref b6), .val (.int ((p3 &&& (2147483647 : Int32)) % (Int32.ofNat xs1.length))), .val (.int ((p4 &&& (255 : Int32)).toUInt32.toUInt16.toUInt32.toInt32)), .unset, .unset, .unset] [(.long (255 : Int64)), (.long ((q5.toUInt64 >>> ((16 : Int32) &&& 0x3f).toInt64.toUInt64).toInt64)), (.int (2 : Int32)), (.ref b6)]))
            refine GoW.of (fun t k => XS.land X122.here hx rfl (hb hby at_268) rfl k) ?_
            show GoW _ _ _ _ _ _ _ (T122.setTop (mkF m 269 #[.val (.int p1), .val (.int p2), .val (.int p3), .val (.int p4), .val (.long q5), .second, .val (.int (p1 &&& (7 : Int32))), .val (.ref b1), .val (.int (Int32.ofNat xs1.length)), .val (.ref b6), .val (.int ((p3 &&& (2147483647 : Int32)) % (Int32.ofNat xs1.length))), .val (.int ((p4 &&& (255 : Int32)).toUInt32.toUInt16.toUInt32.toInt32)), .unset, .unset, .unset] [(.long (((q5.toUInt64 >>> ((16 : Int32) &&& 0x3f).toInt64.toUInt64).toInt64) &&& (255 : Int64))), (.int (2 : Int32)), (.ref b6)]))
            refine GoW.of (fun t k => XS.l2i X122.here hx rfl (hb hby at_269) rfl k) ?_
            show GoW _ _ _ _ _ _ _ (T122.setTop (mkF m 270 #[.val (.int p1), .val (.int p2), .val (.int p3), .val (.int p4), .val (.long q5), .second, .val (.int (p1 &&& (7 : Int32))), .val (.ref b1), .val (.int (Int32.ofNat xs1.length)), .val (.ref b6), .val (.int ((p3 &&& (2147483647 : Int32)) % (Int32.ofNat xs1.length))), .val (.int ((p4 &&& (255 : Int32)).toUInt32.toUInt16.toUInt32.toInt32)), .unset, .unset, .unset] [(.int ((((q5.toUInt64 >>> ((16 : Int32) &&& 0x3f).toInt64.toUInt64).toInt64) &&& (255 : Int64)).toInt32)), (.int (2 : Int32)), (.ref b6)]))
            refine GoW.of (fun t k => XS.i2c X122.here hx rfl (hb hby at_270) rfl k) ?_
            show GoW _ _ _ _ _ _ _ (T122.setTop (mkF m 271 #[.val (.int p1), .val (.int p2), .val (.int p3), .val (.int p4), .val (.long q5), .second, .val (.int (p1 &&& (7 : Int32))), .val (.ref b1), .val (.int (Int32.ofNat xs1.length)), .val (.ref b6), .val (.int ((p3 &&& (2147483647 : Int32)) % (Int32.ofNat xs1.length))), .val (.int ((p4 &&& (255 : Int32)).toUInt32.toUInt16.toUInt32.toInt32)), .unset, .unset, .unset] [(.int (((((q5.toUInt64 >>> ((16 : Int32) &&& 0x3f).toInt64.toUInt64).toInt64) &&& (255 : Int64)).toInt32).toUInt32.toUInt16.toUInt32.toInt32)), (.int (2 : Int32)), (.ref b6)]))
            obtain ⟨cl124, Ar124, q124, S124, N124', H124, G124⟩ := id V122
            have hin124 := inb_of S124 (j := (2 : Int32)) ⟨by decide, by decide⟩
            obtain ⟨T124, h124, X124, e124, W124, st124⟩ := stC X122 hx hZ e122 Ar124 (j := (2 : Int32)) hin124 (g := (mkF m 271 #[.val (.int p1), .val (.int p2), .val (.int p3), .val (.int p4), .val (.long q5), .second, .val (.int (p1 &&& (7 : Int32))), .val (.ref b1), .val (.int (Int32.ofNat xs1.length)), .val (.ref b6), .val (.int ((p3 &&& (2147483647 : Int32)) % (Int32.ofNat xs1.length))), .val (.int ((p4 &&& (255 : Int32)).toUInt32.toUInt16.toUInt32.toInt32)), .unset, .unset, .unset] [(.int (((((q5.toUInt64 >>> ((16 : Int32) &&& 0x3f).toInt64.toUInt64).toInt64) &&& (255 : Int64)).toInt32).toUInt32.toUInt16.toUInt32.toInt32)), (.int (2 : Int32)), (.ref b6)])) rfl rfl (hb hby at_271)
            have V124 : Arv Z h124 b6 k6 .char (8 : Int32) [(.int (nar .char (((q5 &&& (255 : Int64)).toInt32).toUInt32.toUInt16.toUInt32.toInt32))), (.int (nar .char (((((q5.toUInt64 >>> ((8 : Int32) &&& 0x3f).toInt64.toUInt64).toInt64) &&& (255 : Int64)).toInt32).toUInt32.toUInt16.toUInt32.toInt32))), (.int (nar .char (((((q5.toUInt64 >>> ((16 : Int32) &&& 0x3f).toInt64.toUInt64).toInt64) &&& (255 : Int64)).toInt32).toUInt32.toUInt16.toUInt32.toInt32))), (.int (nar .char z25)), (.int (nar .char z30)), (.int (nar .char z35)), (.int (nar .char z40)), (.int (nar .char z45))] (.int (0 : Int32)) := Arv.set Ar124 q124 S124 N124' H124 G124 (fits_nar_char _) W124 2 rfl (Nat.le_of_ble_eq_true rfl)
            refine GoW.of st124 ?_
            have hs125 : h122.size ≤ h124.size := Nat.le_of_eq W124.size.symm
            have N124 := Fr.snoc X124 N122 (by omega)
            show GoW _ _ _ _ _ _ _ (T124.setTop (mkF m 272 #[.val (.int p1), .val (.int p2), .val (.int p3), .val (.int p4), .val (.long q5), .second, .val (.int (p1 &&& (7 : Int32))), .val (.ref b1), .val (.int (Int32.ofNat xs1.length)), .val (.ref b6), .val (.int ((p3 &&& (2147483647 : Int32)) % (Int32.ofNat xs1.length))), .val (.int ((p4 &&& (255 : Int32)).toUInt32.toUInt16.toUInt32.toInt32)), .unset, .unset, .unset] []))
            refine GoW.of (fun t k => XS.aload X124.here hx rfl (hb hby at_272) rfl rfl k) ?_
            show GoW _ _ _ _ _ _ _ (T124.setTop (mkF m 274 #[.val (.int p1), .val (.int p2), .val (.int p3), .val (.int p4), .val (.long q5), .second, .val (.int (p1 &&& (7 : Int32))), .val (.ref b1), .val (.int (Int32.ofNat xs1.length)), .val (.ref b6), .val (.int ((p3 &&& (2147483647 : Int32)) % (Int32.ofNat xs1.length))), .val (.int ((p4 &&& (255 : Int32)).toUInt32.toUInt16.toUInt32.toInt32)), .unset, .unset, .unset] [(.ref b6)]))
            refine GoW.of (fun t k => XS.iconst X124.here hx rfl (hb hby at_274) k) ?_
            show GoW _ _ _ _ _ _ _ (T124.setTop (mkF m 275 #[.val (.int p1), .val (.int p2), .val (.int p3), .val (.int p4), .val (.long q5), .second, .val (.int (p1 &&& (7 : Int32))), .val (.ref b1), .val (.int (Int32.ofNat xs1.length)), .val (.ref b6), .val (.int ((p3 &&& (2147483647 : Int32)) % (Int32.ofNat xs1.length))), .val (.int ((p4 &&& (255 : Int32)).toUInt32.toUInt16.toUInt32.toInt32)), .unset, .unset, .unset] [(.int (3 : Int32)), (.ref b6)]))
            refine GoW.of (fun t k => XS.lload X124.here hx rfl (hb hby at_275) rfl k) ?_
            show GoW _ _ _ _ _ _ _ (T124.setTop (mkF m 277 #[.val (.int p1), .val (.int p2), .val (.int p3), .val (.int p4), .val (.long q5), .second, .val (.int (p1 &&& (7 : Int32))), .val (.ref b1), .val (.int (Int32.ofNat xs1.length)), .val (.ref b6), .val (.int ((p3 &&& (2147483647 : Int32)) % (Int32.ofNat xs1.length))), .val (.int ((p4 &&& (255 : Int32)).toUInt32.toUInt16.toUInt32.toInt32)), .unset, .unset, .unset] [(.long q5), (.int (3 : Int32)), (.ref b6)]))
            refine GoW.of (fun t k => XS.bipush X124.here hx rfl (hb hby at_277) k) ?_
            show GoW _ _ _ _ _ _ _ (T124.setTop (mkF m 279 #[.val (.int p1), .val (.int p2), .val (.int p3), .val (.int p4), .val (.long q5), .second, .val (.int (p1 &&& (7 : Int32))), .val (.ref b1), .val (.int (Int32.ofNat xs1.length)), .val (.ref b6), .val (.int ((p3 &&& (2147483647 : Int32)) % (Int32.ofNat xs1.length))), .val (.int ((p4 &&& (255 : Int32)).toUInt32.toUInt16.toUInt32.toInt32)), .unset, .unset, .unset] [(.int (24 : Int32)), (.long q5), (.int (3 : Int32)), (.ref b6)]))
            refine GoW.of (fun t k => XS.lushr X124.here hx rfl (hb hby at_279) rfl k) ?_
            show GoW _ _ _ _ _ _ _ (T124.setTop (mkF m 280 #[.val (.int p1), .val (.int p2), .val (.int p3), .val (.int p4), .val (.long q5), .second, .val (.int (p1 &&& (7 : Int32))), .val (.ref b1), .val (.int (Int32.ofNat xs1.length)), .val (.ref b6), .val (.int ((p3 &&& (2147483647 : Int32)) % (Int32.ofNat xs1.length))), .val (.int ((p4 &&& (255 : Int32)).toUInt32.toUInt16.toUInt32.toInt32)), .unset, .unset, .unset] [(.long ((q5.toUInt64 >>> ((24 : Int32) &&& 0x3f).toInt64.toUInt64).toInt64)), (.int (3 : Int32)), (.ref b6)]))
            refine GoW.of (fun t k => X124.ldc2Long hx hown (mvT hZ (own_w hw 158 rfl)) (g := (mkF m 280 #[.val (.int p1), .val (.int p2), .val (.int p3), .val (.int p4), .val (.long q5), .second, .val (.int (p1 &&& (7 : Int32))), .val (.ref b1), .val (.int (Int32.ofNat xs1.length)), .val (.ref b6), .val (.int ((p3 &&& (2147483647 : Int32)) % (Int32.ofNat xs1.length))), .val (.int ((p4 &&& (255 : Int32)).toUInt32.toUInt16.toUInt32.toInt32)), .unset, .unset, .unset] [(.long ((q5.toUInt64 >>> ((24 : Int32) &&& 0x3f).toInt64.toUInt64).toInt64)), (.int (3 : Int32)), (.ref b6)])) rfl (hb hby at_280) _ k) ?_
            show GoW _ _ _ _ _ _ _ (T124.setTop (mkF m 283 #[.val (.int p1), .val (.int p2), .val (.int p3), .val (.int p4), .val (.long q5), .second, .val (.int (p1 &&& (7 : Int32))), .val (.ref b1), .val (.int (Int32.ofNat xs1.length)), .val (.ref b6), .val (.int ((p3 &&& (2147483647 : Int32)) % (Int32.ofNat xs1.length))), .val (.int ((p4 &&& (255 : Int32)).toUInt32.toUInt16.toUInt32.toInt32)), .unset, .unset, .unset] [(.long (255 : Int64)), (.long ((q5.toUInt64 >>> ((24 : Int32) &&& 0x3f).toInt64.toUInt64).toInt64)), (.int (3 : Int32)), (.ref b6)]))
            refine GoW.of (fun t k => XS.land X124.here hx rfl (hb hby at_283) rfl k) ?_
            show GoW _ _ _ _ _ _ _ (T124.setTop (mkF m 284 #[.val (.int p1), .val (.int p2), .val (.int p3), .val (.int p4), .val (.long q5), .second, .val (.int (p1 &&& (7 : Int32))), .val (.ref b1), .val (.int (Int32.ofNat xs1.length)), .val (.ref b6), .val (.int ((p3 &&& (2147483647 : Int32)) % (Int32.ofNat xs1.length))), .val (.int ((p4 &&& (255 : Int32)).toUInt32.toUInt16.toUInt32.toInt32)), .unset, .unset, .unset] [(.long (((q5.toUInt64 >>> ((24 : Int32) &&& 0x3f).toInt64.toUInt64).toInt64) &&& (255 : Int64))), (.int (3 : Int32)), (.ref b6)]))
            refine GoW.of (fun t k => XS.l2i X124.here hx rfl (hb hby at_284) rfl k) ?_
            show GoW _ _ _ _ _ _ _ (T124.setTop (mkF m 285 #[.val (.int p1), .val (.int p2), .val (.int p3), .val (.int p4), .val (.long q5), .second, .val (.int (p1 &&& (7 : Int32))), .val (.ref b1), .val (.int (Int32.ofNat xs1.length)), .val (.ref b6), .val (.int ((p3 &&& (2147483647 : Int32)) % (Int32.ofNat xs1.length))), .val (.int ((p4 &&& (255 : Int32)).toUInt32.toUInt16.toUInt32.toInt32)), .unset, .unset, .unset] [(.int ((((q5.toUInt64 >>> ((24 : Int32) &&& 0x3f).toInt64.toUInt64).toInt64) &&& (255 : Int64)).toInt32)), (.int (3 : Int32)), (.ref b6)]))
            refine GoW.of (fun t k => XS.i2c X124.here hx rfl (hb hby at_285) rfl k) ?_
            show GoW _ _ _ _ _ _ _ (T124.setTop (mkF m 286 #[.val (.int p1), .val (.int p2), .val (.int p3), .val (.int p4), .val (.long q5), .second, .val (.int (p1 &&& (7 : Int32))), .val (.ref b1), .val (.int (Int32.ofNat xs1.length)), .val (.ref b6), .val (.int ((p3 &&& (2147483647 : Int32)) % (Int32.ofNat xs1.length))), .val (.int ((p4 &&& (255 : Int32)).toUInt32.toUInt16.toUInt32.toInt32)), .unset, .unset, .unset] [(.int (((((q5.toUInt64 >>> ((24 : Int32) &&& 0x3f).toInt64.toUInt64).toInt64) &&& (255 : Int64)).toInt32).toUInt32.toUInt16.toUInt32.toInt32)), (.int (3 : Int32)), (.ref b6)]))
            obtain ⟨cl126, Ar126, q126, S126, N126', H126, G126⟩ := id V124
            have hin126 := inb_of S126 (j := (3 : Int32)) ⟨by decide, by decide⟩
            obtain ⟨T126, h126, X126, e126, W126, st126⟩ := stC X124 hx hZ e124 Ar126 (j := (3 : Int32)) hin126 (g := (mkF m 286 #[.val (.int p1), .val (.int p2), .val (.int p3), .val (.int p4), .val (.long q5), .second, .val (.int (p1 &&& (7 : Int32))), .val (.ref b1), .val (.int (Int32.ofNat xs1.length)), .val (.ref b6), .val (.int ((p3 &&& (2147483647 : Int32)) % (Int32.ofNat xs1.length))), .val (.int ((p4 &&& (255 : Int32)).toUInt32.toUInt16.toUInt32.toInt32)), .unset, .unset, .unset] [(.int (((((q5.toUInt64 >>> ((24 : Int32) &&& 0x3f).toInt64.toUInt64).toInt64) &&& (255 : Int64)).toInt32).toUInt32.toUInt16.toUInt32.toInt32)), (.int (3 : Int32)), (.ref b6)])) rfl rfl (hb hby at_286)
            have V126 : Arv Z h126 b6 k6 .char (8 : Int32) [(.int (nar .char (((q5 &&& (255 : Int64)).toInt32).toUInt32.toUInt16.toUInt32.toInt32))), (.int (nar .char (((((q5.toUInt64 >>> ((8 : Int32) &&& 0x3f).toInt64.toUInt64).toInt64) &&& (255 : Int64)).toInt32).toUInt32.toUInt16.toUInt32.toInt32))), (.int (nar .char (((((q5.toUInt64 >>> ((16 : Int32) &&& 0x3f).toInt64.toUInt64).toInt64) &&& (255 : Int64)).toInt32).toUInt32.toUInt16.toUInt32.toInt32))), (.int (nar .char (((((q5.toUInt64 >>> ((24 : Int32) &&& 0x3f).toInt64.toUInt64).toInt64) &&& (255 : Int64)).toInt32).toUInt32.toUInt16.toUInt32.toInt32))), (.int (nar .char z30)), (.int (nar .char z35)), (.int (nar .char z40)), (.int (nar .char z45))] (.int (0 : Int32)) := Arv.set Ar126 q126 S126 N126' H126 G126 (fits_nar_char _) W126 3 rfl (Nat.le_of_ble_eq_true rfl)
            refine GoW.of st126 ?_
            have hs127 : h124.size ≤ h126.size := Nat.le_of_eq W126.size.symm
            have N126 := Fr.snoc X126 N124 (by omega)
            show GoW _ _ _ _ _ _ _ (T126.setTop (mkF m 287 #[.val (.int p1), .val (.int p2), .val (.int p3), .val (.int p4), .val (.long q5), .second, .val (.int (p1 &&& (7 : Int32))), .val (.ref b1), .val (.int (Int32.ofNat xs1.length)), .val (.ref b6), .val (.int ((p3 &&& (2147483647 : Int32)) % (Int32.ofNat xs1.length))), .val (.int ((p4 &&& (255 : Int32)).toUInt32.toUInt16.toUInt32.toInt32)), .unset, .unset, .unset] []))
            refine GoW.of (fun t k => XS.aload X126.here hx rfl (hb hby at_287) rfl rfl k) ?_
            show GoW _ _ _ _ _ _ _ (T126.setTop (mkF m 289 #[.val (.int p1), .val (.int p2), .val (.int p3), .val (.int p4), .val (.long q5), .second, .val (.int (p1 &&& (7 : Int32))), .val (.ref b1), .val (.int (Int32.ofNat xs1.length)), .val (.ref b6), .val (.int ((p3 &&& (2147483647 : Int32)) % (Int32.ofNat xs1.length))), .val (.int ((p4 &&& (255 : Int32)).toUInt32.toUInt16.toUInt32.toInt32)), .unset, .unset, .unset] [(.ref b6)]))
            refine GoW.of (fun t k => XS.iconst X126.here hx rfl (hb hby at_289) k) ?_
            show GoW _ _ _ _ _ _ _ (T126.setTop (mkF m 290 #[.val (.int p1), .val (.int p2), .val (.int p3), .val (.int p4), .val (.long q5), .second, .val (.int (p1 &&& (7 : Int32))), .val (.ref b1), .val (.int (Int32.ofNat xs1.length)), .val (.ref b6), .val (.int ((p3 &&& (2147483647 : Int32)) % (Int32.ofNat xs1.length))), .val (.int ((p4 &&& (255 : Int32)).toUInt32.toUInt16.toUInt32.toInt32)), .unset, .unset, .unset] [(.int (4 : Int32)), (.ref b6)]))
            refine GoW.of (fun t k => XS.lload X126.here hx rfl (hb hby at_290) rfl k) ?_
            show GoW _ _ _ _ _ _ _ (T126.setTop (mkF m 292 #[.val (.int p1), .val (.int p2), .val (.int p3), .val (.int p4), .val (.long q5), .second, .val (.int (p1 &&& (7 : Int32))), .val (.ref b1), .val (.int (Int32.ofNat xs1.length)), .val (.ref b6), .val (.int ((p3 &&& (2147483647 : Int32)) % (Int32.ofNat xs1.length))), .val (.int ((p4 &&& (255 : Int32)).toUInt32.toUInt16.toUInt32.toInt32)), .unset, .unset, .unset] [(.long q5), (.int (4 : Int32)), (.ref b6)]))
            refine GoW.of (fun t k => XS.bipush X126.here hx rfl (hb hby at_292) k) ?_
            show GoW _ _ _ _ _ _ _ (T126.setTop (mkF m 294 #[.val (.int p1), .val (.int p2), .val (.int p3), .val (.int p4), .val (.long q5), .second, .val (.int (p1 &&& (7 : Int32))), .val (.ref b1), .val (.int (Int32.ofNat xs1.length)), .val (.ref b6), .val (.int ((p3 &&& (2147483647 : Int32)) % (Int32.ofNat xs1.length))), .val (.int ((p4 &&& (255 : Int32)).toUInt32.toUInt16.toUInt32.toInt32)), .unset, .unset, .unset] [(.int (32 : Int32)), (.long q5), (.int (4 : Int32)), (.ref b6)]))
            refine GoW.of (fun t k => XS.lushr X126.here hx rfl (hb hby at_294) rfl k) ?_
            show GoW _ _ _ _ _ _ _ (T126.setTop (mkF m 295 #[.val (.int p1), .val (.int p2), .val (.int p3), .val (.int p4), .val (.long q5), .second, .val (.int (p1 &&& (7 : Int32))), .val (.ref b1), .val (.int (Int32.ofNat xs1.length)), .val (.ref b6), .val (.int ((p3 &&& (2147483647 : Int32)) % (Int32.ofNat xs1.length))), .val (.int ((p4 &&& (255 : Int32)).toUInt32.toUInt16.toUInt32.toInt32)), .unset, .unset, .unset] [(.long ((q5.toUInt64 >>> ((32 : Int32) &&& 0x3f).toInt64.toUInt64).toInt64)), (.int (4 : Int32)), (.ref b6)]))
            refine GoW.of (fun t k => X126.ldc2Long hx hown (mvT hZ (own_w hw 158 rfl)) (g := (mkF m 295 #[.val (.int p1), .val (.int p2), .val (.int p3), .val (.int p4), .val (.long q5), .second, .val (.int (p1 &&& (7 : Int32))), .val (.ref b1), .val (.int (Int32.ofNat xs1.length)), .val (.ref b6), .val (.int ((p3 &&& (2147483647 : Int32)) % (Int32.ofNat xs1.length))), .val (.int ((p4 &&& (255 : Int32)).toUInt32.toUInt16.toUInt32.toInt32)), .unset, .unset, .unset] [(.long ((q5.toUInt64 >>> ((32 : Int32) &&& 0x3f).toInt64.toUInt64).toInt64)), (.int (4 : Int32)), (.ref b6)])) rfl (hb hby at_295) _ k) ?_
            show GoW _ _ _ _ _ _ _ (T126.setTop (mkF m 298 #[.val (.int p1), .val (.int p2), .val (.int p3), .val (.int p4), .val (.long q5), .second, .val (.int (p1 &&& (7 : Int32))), .val (.ref b1), .val (.int (Int32.ofNat xs1.length)), .val (.ref b6), .val (.int ((p3 &&& (2147483647 : Int32)) % (Int32.ofNat xs1.length))), .val (.int ((p4 &&& (255 : Int32)).toUInt32.toUInt16.toUInt32.toInt32)), .unset, .unset, .unset] [(.long (255 : Int64)), (.long ((q5.toUInt64 >>> ((32 : Int32) &&& 0x3f).toInt64.toUInt64).toInt64)), (.int (4 : Int32)), (.ref b6)]))
            refine GoW.of (fun t k => XS.land X126.here hx rfl (hb hby at_298) rfl k) ?_
            show GoW _ _ _ _ _ _ _ (T126.setTop (mkF m 299 #[.val (.int p1), .val (.int p2), .val (.int p3), .val (.int p4), .val (.long q5), .second, .val (.int (p1 &&& (7 : Int32))), .val (.ref b1), .val (.int (Int32.ofNat xs1.length)), .val (.ref b6), .val (.int ((p3 &&& (2147483647 : Int32)) % (Int32.ofNat xs1.length))), .val (.int ((p4 &&& (255 : Int32)).toUInt32.toUInt16.toUInt32.toInt32)), .unset, .unset, .unset] [(.long (((q5.toUInt64 >>> ((32 : Int32) &&& 0x3f).toInt64.toUInt64).toInt64) &&& (255 : Int64))), (.int (4 : Int32)), (.ref b6)]))
            refine GoW.of (fun t k => XS.l2i X126.here hx rfl (hb hby at_299) rfl k) ?_
            show GoW _ _ _ _ _ _ _ (T126.setTop (mkF m 300 #[.val (.int p1), .val (.int p2), .val (.int p3), .val (.int p4), .val (.long q5), .second, .val (.int (p1 &&& (7 : Int32))), .val (.ref b1), .val (.int (Int32.ofNat xs1.length)), .val (.ref b6), .val (.int ((p3 &&& (2147483647 : Int32)) % (Int32.ofNat xs1.length))), .val (.int ((p4 &&& (255 : Int32)).toUInt32.toUInt16.toUInt32.toInt32)), .unset, .unset, .unset] [(.int ((((q5.toUInt64 >>> ((32 : Int32) &&& 0x3f).toInt64.toUInt64).toInt64) &&& (255 : Int64)).toInt32)), (.int (4 : Int32)), (.ref b6)]))
            refine GoW.of (fun t k => XS.i2c X126.here hx rfl (hb hby at_300) rfl k) ?_
            show GoW _ _ _ _ _ _ _ (T126.setTop (mkF m 301 #[.val (.int p1), .val (.int p2), .val (.int p3), .val (.int p4), .val (.long q5), .second, .val (.int (p1 &&& (7 : Int32))), .val (.ref b1), .val (.int (Int32.ofNat xs1.length)), .val (.ref b6), .val (.int ((p3 &&& (2147483647 : Int32)) % (Int32.ofNat xs1.length))), .val (.int ((p4 &&& (255 : Int32)).toUInt32.toUInt16.toUInt32.toInt32)), .unset, .unset, .unset] [(.int (((((q5.toUInt64 >>> ((32 : Int32) &&& 0x3f).toInt64.toUInt64).toInt64) &&& (255 : Int64)).toInt32).toUInt32.toUInt16.toUInt32.toInt32)), (.int (4 : Int32)), (.ref b6)]))
            obtain ⟨cl128, Ar128, q128, S128, N128', H128, G128⟩ := id V126
            have hin128 := inb_of S128 (j := (4 : Int32)) ⟨by decide, by decide⟩
            obtain ⟨T128, h128, X128, e128, W128, st128⟩ := stC X126 hx hZ e126 Ar128 (j := (4 : Int32)) hin128 (g := (mkF m 301 #[.val (.int p1), .val (.int p2), .val (.int p3), .val (.int p4), .val (.long q5), .second, .val (.int (p1 &&& (7 : Int32))), .val (.ref b1), .val (.int (Int32.ofNat xs1.length)), .val (.ref b6), .val (.int ((p3 &&& (2147483647 : Int32)) % (Int32.ofNat xs1.length))), .val (.int ((p4 &&& (255 : Int32)).toUInt32.toUInt16.toUInt32.toInt32)), .unset, .unset, .unset] [(.int (((((q5.toUInt64 >>> ((32 : Int32) &&& 0x3f).toInt64.toUInt64).toInt64) &&& (255 : Int64)).toInt32).toUInt32.toUInt16.toUInt32.toInt32)), (.int (4 : Int32)), (.ref b6)])) rfl rfl (hb hby at_301)
            have V128 : Arv Z h128 b6 k6 .char (8 : Int32) [(.int (nar .char (((q5 &&& (255 : Int64)).toInt32).toUInt32.toUInt16.toUInt32.toInt32))), (.int (nar .char (((((q5.toUInt64 >>> ((8 : Int32) &&& 0x3f).toInt64.toUInt64).toInt64) &&& (255 : Int64)).toInt32).toUInt32.toUInt16.toUInt32.toInt32))), (.int (nar .char (((((q5.toUInt64 >>> ((16 : Int32) &&& 0x3f).toInt64.toUInt64).toInt64) &&& (255 : Int64)).toInt32).toUInt32.toUInt16.toUInt32.toInt32))), (.int (nar .char (((((q5.toUInt64 >>> ((24 : Int32) &&& 0x3f).toInt64.toUInt64).toInt64) &&& (255 : Int64)).toInt32).toUInt32.toUInt16.toUInt32.toInt32))), (.int (nar .char (((((q5.toUInt64 >>> ((32 : Int32) &&& 0x3f).toInt64.toUInt64).toInt64) &&& (255 : Int64)).toInt32).toUInt32.toUInt16.toUInt32.toInt32))), (.int (nar .char z35)), (.int (nar .char z40)), (.int (nar .char z45))] (.int (0 : Int32)) := Arv.set Ar128 q128 S128 N128' H128 G128 (fits_nar_char _) W128 4 rfl (Nat.le_of_ble_eq_true rfl)
            refine GoW.of st128 ?_
            have hs129 : h126.size ≤ h128.size := Nat.le_of_eq W128.size.symm
            have N128 := Fr.snoc X128 N126 (by omega)
            show GoW _ _ _ _ _ _ _ (T128.setTop (mkF m 302 #[.val (.int p1), .val (.int p2), .val (.int p3), .val (.int p4), .val (.long q5), .second, .val (.int (p1 &&& (7 : Int32))), .val (.ref b1), .val (.int (Int32.ofNat xs1.length)), .val (.ref b6), .val (.int ((p3 &&& (2147483647 : Int32)) % (Int32.ofNat xs1.length))), .val (.int ((p4 &&& (255 : Int32)).toUInt32.toUInt16.toUInt32.toInt32)), .unset, .unset, .unset] []))
            refine GoW.of (fun t k => XS.aload X128.here hx rfl (hb hby at_302) rfl rfl k) ?_
            show GoW _ _ _ _ _ _ _ (T128.setTop (mkF m 304 #[.val (.int p1), .val (.int p2), .val (.int p3), .val (.int p4), .val (.long q5), .second, .val (.int (p1 &&& (7 : Int32))), .val (.ref b1), .val (.int (Int32.ofNat xs1.length)), .val (.ref b6), .val (.int ((p3 &&& (2147483647 : Int32)) % (Int32.ofNat xs1.length))), .val (.int ((p4 &&& (255 : Int32)).toUInt32.toUInt16.toUInt32.toInt32)), .unset, .unset, .unset] [(.ref b6)]))
            refine GoW.of (fun t k => XS.iconst X128.here hx rfl (hb hby at_304) k) ?_
            show GoW _ _ _ _ _ _ _ (T128.setTop (mkF m 305 #[.val (.int p1), .val (.int p2), .val (.int p3), .val (.int p4), .val (.long q5), .second, .val (.int (p1 &&& (7 : Int32))), .val (.ref b1), .val (.int (Int32.ofNat xs1.length)), .val (.ref b6), .val (.int ((p3 &&& (2147483647 : Int32)) % (Int32.ofNat xs1.length))), .val (.int ((p4 &&& (255 : Int32)).toUInt32.toUInt16.toUInt32.toInt32)), .unset, .unset, .unset] [(.int (5 : Int32)), (.ref b6)]))
            refine GoW.of (fun t k => XS.lload X128.here hx rfl (hb hby at_305) rfl k) ?_
            show GoW _ _ _ _ _ _ _ (T128.setTop (mkF m 307 #[.val (.int p1), .val (.int p2), .val (.int p3), .val (.int p4), .val (.long q5), .second, .val (.int (p1 &&& (7 : Int32))), .val (.ref b1), .val (.int (Int32.ofNat xs1.length)), .val (.ref b6), .val (.int ((p3 &&& (2147483647 : Int32)) % (Int32.ofNat xs1.length))), .val (.int ((p4 &&& (255 : Int32)).toUInt32.toUInt16.toUInt32.toInt32)), .unset, .unset, .unset] [(.long q5), (.int (5 : Int32)), (.ref b6)]))
            refine GoW.of (fun t k => XS.bipush X128.here hx rfl (hb hby at_307) k) ?_
            show GoW _ _ _ _ _ _ _ (T128.setTop (mkF m 309 #[.val (.int p1), .val (.int p2), .val (.int p3), .val (.int p4), .val (.long q5), .second, .val (.int (p1 &&& (7 : Int32))), .val (.ref b1), .val (.int (Int32.ofNat xs1.length)), .val (.ref b6), .val (.int ((p3 &&& (2147483647 : Int32)) % (Int32.ofNat xs1.length))), .val (.int ((p4 &&& (255 : Int32)).toUInt32.toUInt16.toUInt32.toInt32)), .unset, .unset, .unset] [(.int (40 : Int32)), (.long q5), (.int (5 : Int32)), (.ref b6)]))
            refine GoW.of (fun t k => XS.lushr X128.here hx rfl (hb hby at_309) rfl k) ?_
            show GoW _ _ _ _ _ _ _ (T128.setTop (mkF m 310 #[.val (.int p1), .val (.int p2), .val (.int p3), .val (.int p4), .val (.long q5), .second, .val (.int (p1 &&& (7 : Int32))), .val (.ref b1), .val (.int (Int32.ofNat xs1.length)), .val (.ref b6), .val (.int ((p3 &&& (2147483647 : Int32)) % (Int32.ofNat xs1.length))), .val (.int ((p4 &&& (255 : Int32)).toUInt32.toUInt16.toUInt32.toInt32)), .unset, .unset, .unset] [(.long ((q5.toUInt64 >>> ((40 : Int32) &&& 0x3f).toInt64.toUInt64).toInt64)), (.int (5 : Int32)), (.ref b6)]))
            refine GoW.of (fun t k => X128.ldc2Long hx hown (mvT hZ (own_w hw 158 rfl)) (g := (mkF m 310 #[.val (.int p1), .val (.int p2), .val (.int p3), .val (.int p4), .val (.long q5), .second, .val (.int (p1 &&& (7 : Int32))), .val (.ref b1), .val (.int (Int32.ofNat xs1.length)), .val (.ref b6), .val (.int ((p3 &&& (2147483647 : Int32)) % (Int32.ofNat xs1.length))), .val (.int ((p4 &&& (255 : Int32)).toUInt32.toUInt16.toUInt32.toInt32)), .unset, .unset, .unset] [(.long ((q5.toUInt64 >>> ((40 : Int32) &&& 0x3f).toInt64.toUInt64).toInt64)), (.int (5 : Int32)), (.ref b6)])) rfl (hb hby at_310) _ k) ?_
            show GoW _ _ _ _ _ _ _ (T128.setTop (mkF m 313 #[.val (.int p1), .val (.int p2), .val (.int p3), .val (.int p4), .val (.long q5), .second, .val (.int (p1 &&& (7 : Int32))), .val (.ref b1), .val (.int (Int32.ofNat xs1.length)), .val (.ref b6), .val (.int ((p3 &&& (2147483647 : Int32)) % (Int32.ofNat xs1.length))), .val (.int ((p4 &&& (255 : Int32)).toUInt32.toUInt16.toUInt32.toInt32)), .unset, .unset, .unset] [(.long (255 : Int64)), (.long ((q5.toUInt64 >>> ((40 : Int32) &&& 0x3f).toInt64.toUInt64).toInt64)), (.int (5 : Int32)), (.ref b6)]))
            refine GoW.of (fun t k => XS.land X128.here hx rfl (hb hby at_313) rfl k) ?_
            show GoW _ _ _ _ _ _ _ (T128.setTop (mkF m 314 #[.val (.int p1), .val (.int p2), .val (.int p3), .val (.int p4), .val (.long q5), .second, .val (.int (p1 &&& (7 : Int32))), .val (.ref b1), .val (.int (Int32.ofNat xs1.length)), .val (.ref b6), .val (.int ((p3 &&& (2147483647 : Int32)) % (Int32.ofNat xs1.length))), .val (.int ((p4 &&& (255 : Int32)).toUInt32.toUInt16.toUInt32.toInt32)), .unset, .unset, .unset] [(.long (((q5.toUInt64 >>> ((40 : Int32) &&& 0x3f).toInt64.toUInt64).toInt64) &&& (255 : Int64))), (.int (5 : Int32)), (.ref b6)]))
            refine GoW.of (fun t k => XS.l2i X128.here hx rfl (hb hby at_314) rfl k) ?_
            show GoW _ _ _ _ _ _ _ (T128.setTop (mkF m 315 #[.val (.int p1), .val (.int p2), .val (.int p3), .val (.int p4), .val (.long q5), .second, .val (.int (p1 &&& (7 : Int32))), .val (.ref b1), .val (.int (Int32.ofNat xs1.length)), .val (.ref b6), .val (.int ((p3 &&& (2147483647 : Int32)) % (Int32.ofNat xs1.length))), .val (.int ((p4 &&& (255 : Int32)).toUInt32.toUInt16.toUInt32.toInt32)), .unset, .unset, .unset] [(.int ((((q5.toUInt64 >>> ((40 : Int32) &&& 0x3f).toInt64.toUInt64).toInt64) &&& (255 : Int64)).toInt32)), (.int (5 : Int32)), (.ref b6)]))
            refine GoW.of (fun t k => XS.i2c X128.here hx rfl (hb hby at_315) rfl k) ?_
            show GoW _ _ _ _ _ _ _ (T128.setTop (mkF m 316 #[.val (.int p1), .val (.int p2), .val (.int p3), .val (.int p4), .val (.long q5), .second, .val (.int (p1 &&& (7 : Int32))), .val (.ref b1), .val (.int (Int32.ofNat xs1.length)), .val (.ref b6), .val (.int ((p3 &&& (2147483647 : Int32)) % (Int32.ofNat xs1.length))), .val (.int ((p4 &&& (255 : Int32)).toUInt32.toUInt16.toUInt32.toInt32)), .unset, .unset, .unset] [(.int (((((q5.toUInt64 >>> ((40 : Int32) &&& 0x3f).toInt64.toUInt64).toInt64) &&& (255 : Int64)).toInt32).toUInt32.toUInt16.toUInt32.toInt32)), (.int (5 : Int32)), (.ref b6)]))
            obtain ⟨cl130, Ar130, q130, S130, N130', H130, G130⟩ := id V128
            have hin130 := inb_of S130 (j := (5 : Int32)) ⟨by decide, by decide⟩
            obtain ⟨T130, h130, X130, e130, W130, st130⟩ := stC X128 hx hZ e128 Ar130 (j := (5 : Int32)) hin130 (g := (mkF m 316 #[.val (.int p1), .val (.int p2), .val (.int p3), .val (.int p4), .val (.long q5), .second, .val (.int (p1 &&& (7 : Int32))), .val (.ref b1), .val (.int (Int32.ofNat xs1.length)), .val (.ref b6), .val (.int ((p3 &&& (2147483647 : Int32)) % (Int32.ofNat xs1.length))), .val (.int ((p4 &&& (255 : Int32)).toUInt32.toUInt16.toUInt32.toInt32)), .unset, .unset, .unset] [(.int (((((q5.toUInt64 >>> ((40 : Int32) &&& 0x3f).toInt64.toUInt64).toInt64) &&& (255 : Int64)).toInt32).toUInt32.toUInt16.toUInt32.toInt32)), (.int (5 : Int32)), (.ref b6)])) rfl rfl (hb hby at_316)
            have V130 : Arv Z h130 b6 k6 .char (8 : Int32) [(.int (nar .char (((q5 &&& (255 : Int64)).toInt32).toUInt32.toUInt16.toUInt32.toInt32))), (.int (nar .char (((((q5.toUInt64 >>> ((8 : Int32) &&& 0x3f).toInt64.toUInt64).toInt64) &&& (255 : Int64)).toInt32).toUInt32.toUInt16.toUInt32.toInt32))), (.int (nar .char (((((q5.toUInt64 >>> ((16 : Int32) &&& 0x3f).toInt64.toUInt64).toInt64) &&& (255 : Int64)).toInt32).toUInt32.toUInt16.toUInt32.toInt32))), (.int (nar .char (((((q5.toUInt64 >>> ((24 : Int32) &&& 0x3f).toInt64.toUInt64).toInt64) &&& (255 : Int64)).toInt32).toUInt32.toUInt16.toUInt32.toInt32))), (.int (nar .char (((((q5.toUInt64 >>> ((32 : Int32) &&& 0x3f).toInt64.toUInt64).toInt64) &&& (255 : Int64)).toInt32).toUInt32.toUInt16.toUInt32.toInt32))), (.int (nar .char (((((q5.toUInt64 >>> ((40 : Int32) &&& 0x3f).toInt64.toUInt64).toInt64) &&& (255 : Int64)).toInt32).toUInt32.toUInt16.toUInt32.toInt32))), (.int (nar .char z40)), (.int (nar .char z45))] (.int (0 : Int32)) := Arv.set Ar130 q130 S130 N130' H130 G130 (fits_nar_char _) W130 5 rfl (Nat.le_of_ble_eq_true rfl)
            refine GoW.of st130 ?_
            have hs131 : h128.size ≤ h130.size := Nat.le_of_eq W130.size.symm
            have N130 := Fr.snoc X130 N128 (by omega)
            show GoW _ _ _ _ _ _ _ (T130.setTop (mkF m 317 #[.val (.int p1), .val (.int p2), .val (.int p3), .val (.int p4), .val (.long q5), .second, .val (.int (p1 &&& (7 : Int32))), .val (.ref b1), .val (.int (Int32.ofNat xs1.length)), .val (.ref b6), .val (.int ((p3 &&& (2147483647 : Int32)) % (Int32.ofNat xs1.length))), .val (.int ((p4 &&& (255 : Int32)).toUInt32.toUInt16.toUInt32.toInt32)), .unset, .unset, .unset] []))
            refine GoW.of (fun t k => XS.aload X130.here hx rfl (hb hby at_317) rfl rfl k) ?_
            show GoW _ _ _ _ _ _ _ (T130.setTop (mkF m 319 #[.val (.int p1), .val (.int p2), .val (.int p3), .val (.int p4), .val (.long q5), .second, .val (.int (p1 &&& (7 : Int32))), .val (.ref b1), .val (.int (Int32.ofNat xs1.length)), .val (.ref b6), .val (.int ((p3 &&& (2147483647 : Int32)) % (Int32.ofNat xs1.length))), .val (.int ((p4 &&& (255 : Int32)).toUInt32.toUInt16.toUInt32.toInt32)), .unset, .unset, .unset] [(.ref b6)]))
            refine GoW.of (fun t k => XS.bipush X130.here hx rfl (hb hby at_319) k) ?_
            show GoW _ _ _ _ _ _ _ (T130.setTop (mkF m 321 #[.val (.int p1), .val (.int p2), .val (.int p3), .val (.int p4), .val (.long q5), .second, .val (.int (p1 &&& (7 : Int32))), .val (.ref b1), .val (.int (Int32.ofNat xs1.length)), .val (.ref b6), .val (.int ((p3 &&& (2147483647 : Int32)) % (Int32.ofNat xs1.length))), .val (.int ((p4 &&& (255 : Int32)).toUInt32.toUInt16.toUInt32.toInt32)), .unset, .unset, .unset] [(.int (6 : Int32)), (.ref b6)]))
            refine GoW.of (fun t k => XS.lload X130.here hx rfl (hb hby at_321) rfl k) ?_
            show GoW _ _ _ _ _ _ _ (T130.setTop (mkF m 323 #[.val (.int p1), .val (.int p2), .val (.int p3), .val (.int p4), .val (.long q5), .second, .val (.int (p1 &&& (7 : Int32))), .val (.ref b1), .val (.int (Int32.ofNat xs1.length)), .val (.ref b6), .val (.int ((p3 &&& (2147483647 : Int32)) % (Int32.ofNat xs1.length))), .val (.int ((p4 &&& (255 : Int32)).toUInt32.toUInt16.toUInt32.toInt32)), .unset, .unset, .unset] [(.long q5), (.int (6 : Int32)), (.ref b6)]))
            refine GoW.of (fun t k => XS.bipush X130.here hx rfl (hb hby at_323) k) ?_
            show GoW _ _ _ _ _ _ _ (T130.setTop (mkF m 325 #[.val (.int p1), .val (.int p2), .val (.int p3), .val (.int p4), .val (.long q5), .second, .val (.int (p1 &&& (7 : Int32))), .val (.ref b1), .val (.int (Int32.ofNat xs1.length)), .val (.ref b6), .val (.int ((p3 &&& (2147483647 : Int32)) % (Int32.ofNat xs1.length))), .val (.int ((p4 &&& (255 : Int32)).toUInt32.toUInt16.toUInt32.toInt32)), .unset, .unset, .unset] [(.int (48 : Int32)), (.long q5), (.int (6 : Int32)), (.ref b6)]))
            refine GoW.of (fun t k => XS.lushr X130.here hx rfl (hb hby at_325) rfl k) ?_
            show GoW _ _ _ _ _ _ _ (T130.setTop (mkF m 326 #[.val (.int p1), .val (.int p2), .val (.int p3), .val (.int p4), .val (.long q5), .second, .val (.int (p1 &&& (7 : Int32))), .val (.ref b1), .val (.int (Int32.ofNat xs1.length)), .val (.ref b6), .val (.int ((p3 &&& (2147483647 : Int32)) % (Int32.ofNat xs1.length))), .val (.int ((p4 &&& (255 : Int32)).toUInt32.toUInt16.toUInt32.toInt32)), .unset, .unset, .unset] [(.long ((q5.toUInt64 >>> ((48 : Int32) &&& 0x3f).toInt64.toUInt64).toInt64)), (.int (6 : Int32)), (.ref b6)]))
            refine GoW.of (fun t k => X130.ldc2Long hx hown (mvT hZ (own_w hw 158 rfl)) (g := (mkF m 326 #[.val (.int p1), .val (.int p2), .val (.int p3), .val (.int p4), .val (.long q5), .second, .val (.int (p1 &&& (7 : Int32))), .val (.ref b1), .val (.int (Int32.ofNat xs1.length)), .val (.ref b6), .val (.int ((p3 &&& (2147483647 : Int32)) % (Int32.ofNat xs1.length))), .val (.int ((p4 &&& (255 : Int32)).toUInt32.toUInt16.toUInt32.toInt32)), .unset, .unset, .unset] [(.long ((q5.toUInt64 >>> ((48 : Int32) &&& 0x3f).toInt64.toUInt64).toInt64)), (.int (6 : Int32)), (.ref b6)])) rfl (hb hby at_326) _ k) ?_
            show GoW _ _ _ _ _ _ _ (T130.setTop (mkF m 329 #[.val (.int p1), .val (.int p2), .val (.int p3), .val (.int p4), .val (.long q5), .second, .val (.int (p1 &&& (7 : Int32))), .val (.ref b1), .val (.int (Int32.ofNat xs1.length)), .val (.ref b6), .val (.int ((p3 &&& (2147483647 : Int32)) % (Int32.ofNat xs1.length))), .val (.int ((p4 &&& (255 : Int32)).toUInt32.toUInt16.toUInt32.toInt32)), .unset, .unset, .unset] [(.long (255 : Int64)), (.long ((q5.toUInt64 >>> ((48 : Int32) &&& 0x3f).toInt64.toUInt64).toInt64)), (.int (6 : Int32)), (.ref b6)]))
            refine GoW.of (fun t k => XS.land X130.here hx rfl (hb hby at_329) rfl k) ?_
            show GoW _ _ _ _ _ _ _ (T130.setTop (mkF m 330 #[.val (.int p1), .val (.int p2), .val (.int p3), .val (.int p4), .val (.long q5), .second, .val (.int (p1 &&& (7 : Int32))), .val (.ref b1), .val (.int (Int32.ofNat xs1.length)), .val (.ref b6), .val (.int ((p3 &&& (2147483647 : Int32)) % (Int32.ofNat xs1.length))), .val (.int ((p4 &&& (255 : Int32)).toUInt32.toUInt16.toUInt32.toInt32)), .unset, .unset, .unset] [(.long (((q5.toUInt64 >>> ((48 : Int32) &&& 0x3f).toInt64.toUInt64).toInt64) &&& (255 : Int64))), (.int (6 : Int32)), (.ref b6)]))
            refine GoW.of (fun t k => XS.l2i X130.here hx rfl (hb hby at_330) rfl k) ?_
            show GoW _ _ _ _ _ _ _ (T130.setTop (mkF m 331 #[.val (.int p1), .val (.int p2), .val (.int p3), .val (.int p4), .val (.long q5), .second, .val (.int (p1 &&& (7 : Int32))), .val (.ref b1), .val (.int (Int32.ofNat xs1.length)), .val (.ref b6), .val (.int ((p3 &&& (2147483647 : Int32)) % (Int32.ofNat xs1.length))), .val (.int ((p4 &&& (255 : Int32)).toUInt32.toUInt16.toUInt32.toInt32)), .unset, .unset, .unset] [(.int ((((q5.toUInt64 >>> ((48 : Int32) &&& 0x3f).toInt64.toUInt64).toInt64) &&& (255 : Int64)).toInt32)), (.int (6 : Int32)), (.ref b6)]))
            refine GoW.of (fun t k => XS.i2c X130.here hx rfl (hb hby at_331) rfl k) ?_
            show GoW _ _ _ _ _ _ _ (T130.setTop (mkF m 332 #[.val (.int p1), .val (.int p2), .val (.int p3), .val (.int p4), .val (.long q5), .second, .val (.int (p1 &&& (7 : Int32))), .val (.ref b1), .val (.int (Int32.ofNat xs1.length)), .val (.ref b6), .val (.int ((p3 &&& (2147483647 : Int32)) % (Int32.ofNat xs1.length))), .val (.int ((p4 &&& (255 : Int32)).toUInt32.toUInt16.toUInt32.toInt32)), .unset, .unset, .unset] [(.int (((((q5.toUInt64 >>> ((48 : Int32) &&& 0x3f).toInt64.toUInt64).toInt64) &&& (255 : Int64)).toInt32).toUInt32.toUInt16.toUInt32.toInt32)), (.int (6 : Int32)), (.ref b6)]))
            obtain ⟨cl132, Ar132, q132, S132, N132', H132, G132⟩ := id V130
            have hin132 := inb_of S132 (j := (6 : Int32)) ⟨by decide, by decide⟩
            obtain ⟨T132, h132, X132, e132, W132, st132⟩ := stC X130 hx hZ e130 Ar132 (j := (6 : Int32)) hin132 (g := (mkF m 332 #[.val (.int p1), .val (.int p2), .val (.int p3), .val (.int p4), .val (.long q5), .second, .val (.int (p1 &&& (7 : Int32))), .val (.ref b1), .val (.int (Int32.ofNat xs1.length)), .val (.ref b6), .val (.int ((p3 &&& (2147483647 : Int32)) % (Int32.ofNat xs1.length))), .val (.int ((p4 &&& (255 : Int32)).toUInt32.toUInt16.toUInt32.toInt32)), .unset, .unset, .unset] [(.int (((((q5.toUInt64 >>> ((48 : Int32) &&& 0x3f).toInt64.toUInt64).toInt64) &&& (255 : Int64)).toInt32).toUInt32.toUInt16.toUInt32.toInt32)), (.int (6 : Int32)), (.ref b6)])) rfl rfl (hb hby at_332)
            have V132 : Arv Z h132 b6 k6 .char (8 : Int32) [(.int (nar .char (((q5 &&& (255 : Int64)).toInt32).toUInt32.toUInt16.toUInt32.toInt32))), (.int (nar .char (((((q5.toUInt64 >>> ((8 : Int32) &&& 0x3f).toInt64.toUInt64).toInt64) &&& (255 : Int64)).toInt32).toUInt32.toUInt16.toUInt32.toInt32))), (.int (nar .char (((((q5.toUInt64 >>> ((16 : Int32) &&& 0x3f).toInt64.toUInt64).toInt64) &&& (255 : Int64)).toInt32).toUInt32.toUInt16.toUInt32.toInt32))), (.int (nar .char (((((q5.toUInt64 >>> ((24 : Int32) &&& 0x3f).toInt64.toUInt64).toInt64) &&& (255 : Int64)).toInt32).toUInt32.toUInt16.toUInt32.toInt32))), (.int (nar .char (((((q5.toUInt64 >>> ((32 : Int32) &&& 0x3f).toInt64.toUInt64).toInt64) &&& (255 : Int64)).toInt32).toUInt32.toUInt16.toUInt32.toInt32))), (.int (nar .char (((((q5.toUInt64 >>> ((40 : Int32) &&& 0x3f).toInt64.toUInt64).toInt64) &&& (255 : Int64)).toInt32).toUInt32.toUInt16.toUInt32.toInt32))), (.int (nar .char (((((q5.toUInt64 >>> ((48 : Int32) &&& 0x3f).toInt64.toUInt64).toInt64) &&& (255 : Int64)).toInt32).toUInt32.toUInt16.toUInt32.toInt32))), (.int (nar .char z45))] (.int (0 : Int32)) := Arv.set Ar132 q132 S132 N132' H132 G132 (fits_nar_char _) W132 6 rfl (Nat.le_of_ble_eq_true rfl)
            refine GoW.of st132 ?_
            have hs133 : h130.size ≤ h132.size := Nat.le_of_eq W132.size.symm
            have N132 := Fr.snoc X132 N130 (by omega)
            show GoW _ _ _ _ _ _ _ (T132.setTop (mkF m 333 #[.val (.int p1), .val (.int p2), .val (.int p3), .val (.int p4), .val (.long q5), .second, .val (.int (p1 &&& (7 : Int32))), .val (.ref b1), .val (.int (Int32.ofNat xs1.length)), .val (.ref b6), .val (.int ((p3 &&& (2147483647 : Int32)) % (Int32.ofNat xs1.length))), .val (.int ((p4 &&& (255 : Int32)).toUInt32.toUInt16.toUInt32.toInt32)), .unset, .unset, .unset] []))
            refine GoW.of (fun t k => XS.aload X132.here hx rfl (hb hby at_333) rfl rfl k) ?_
            show GoW _ _ _ _ _ _ _ (T132.setTop (mkF m 335 #[.val (.int p1), .val (.int p2), .val (.int p3), .val (.int p4), .val (.long q5), .second, .val (.int (p1 &&& (7 : Int32))), .val (.ref b1), .val (.int (Int32.ofNat xs1.length)), .val (.ref b6), .val (.int ((p3 &&& (2147483647 : Int32)) % (Int32.ofNat xs1.length))), .val (.int ((p4 &&& (255 : Int32)).toUInt32.toUInt16.toUInt32.toInt32)), .unset, .unset, .unset] [(.ref b6)]))
            refine GoW.of (fun t k => XS.bipush X132.here hx rfl (hb hby at_335) k) ?_
            show GoW _ _ _ _ _ _ _ (T132.setTop (mkF m 337 #[.val (.int p1), .val (.int p2), .val (.int p3), .val (.int p4), .val (.long q5), .second, .val (.int (p1 &&& (7 : Int32))), .val (.ref b1), .val (.int (Int32.ofNat xs1.length)), .val (.ref b6), .val (.int ((p3 &&& (2147483647 : Int32)) % (Int32.ofNat xs1.length))), .val (.int ((p4 &&& (255 : Int32)).toUInt32.toUInt16.toUInt32.toInt32)), .unset, .unset, .unset] [(.int (7 : Int32)), (.ref b6)]))
            refine GoW.of (fun t k => XS.lload X132.here hx rfl (hb hby at_337) rfl k) ?_
            show GoW _ _ _ _ _ _ _ (T132.setTop (mkF m 339 #[.val (.int p1), .val (.int p2), .val (.int p3), .val (.int p4), .val (.long q5), .second, .val (.int (p1 &&& (7 : Int32))), .val (.ref b1), .val (.int (Int32.ofNat xs1.length)), .val (.ref b6), .val (.int ((p3 &&& (2147483647 : Int32)) % (Int32.ofNat xs1.length))), .val (.int ((p4 &&& (255 : Int32)).toUInt32.toUInt16.toUInt32.toInt32)), .unset, .unset, .unset] [(.long q5), (.int (7 : Int32)), (.ref b6)]))
            refine GoW.of (fun t k => XS.bipush X132.here hx rfl (hb hby at_339) k) ?_
            show GoW _ _ _ _ _ _ _ (T132.setTop (mkF m 341 #[.val (.int p1), .val (.int p2), .val (.int p3), .val (.int p4), .val (.long q5), .second, .val (.int (p1 &&& (7 : Int32))), .val (.ref b1), .val (.int (Int32.ofNat xs1.length)), .val (.ref b6), .val (.int ((p3 &&& (2147483647 : Int32)) % (Int32.ofNat xs1.length))), .val (.int ((p4 &&& (255 : Int32)).toUInt32.toUInt16.toUInt32.toInt32)), .unset, .unset, .unset] [(.int (56 : Int32)), (.long q5), (.int (7 : Int32)), (.ref b6)]))
            refine GoW.of (fun t k => XS.lushr X132.here hx rfl (hb hby at_341) rfl k) ?_
            show GoW _ _ _ _ _ _ _ (T132.setTop (mkF m 342 #[.val (.int p1), .val (.int p2), .val (.int p3), .val (.int p4), .val (.long q5), .second, .val (.int (p1 &&& (7 : Int32))), .val (.ref b1), .val (.int (Int32.ofNat xs1.length)), .val (.ref b6), .val (.int ((p3 &&& (2147483647 : Int32)) % (Int32.ofNat xs1.length))), .val (.int ((p4 &&& (255 : Int32)).toUInt32.toUInt16.toUInt32.toInt32)), .unset, .unset, .unset] [(.long ((q5.toUInt64 >>> ((56 : Int32) &&& 0x3f).toInt64.toUInt64).toInt64)), (.int (7 : Int32)), (.ref b6)]))
            refine GoW.of (fun t k => X132.ldc2Long hx hown (mvT hZ (own_w hw 158 rfl)) (g := (mkF m 342 #[.val (.int p1), .val (.int p2), .val (.int p3), .val (.int p4), .val (.long q5), .second, .val (.int (p1 &&& (7 : Int32))), .val (.ref b1), .val (.int (Int32.ofNat xs1.length)), .val (.ref b6), .val (.int ((p3 &&& (2147483647 : Int32)) % (Int32.ofNat xs1.length))), .val (.int ((p4 &&& (255 : Int32)).toUInt32.toUInt16.toUInt32.toInt32)), .unset, .unset, .unset] [(.long ((q5.toUInt64 >>> ((56 : Int32) &&& 0x3f).toInt64.toUInt64).toInt64)), (.int (7 : Int32)), (.ref b6)])) rfl (hb hby at_342) _ k) ?_
            show GoW _ _ _ _ _ _ _ (T132.setTop (mkF m 345 #[.val (.int p1), .val (.int p2), .val (.int p3), .val (.int p4), .val (.long q5), .second, .val (.int (p1 &&& (7 : Int32))), .val (.ref b1), .val (.int (Int32.ofNat xs1.length)), .val (.ref b6), .val (.int ((p3 &&& (2147483647 : Int32)) % (Int32.ofNat xs1.length))), .val (.int ((p4 &&& (255 : Int32)).toUInt32.toUInt16.toUInt32.toInt32)), .unset, .unset, .unset] [(.long (255 : Int64)), (.long ((q5.toUInt64 >>> ((56 : Int32) &&& 0x3f).toInt64.toUInt64).toInt64)), (.int (7 : Int32)), (.ref b6)]))
            refine GoW.of (fun t k => XS.land X132.here hx rfl (hb hby at_345) rfl k) ?_
            show GoW _ _ _ _ _ _ _ (T132.setTop (mkF m 346 #[.val (.int p1), .val (.int p2), .val (.int p3), .val (.int p4), .val (.long q5), .second, .val (.int (p1 &&& (7 : Int32))), .val (.ref b1), .val (.int (Int32.ofNat xs1.length)), .val (.ref b6), .val (.int ((p3 &&& (2147483647 : Int32)) % (Int32.ofNat xs1.length))), .val (.int ((p4 &&& (255 : Int32)).toUInt32.toUInt16.toUInt32.toInt32)), .unset, .unset, .unset] [(.long (((q5.toUInt64 >>> ((56 : Int32) &&& 0x3f).toInt64.toUInt64).toInt64) &&& (255 : Int64))), (.int (7 : Int32)), (.ref b6)]))
            refine GoW.of (fun t k => XS.l2i X132.here hx rfl (hb hby at_346) rfl k) ?_
            show GoW _ _ _ _ _ _ _ (T132.setTop (mkF m 347 #[.val (.int p1), .val (.int p2), .val (.int p3), .val (.int p4), .val (.long q5), .second, .val (.int (p1 &&& (7 : Int32))), .val (.ref b1), .val (.int (Int32.ofNat xs1.length)), .val (.ref b6), .val (.int ((p3 &&& (2147483647 : Int32)) % (Int32.ofNat xs1.length))), .val (.int ((p4 &&& (255 : Int32)).toUInt32.toUInt16.toUInt32.toInt32)), .unset, .unset, .unset] [(.int ((((q5.toUInt64 >>> ((56 : Int32) &&& 0x3f).toInt64.toUInt64).toInt64) &&& (255 : Int64)).toInt32)), (.int (7 : Int32)), (.ref b6)]))
            refine GoW.of (fun t k => XS.i2c X132.here hx rfl (hb hby at_347) rfl k) ?_
            show GoW _ _ _ _ _ _ _ (T132.setTop (mkF m 348 #[.val (.int p1), .val (.int p2), .val (.int p3), .val (.int p4), .val (.long q5), .second, .val (.int (p1 &&& (7 : Int32))), .val (.ref b1), .val (.int (Int32.ofNat xs1.length)), .val (.ref b6), .val (.int ((p3 &&& (2147483647 : Int32)) % (Int32.ofNat xs1.length))), .val (.int ((p4 &&& (255 : Int32)).toUInt32.toUInt16.toUInt32.toInt32)), .unset, .unset, .unset] [(.int (((((q5.toUInt64 >>> ((56 : Int32) &&& 0x3f).toInt64.toUInt64).toInt64) &&& (255 : Int64)).toInt32).toUInt32.toUInt16.toUInt32.toInt32)), (.int (7 : Int32)), (.ref b6)]))
            obtain ⟨cl134, Ar134, q134, S134, N134', H134, G134⟩ := id V132
            have hin134 := inb_of S134 (j := (7 : Int32)) ⟨by decide, by decide⟩
            obtain ⟨T134, h134, X134, e134, W134, st134⟩ := stC X132 hx hZ e132 Ar134 (j := (7 : Int32)) hin134 (g := (mkF m 348 #[.val (.int p1), .val (.int p2), .val (.int p3), .val (.int p4), .val (.long q5), .second, .val (.int (p1 &&& (7 : Int32))), .val (.ref b1), .val (.int (Int32.ofNat xs1.length)), .val (.ref b6), .val (.int ((p3 &&& (2147483647 : Int32)) % (Int32.ofNat xs1.length))), .val (.int ((p4 &&& (255 : Int32)).toUInt32.toUInt16.toUInt32.toInt32)), .unset, .unset, .unset] [(.int (((((q5.toUInt64 >>> ((56 : Int32) &&& 0x3f).toInt64.toUInt64).toInt64) &&& (255 : Int64)).toInt32).toUInt32.toUInt16.toUInt32.toInt32)), (.int (7 : Int32)), (.ref b6)])) rfl rfl (hb hby at_348)
            have V134 : Arv Z h134 b6 k6 .char (8 : Int32) [(.int (nar .char (((q5 &&& (255 : Int64)).toInt32).toUInt32.toUInt16.toUInt32.toInt32))), (.int (nar .char (((((q5.toUInt64 >>> ((8 : Int32) &&& 0x3f).toInt64.toUInt64).toInt64) &&& (255 : Int64)).toInt32).toUInt32.toUInt16.toUInt32.toInt32))), (.int (nar .char (((((q5.toUInt64 >>> ((16 : Int32) &&& 0x3f).toInt64.toUInt64).toInt64) &&& (255 : Int64)).toInt32).toUInt32.toUInt16.toUInt32.toInt32))), (.int (nar .char (((((q5.toUInt64 >>> ((24 : Int32) &&& 0x3f).toInt64.toUInt64).toInt64) &&& (255 : Int64)).toInt32).toUInt32.toUInt16.toUInt32.toInt32))), (.int (nar .char (((((q5.toUInt64 >>> ((32 : Int32) &&& 0x3f).toInt64.toUInt64).toInt64) &&& (255 : Int64)).toInt32).toUInt32.toUInt16.toUInt32.toInt32))), (.int (nar .char (((((q5.toUInt64 >>> ((40 : Int32) &&& 0x3f).toInt64.toUInt64).toInt64) &&& (255 : Int64)).toInt32).toUInt32.toUInt16.toUInt32.toInt32))), (.int (nar .char (((((q5.toUInt64 >>> ((48 : Int32) &&& 0x3f).toInt64.toUInt64).toInt64) &&& (255 : Int64)).toInt32).toUInt32.toUInt16.toUInt32.toInt32))), (.int (nar .char (((((q5.toUInt64 >>> ((56 : Int32) &&& 0x3f).toInt64.toUInt64).toInt64) &&& (255 : Int64)).toInt32).toUInt32.toUInt16.toUInt32.toInt32)))] (.int (0 : Int32)) := Arv.set Ar134 q134 S134 N134' H134 G134 (fits_nar_char _) W134 7 rfl (Nat.le_of_ble_eq_true rfl)
            refine GoW.of st134 ?_
            have hs135 : h132.size ≤ h134.size := Nat.le_of_eq W134.size.symm
            have N134 := Fr.snoc X134 N132 (by omega)
            show GoW _ _ _ _ _ _ _ (T134.setTop (mkF m 349 #[.val (.int p1), .val (.int p2), .val (.int p3), .val (.int p4), .val (.long q5), .second, .val (.int (p1 &&& (7 : Int32))), .val (.ref b1), .val (.int (Int32.ofNat xs1.length)), .val (.ref b6), .val (.int ((p3 &&& (2147483647 : Int32)) % (Int32.ofNat xs1.length))), .val (.int ((p4 &&& (255 : Int32)).toUInt32.toUInt16.toUInt32.toInt32)), .unset, .unset, .unset] []))
            refine GoW.of (fun t k => XS.aload X134.here hx rfl (hb hby at_349) rfl rfl k) ?_
            show GoW _ _ _ _ _ _ _ (T134.setTop (mkF m 351 #[.val (.int p1), .val (.int p2), .val (.int p3), .val (.int p4), .val (.long q5), .second, .val (.int (p1 &&& (7 : Int32))), .val (.ref b1), .val (.int (Int32.ofNat xs1.length)), .val (.ref b6), .val (.int ((p3 &&& (2147483647 : Int32)) % (Int32.ofNat xs1.length))), .val (.int ((p4 &&& (255 : Int32)).toUInt32.toUInt16.toUInt32.toInt32)), .unset, .unset, .unset] [(.ref b6)]))
            refine GoW.of (fun t k => XS.iloadN X134.here hx rfl (hb hby at_351) rfl k) ?_
            show GoW _ _ _ _ _ _ _ (T134.setTop (mkF m 352 #[.val (.int p1), .val (.int p2), .val (.int p3), .val (.int p4), .val (.long q5), .second, .val (.int (p1 &&& (7 : Int32))), .val (.ref b1), .val (.int (Int32.ofNat xs1.length)), .val (.ref b6), .val (.int ((p3 &&& (2147483647 : Int32)) % (Int32.ofNat xs1.length))), .val (.int ((p4 &&& (255 : Int32)).toUInt32.toUInt16.toUInt32.toInt32)), .unset, .unset, .unset] [(.int p1), (.ref b6)]))
            refine GoW.of (fun t k => XS.iconst X134.here hx rfl (hb hby at_352) k) ?_
            show GoW _ _ _ _ _ _ _ (T134.setTop (mkF m 353 #[.val (.int p1), .val (.int p2), .val (.int p3), .val (.int p4), .val (.long q5), .second, .val (.int (p1 &&& (7 : Int32))), .val (.ref b1), .val (.int (Int32.ofNat xs1.length)), .val (.ref b6), .val (.int ((p3 &&& (2147483647 : Int32)) % (Int32.ofNat xs1.length))), .val (.int ((p4 &&& (255 : Int32)).toUInt32.toUInt16.toUInt32.toInt32)), .unset, .unset, .unset] [(.int (3 : Int32)), (.int p1), (.ref b6)]))
            refine GoW.of (fun t k => XS.iushr X134.here hx rfl (hb hby at_353) rfl k) ?_
            show GoW _ _ _ _ _ _ _ (T134.setTop (mkF m 354 #[.val (.int p1), .val (.int p2), .val (.int p3), .val (.int p4), .val (.long q5), .second, .val (.int (p1 &&& (7 : Int32))), .val (.ref b1), .val (.int (Int32.ofNat xs1.length)), .val (.ref b6), .val (.int ((p3 &&& (2147483647 : Int32)) % (Int32.ofNat xs1.length))), .val (.int ((p4 &&& (255 : Int32)).toUInt32.toUInt16.toUInt32.toInt32)), .unset, .unset, .unset] [(.int ((p1.toUInt32 >>> ((3 : Int32) &&& 31).toUInt32).toInt32)), (.ref b6)]))
            refine GoW.of (fun t k => XS.bipush X134.here hx rfl (hb hby at_354) k) ?_
            show GoW _ _ _ _ _ _ _ (T134.setTop (mkF m 356 #[.val (.int p1), .val (.int p2), .val (.int p3), .val (.int p4), .val (.long q5), .second, .val (.int (p1 &&& (7 : Int32))), .val (.ref b1), .val (.int (Int32.ofNat xs1.length)), .val (.ref b6), .val (.int ((p3 &&& (2147483647 : Int32)) % (Int32.ofNat xs1.length))), .val (.int ((p4 &&& (255 : Int32)).toUInt32.toUInt16.toUInt32.toInt32)), .unset, .unset, .unset] [(.int (9 : Int32)), (.int ((p1.toUInt32 >>> ((3 : Int32) &&& 31).toUInt32).toInt32)), (.ref b6)]))
            refine GoW.of (fun t k => iremM X134 hx rfl (hb hby at_356) rfl (by decide) k) ?_
            show GoW _ _ _ _ _ _ _ (T134.setTop (mkF m 357 #[.val (.int p1), .val (.int p2), .val (.int p3), .val (.int p4), .val (.long q5), .second, .val (.int (p1 &&& (7 : Int32))), .val (.ref b1), .val (.int (Int32.ofNat xs1.length)), .val (.ref b6), .val (.int ((p3 &&& (2147483647 : Int32)) % (Int32.ofNat xs1.length))), .val (.int ((p4 &&& (255 : Int32)).toUInt32.toUInt16.toUInt32.toInt32)), .unset, .unset, .unset] [(.int (((p1.toUInt32 >>> ((3 : Int32) &&& 31).toUInt32).toInt32) % (9 : Int32))), (.ref b6)]))
            have C8_136 : own_C8 Z h134 b6 := by
              refine ⟨_, _, _, _, _, _, _, _, _, V134, ?_⟩
              intro c hc
              simp only [List.mem_cons, List.not_mem_nil, or_false] at hc
              rcases hc with rfl | rfl | rfl | rfl | rfl | rfl | rfl | rfl
              · exact (own_narr (own_chrL q5))
              · exact (own_narr (own_chrL ((q5.toUInt64 >>> ((8 : Int32) &&& 0x3f).toInt64.toUInt64).toInt64)))
              · exact (own_narr (own_chrL ((q5.toUInt64 >>> ((16 : Int32) &&& 0x3f).toInt64.toUInt64).toInt64)))
              · exact (own_narr (own_chrL ((q5.toUInt64 >>> ((24 : Int32) &&& 0x3f).toInt64.toUInt64).toInt64)))
              · exact (own_narr (own_chrL ((q5.toUInt64 >>> ((32 : Int32) &&& 0x3f).toInt64.toUInt64).toInt64)))
              · exact (own_narr (own_chrL ((q5.toUInt64 >>> ((40 : Int32) &&& 0x3f).toInt64.toUInt64).toInt64)))
              · exact (own_narr (own_chrL ((q5.toUInt64 >>> ((48 : Int32) &&& 0x3f).toInt64.toUInt64).toInt64)))
              · exact (own_narr (own_chrL ((q5.toUInt64 >>> ((56 : Int32) &&& 0x3f).toInt64.toUInt64).toInt64)))
            have f137 := (((((((((f44.wr W46 (by omega)).wr W120 (by omega)).wr W122 (by omega)).wr W124 (by omega)).wr W126 (by omega)).wr W128 (by omega)).wr W130 (by omega)).wr W132 (by omega)).wr W134 (by omega))
            obtain ⟨_, _, ⟨T138, L138, k138, n138⟩, -, X138, hS138, hgr138, ⟨Lc138, hQ138, hJ138, l138, y138, z138⟩, st138⟩ := callSS X134 hx (y := (⟨"com/example/clearstep/clearstep/core/EventKindFromWordPinLaw", "make", "([CI)Ljava/lang/String;"⟩ : MethodName)) hown (mvT hZ (own_w hw 52 rfl)) (mvT hZ (own_w hw 53 rfl)) (mvT hZ (own_w hw 3 rfl)) (mvT hZ (own_w hw 54 rfl)) (by decide) (backOfJ (W := 0) (rm10 l Z a0 hw [] b6 (((p1.toUInt32 >>> ((3 : Int32) &&& 31).toUInt32).toInt32) % (9 : Int32)) cs h134 n0 (by omega) f137 hcw hh0' hh1' hh2' hh3' hh4' hh5' S_cs hcs C8_136) hZ (own_w hw 54 rfl) (own_w hw 3 rfl) (by decide) (by decide)) (g := (mkF m 357 #[.val (.int p1), .val (.int p2), .val (.int p3), .val (.int p4), .val (.long q5), .second, .val (.int (p1 &&& (7 : Int32))), .val (.ref b1), .val (.int (Int32.ofNat xs1.length)), .val (.ref b6), .val (.int ((p3 &&& (2147483647 : Int32)) % (Int32.ofNat xs1.length))), .val (.int ((p4 &&& (255 : Int32)).toUInt32.toUInt16.toUInt32.toInt32)), .unset, .unset, .unset] [(.int (((p1.toUInt32 >>> ((3 : Int32) &&& 31).toUInt32).toInt32) % (9 : Int32))), (.ref b6)])) rfl (by rw [hml]; rfl) (argsL := [(.ref b6), (.int (((p1.toUInt32 >>> ((3 : Int32) &&& 31).toUInt32).toInt32) % (9 : Int32)))]) (rest := []) (lenOf pd_12 rfl) rfl (by show 2 * 0 + _ ≤ _; exact Nat.le_of_eq rfl) (hb hby at_357) (fun _ hw1 => ⟨rfl, e134, own_J.warm (own_J.keep hJ1 ((((((((((((((((((Keep.refl T1.heap []).ext E6).wr W11 (Or.inr (by omega))).wr W16 (Or.inr (by omega))).wr W21 (Or.inr (by omega))).wr W26 (Or.inr (by omega))).wr W31 (Or.inr (by omega))).wr W36 (Or.inr (by omega))).wr W41 (Or.inr (by omega))).wr W46 (Or.inr (by omega))).wr W120 (Or.inr (by omega))).wr W122 (Or.inr (by omega))).wr W124 (Or.inr (by omega))).wr W126 (Or.inr (by omega))).wr W128 (Or.inr (by omega))).wr W130 (Or.inr (by omega))).wr W132 (Or.inr (by omega))).wr W134 (Or.inr (by omega)))) hw1, (by decide : 3 + 4 ≤ _), (by decide : 40 + 20 ≤ _)⟩)
            dsimp only [Pt.U, Pt.locs, Pt.cells, Pt.slots] at X138 l138 y138 z138 st138 hQ138 hS138 hgr138 hJ138
            replace y138 : k138 = 7 := y138.trans (by decide)
            replace z138 : n138 = 60 := z138.trans (by decide)
            subst y138 z138
            obtain ⟨X138, hS', hZ', hown'⟩ := rebS hS (by rw [e134]; omega) X138 hS138 hgr138 hZ hown
            have hk : T138.heap.size ≤ T138.heap.size := Nat.le_refl _
            have hS := hS'
            have hZ := hZ'
            have hown := hown'
            obtain ⟨b138, xs138, rfl, N138q, K138, Sm138⟩ := hQ138
            have N138 : Fr n0 L138 := by rw [l138]; exact Fr.app N134 N138q
            clear l138
            refine GoW.tr st138 ?_
            have hs139 : h134.size ≤ T138.heap.size := K138.1
            show GoW _ _ _ _ _ _ _ (T138.setTop (mkF m 360 #[.val (.int p1), .val (.int p2), .val (.int p3), .val (.int p4), .val (.long q5), .second, .val (.int (p1 &&& (7 : Int32))), .val (.ref b1), .val (.int (Int32.ofNat xs1.length)), .val (.ref b6), .val (.int ((p3 &&& (2147483647 : Int32)) % (Int32.ofNat xs1.length))), .val (.int ((p4 &&& (255 : Int32)).toUInt32.toUInt16.toUInt32.toInt32)), .unset, .unset, .unset] [(.ref b138)]))
            refine GoW.of (fun t k => XS.astore X138.here hx rfl (hb hby at_360) rfl rfl (l' := #[.val (.int p1), .val (.int p2), .val (.int p3), .val (.int p4), .val (.long q5), .second, .val (.int (p1 &&& (7 : Int32))), .val (.ref b1), .val (.int (Int32.ofNat xs1.length)), .val (.ref b6), .val (.int ((p3 &&& (2147483647 : Int32)) % (Int32.ofNat xs1.length))), .val (.int ((p4 &&& (255 : Int32)).toUInt32.toUInt16.toUInt32.toInt32)), .val (.ref b138), .unset, .unset]) rfl k) ?_
            show GoW _ _ _ _ _ _ _ (T138.setTop (mkF m 362 #[.val (.int p1), .val (.int p2), .val (.int p3), .val (.int p4), .val (.long q5), .second, .val (.int (p1 &&& (7 : Int32))), .val (.ref b1), .val (.int (Int32.ofNat xs1.length)), .val (.ref b6), .val (.int ((p3 &&& (2147483647 : Int32)) % (Int32.ofNat xs1.length))), .val (.int ((p4 &&& (255 : Int32)).toUInt32.toUInt16.toUInt32.toInt32)), .val (.ref b138), .unset, .unset] []))
            refine GoW.of (fun t k => XS.aload X138.here hx rfl (hb hby at_362) rfl rfl k) ?_
            show GoW _ _ _ _ _ _ _ (T138.setTop (mkF m 364 #[.val (.int p1), .val (.int p2), .val (.int p3), .val (.int p4), .val (.long q5), .second, .val (.int (p1 &&& (7 : Int32))), .val (.ref b1), .val (.int (Int32.ofNat xs1.length)), .val (.ref b6), .val (.int ((p3 &&& (2147483647 : Int32)) % (Int32.ofNat xs1.length))), .val (.int ((p4 &&& (255 : Int32)).toUInt32.toUInt16.toUInt32.toInt32)), .val (.ref b138), .unset, .unset] [(.ref b138)]))
            have f140 := (f137.keep K138 all0)
            obtain ⟨_, _, ⟨T141, L141, k141, n141⟩, -, X141, hS141, hgr141, ⟨Lc141, hQ141, hJ141, l141, y141, z141⟩, st141⟩ := callSS X138 hx (y := (⟨"com/example/clearstep/clearstep/core/EventKindFromWordPinLaw", "expected", "(Ljava/lang/String;)Lcom/example/clearstep/clearstep/core/EventKind;"⟩ : MethodName)) hown (mvT hZ (own_w hw 76 rfl)) (mvT hZ (own_w hw 77 rfl)) (mvT hZ (own_w hw 3 rfl)) (mvT hZ (own_w hw 78 rfl)) (by decide) (backOfJ (W := 0) (rmXS l Z a0 hw [] b138 xs138 cs w0 w1 w2 w3 w4 T138.heap n0 (by omega) f140 hcw hh0' hh1' hh2' hh3' hh4' hh5' S_cs hcs S_k0 S_k1 S_k2 S_k3 S_k4 Sm138) hZ (own_w hw 78 rfl) (own_w hw 3 rfl) (by decide) (by decide)) (g := (mkF m 364 #[.val (.int p1), .val (.int p2), .val (.int p3), .val (.int p4), .val (.long q5), .second, .val (.int (p1 &&& (7 : Int32))), .val (.ref b1), .val (.int (Int32.ofNat xs1.length)), .val (.ref b6), .val (.int ((p3 &&& (2147483647 : Int32)) % (Int32.ofNat xs1.length))), .val (.int ((p4 &&& (255 : Int32)).toUInt32.toUInt16.toUInt32.toInt32)), .val (.ref b138), .unset, .unset] [(.ref b138)])) rfl (by rw [hml]; rfl) (argsL := [(.ref b138)]) (rest := []) (lenOf pd_13 rfl) rfl (by show 2 * 0 + _ ≤ _; exact Nat.le_of_eq rfl) (hb hby at_364) (fun _ hw1 => ⟨rfl, rfl, own_J.warm hJ138 hw1, (by decide : 7 + 10 ≤ _), (by decide : 60 + 136 ≤ _)⟩)
            dsimp only [Pt.U, Pt.locs, Pt.cells, Pt.slots] at X141 l141 y141 z141 st141 hQ141 hS141 hgr141 hJ141
            replace y141 : k141 = 17 := y141.trans (by decide)
            replace z141 : n141 = 196 := z141.trans (by decide)
            subst y141 z141
            obtain ⟨X141, hS', hZ', hown'⟩ := rebS hS hk X141 hS141 hgr141 hZ hown
            have hk : T141.heap.size ≤ T141.heap.size := Nat.le_refl _
            have hS := hS'
            have hZ := hZ'
            have hown := hown'
            obtain ⟨rfl, N141q, K141⟩ := hQ141
            have N141 : Fr n0 L141 := by rw [l141]; exact Fr.app N138 N141q
            clear l141
            refine GoW.tr st141 ?_
            have hs142 : T138.heap.size ≤ T141.heap.size := K141.1
            show GoW _ _ _ _ _ _ _ (T141.setTop (mkF m 367 #[.val (.int p1), .val (.int p2), .val (.int p3), .val (.int p4), .val (.long q5), .second, .val (.int (p1 &&& (7 : Int32))), .val (.ref b1), .val (.int (Int32.ofNat xs1.length)), .val (.ref b6), .val (.int ((p3 &&& (2147483647 : Int32)) % (Int32.ofNat xs1.length))), .val (.int ((p4 &&& (255 : Int32)).toUInt32.toUInt16.toUInt32.toInt32)), .val (.ref b138), .unset, .unset] [(own_ev xs138 w0 w1 w2 w3 w4)]))
            refine GoW.of (fun t k => XS.astore X141.here hx rfl (hb hby at_367) rfl (own_ev_ref xs138 w0 w1 w2 w3 w4) (l' := #[.val (.int p1), .val (.int p2), .val (.int p3), .val (.int p4), .val (.long q5), .second, .val (.int (p1 &&& (7 : Int32))), .val (.ref b1), .val (.int (Int32.ofNat xs1.length)), .val (.ref b6), .val (.int ((p3 &&& (2147483647 : Int32)) % (Int32.ofNat xs1.length))), .val (.int ((p4 &&& (255 : Int32)).toUInt32.toUInt16.toUInt32.toInt32)), .val (.ref b138), .val (own_ev xs138 w0 w1 w2 w3 w4), .unset]) (by rcases ref_cases (own_ev_ref xs138 w0 w1 w2 w3 w4) with h' | ⟨x', h'⟩ <;> (rw [h']; rfl)) k) ?_
            show GoW _ _ _ _ _ _ _ (T141.setTop (mkF m 369 #[.val (.int p1), .val (.int p2), .val (.int p3), .val (.int p4), .val (.long q5), .second, .val (.int (p1 &&& (7 : Int32))), .val (.ref b1), .val (.int (Int32.ofNat xs1.length)), .val (.ref b6), .val (.int ((p3 &&& (2147483647 : Int32)) % (Int32.ofNat xs1.length))), .val (.int ((p4 &&& (255 : Int32)).toUInt32.toUInt16.toUInt32.toInt32)), .val (.ref b138), .val (own_ev xs138 w0 w1 w2 w3 w4), .unset] []))
            refine GoW.of (fun t k => XS.aload X141.here hx rfl (hb hby at_369) rfl rfl k) ?_
            show GoW _ _ _ _ _ _ _ (T141.setTop (mkF m 371 #[.val (.int p1), .val (.int p2), .val (.int p3), .val (.int p4), .val (.long q5), .second, .val (.int (p1 &&& (7 : Int32))), .val (.ref b1), .val (.int (Int32.ofNat xs1.length)), .val (.ref b6), .val (.int ((p3 &&& (2147483647 : Int32)) % (Int32.ofNat xs1.length))), .val (.int ((p4 &&& (255 : Int32)).toUInt32.toUInt16.toUInt32.toInt32)), .val (.ref b138), .val (own_ev xs138 w0 w1 w2 w3 w4), .unset] [(.ref b138)]))
            have f143 := (f140.keep K141 all0)
            have f144 := (Sm138.keep ((Keep.refl T138.heap []).trans K141 all0))
            obtain ⟨_, _, ⟨T145, L145, k145, n145⟩, -, X145, ⟨Lc145, hQ145, l145, y145, z145⟩, st145⟩ := Jvm.LawKit.callS X141 hx (y := (⟨"com/example/clearstep/clearstep/core/EventKind", "fromWord", "(Ljava/lang/String;)Ljava/util/Optional;"⟩ : MethodName)) hown (mvT hZ (own_w hw 94 rfl)) (mvT hZ (own_w hw 95 rfl)) (mvT hZ (own_w hw 92 rfl)) (mvT hZ (own_w hw 96 rfl)) (by decide) (backOf (W := 0) (rmFS l Z a0 hw [] b138 xs138 cs w0 w1 w2 w3 w4 s0 s1 s2 s3 s4 wE wV kv T141.heap n0 (by omega) f143 S_cs hcs F_w0 F_w1 F_w2 F_w3 F_w4 S_w0 S_w1 S_w2 S_w3 S_w4 S_E E_E F_E S_V V_V E_V f144) hZ (own_w hw 96 rfl) (own_w hw 92 rfl) (by decide) (by decide)) (g := (mkF m 371 #[.val (.int p1), .val (.int p2), .val (.int p3), .val (.int p4), .val (.long q5), .second, .val (.int (p1 &&& (7 : Int32))), .val (.ref b1), .val (.int (Int32.ofNat xs1.length)), .val (.ref b6), .val (.int ((p3 &&& (2147483647 : Int32)) % (Int32.ofNat xs1.length))), .val (.int ((p4 &&& (255 : Int32)).toUInt32.toUInt16.toUInt32.toInt32)), .val (.ref b138), .val (own_ev xs138 w0 w1 w2 w3 w4), .unset] [(.ref b138)])) rfl (by rw [hml]; rfl) (argsL := [(.ref b138)]) (rest := []) (lenOf pd_14 rfl) rfl (by show 2 * 0 + _ ≤ _; exact Nat.le_of_eq rfl) (hb hby at_371) (fun _ _ => ⟨rfl, rfl, (by decide : 17 + 2 ≤ _), (by decide : 196 + 6 ≤ _)⟩)
            dsimp only [Pt.U, Pt.locs, Pt.cells, Pt.slots] at X145 l145 y145 z145 st145 hQ145
            replace y145 : k145 = 19 := y145.trans (by decide)
            replace z145 : n145 = 202 := z145.trans (by decide)
            subst y145 z145
            obtain ⟨o145, rfl, N145q, K145, hlt145, Ex145, Fv145⟩ := hQ145
            have N145 : Fr n0 L145 := by rw [l145]; exact Fr.app N141 N145q
            clear l145
            refine GoW.of st145 ?_
            have hs146 : T141.heap.size ≤ T145.heap.size := K145.1
            show GoW _ _ _ _ _ _ _ (T145.setTop (mkF m 374 #[.val (.int p1), .val (.int p2), .val (.int p3), .val (.int p4), .val (.long q5), .second, .val (.int (p1 &&& (7 : Int32))), .val (.ref b1), .val (.int (Int32.ofNat xs1.length)), .val (.ref b6), .val (.int ((p3 &&& (2147483647 : Int32)) % (Int32.ofNat xs1.length))), .val (.int ((p4 &&& (255 : Int32)).toUInt32.toUInt16.toUInt32.toInt32)), .val (.ref b138), .val (own_ev xs138 w0 w1 w2 w3 w4), .unset] [(.ref o145)]))
            refine GoW.of (fun t k => XS.astore X145.here hx rfl (hb hby at_374) rfl rfl (l' := #[.val (.int p1), .val (.int p2), .val (.int p3), .val (.int p4), .val (.long q5), .second, .val (.int (p1 &&& (7 : Int32))), .val (.ref b1), .val (.int (Int32.ofNat xs1.length)), .val (.ref b6), .val (.int ((p3 &&& (2147483647 : Int32)) % (Int32.ofNat xs1.length))), .val (.int ((p4 &&& (255 : Int32)).toUInt32.toUInt16.toUInt32.toInt32)), .val (.ref b138), .val (own_ev xs138 w0 w1 w2 w3 w4), .val (.ref o145)]) rfl k) ?_
            show GoW _ _ _ _ _ _ _ (T145.setTop (mkF m 376 #[.val (.int p1), .val (.int p2), .val (.int p3), .val (.int p4), .val (.long q5), .second, .val (.int (p1 &&& (7 : Int32))), .val (.ref b1), .val (.int (Int32.ofNat xs1.length)), .val (.ref b6), .val (.int ((p3 &&& (2147483647 : Int32)) % (Int32.ofNat xs1.length))), .val (.int ((p4 &&& (255 : Int32)).toUInt32.toUInt16.toUInt32.toInt32)), .val (.ref b138), .val (own_ev xs138 w0 w1 w2 w3 w4), .val (.ref o145)] []))
            refine GoW.of (fun t k => XS.aload X145.here hx rfl (hb hby at_376) rfl rfl k) ?_
            show GoW _ _ _ _ _ _ _ (T145.setTop (mkF m 378 #[.val (.int p1), .val (.int p2), .val (.int p3), .val (.int p4), .val (.long q5), .second, .val (.int (p1 &&& (7 : Int32))), .val (.ref b1), .val (.int (Int32.ofNat xs1.length)), .val (.ref b6), .val (.int ((p3 &&& (2147483647 : Int32)) % (Int32.ofNat xs1.length))), .val (.int ((p4 &&& (255 : Int32)).toUInt32.toUInt16.toUInt32.toInt32)), .val (.ref b138), .val (own_ev xs138 w0 w1 w2 w3 w4), .val (.ref o145)] [(.ref o145)]))
            refine GoW.of (fun t k => XS.ifnonnullYes X145.here hx rfl (pc0 := 378) (pc' := 383) rfl (hb hby at_378) rfl (by decide) (by decide) k) ?_
            show GoW _ _ _ _ _ _ _ (T145.setTop (mkF m 383 #[.val (.int p1), .val (.int p2), .val (.int p3), .val (.int p4), .val (.long q5), .second, .val (.int (p1 &&& (7 : Int32))), .val (.ref b1), .val (.int (Int32.ofNat xs1.length)), .val (.ref b6), .val (.int ((p3 &&& (2147483647 : Int32)) % (Int32.ofNat xs1.length))), .val (.int ((p4 &&& (255 : Int32)).toUInt32.toUInt16.toUInt32.toInt32)), .val (.ref b138), .val (own_ev xs138 w0 w1 w2 w3 w4), .val (.ref o145)] []))
            refine GoW.of (fun t k => XS.aload X145.here hx rfl (hb hby at_383) rfl (own_ev_ref xs138 w0 w1 w2 w3 w4) k) ?_
            show GoW _ _ _ _ _ _ _ (T145.setTop (mkF m 385 #[.val (.int p1), .val (.int p2), .val (.int p3), .val (.int p4), .val (.long q5), .second, .val (.int (p1 &&& (7 : Int32))), .val (.ref b1), .val (.int (Int32.ofNat xs1.length)), .val (.ref b6), .val (.int ((p3 &&& (2147483647 : Int32)) % (Int32.ofNat xs1.length))), .val (.int ((p4 &&& (255 : Int32)).toUInt32.toUInt16.toUInt32.toInt32)), .val (.ref b138), .val (own_ev xs138 w0 w1 w2 w3 w4), .val (.ref o145)] [(own_ev xs138 w0 w1 w2 w3 w4)]))
            rcases ref_cases (own_ev_ref xs138 w0 w1 w2 w3 w4) with hv147 | ⟨xv147, hv147⟩
            · skip
              refine GoW.of (fun t k => XS.ifnonnullNo X145.here hx rfl (hb hby at_385) (congrArg (fun z => (z :: [] : List Value)) hv147) k) ?_
              show GoW _ _ _ _ _ _ _ (T145.setTop (mkF m 388 #[.val (.int p1), .val (.int p2), .val (.int p3), .val (.int p4), .val (.long q5), .second, .val (.int (p1 &&& (7 : Int32))), .val (.ref b1), .val (.int (Int32.ofNat xs1.length)), .val (.ref b6), .val (.int ((p3 &&& (2147483647 : Int32)) % (Int32.ofNat xs1.length))), .val (.int ((p4 &&& (255 : Int32)).toUInt32.toUInt16.toUInt32.toInt32)), .val (.ref b138), .val (own_ev xs138 w0 w1 w2 w3 w4), .val (.ref o145)] []))
              refine GoW.of (fun t k => XS.aload X145.here hx rfl (hb hby at_388) rfl rfl k) ?_
              show GoW _ _ _ _ _ _ _ (T145.setTop (mkF m 390 #[.val (.int p1), .val (.int p2), .val (.int p3), .val (.int p4), .val (.long q5), .second, .val (.int (p1 &&& (7 : Int32))), .val (.ref b1), .val (.int (Int32.ofNat xs1.length)), .val (.ref b6), .val (.int ((p3 &&& (2147483647 : Int32)) % (Int32.ofNat xs1.length))), .val (.int ((p4 &&& (255 : Int32)).toUInt32.toUInt16.toUInt32.toInt32)), .val (.ref b138), .val (own_ev xs138 w0 w1 w2 w3 w4), .val (.ref o145)] [(.ref o145)]))
              obtain ⟨cq148, kq148, q148a, q148b, q148c⟩ := isOf hZ rfl Ex145
              obtain ⟨_, _, ⟨T148, L148, k148, n148⟩, -, X148, ⟨Lc148, hQ148, l148, y148, z148⟩, st148⟩ := X145.virtualBack hx (y := (⟨"java/util/Optional", "isEmpty", "()Z"⟩ : MethodName)) (z := (⟨"java/util/Optional", "isEmpty", "()Z"⟩ : MethodName)) hown (mvT hZ (own_w hw 152 rfl)) (mvT hZ (own_w hw 153 rfl)) (notFace_of_selects (args := #[]) (mvT hZ (own_w hw 155 rfl))) (mvT hZ (own_w hw 155 rfl)) (mvT hZ (own_w hw 154 rfl)) (by decide) (backOf (W := 0) (rm28 l Z a0 hw [] o145 T145.heap n0 (by omega) (by rw [← hv147]; exact Fv145)) hZ (own_w hw 156 rfl) (own_w hw 121 rfl) (by decide) (by decide)) q148a q148c (g := (mkF m 390 #[.val (.int p1), .val (.int p2), .val (.int p3), .val (.int p4), .val (.long q5), .second, .val (.int (p1 &&& (7 : Int32))), .val (.ref b1), .val (.int (Int32.ofNat xs1.length)), .val (.ref b6), .val (.int ((p3 &&& (2147483647 : Int32)) % (Int32.ofNat xs1.length))), .val (.int ((p4 &&& (255 : Int32)).toUInt32.toUInt16.toUInt32.toInt32)), .val (.ref b138), .val (own_ev xs138 w0 w1 w2 w3 w4), .val (.ref o145)] [(.ref o145)])) rfl (by rw [hml]; rfl) (Steps.refl _) (argsL := []) (rest := []) (lenOf pd_15 rfl) rfl (by show 2 * 0 + _ ≤ _; exact Nat.le_of_eq rfl) (hb hby at_390) (fun _ _ => ⟨rfl, rfl, (by decide : 19 + 0 ≤ _), (by decide : 202 + 0 ≤ _)⟩)
              dsimp only [Pt.U, Pt.locs, Pt.cells, Pt.slots] at X148 l148 y148 z148 st148 hQ148
              replace y148 : k148 = 19 := y148.trans (by decide)
              replace z148 : n148 = 202 := z148.trans (by decide)
              subst y148 z148
              obtain ⟨rfl, N148q, e148⟩ := hQ148
              have N148 : Fr n0 L148 := by rw [l148]; exact Fr.app N145 N148q
              clear l148
              refine GoW.tr st148 ?_
              show GoW _ _ _ _ _ _ _ (T148.setTop (mkF m 393 #[.val (.int p1), .val (.int p2), .val (.int p3), .val (.int p4), .val (.long q5), .second, .val (.int (p1 &&& (7 : Int32))), .val (.ref b1), .val (.int (Int32.ofNat xs1.length)), .val (.ref b6), .val (.int ((p3 &&& (2147483647 : Int32)) % (Int32.ofNat xs1.length))), .val (.int ((p4 &&& (255 : Int32)).toUInt32.toUInt16.toUInt32.toInt32)), .val (.ref b138), .val (own_ev xs138 w0 w1 w2 w3 w4), .val (.ref o145)] [(.int (1 : Int32))]))
              refine GoW.out X148 hS (by rw [e148]; omega) (v := some (.int (1 : Int32))) (fun h => by rw [Bd.returns] at h; cases h) hlk (fun fs hr => retN X148 hx (t := .boolean) Bd.returns (by simp) (hb hby at_393) hr) ?_ (by decide) (by decide)
              show Q0 Z p1 p2 p3 p4 q5 cs fm w0 w1 w2 w3 w4 s0 s1 s2 s3 s4 wE wV kv h0 n0 _ T148.heap _
              rw [e148]
              exact ⟨rfl, N148⟩
            · skip
              refine GoW.of (fun t k => XS.ifnonnullYes X145.here hx rfl (pc0 := 385) (pc' := 394) rfl (hb hby at_385) (congrArg (fun z => (z :: [] : List Value)) hv147) (by decide) (by decide) k) ?_
              show GoW _ _ _ _ _ _ _ (T145.setTop (mkF m 394 #[.val (.int p1), .val (.int p2), .val (.int p3), .val (.int p4), .val (.long q5), .second, .val (.int (p1 &&& (7 : Int32))), .val (.ref b1), .val (.int (Int32.ofNat xs1.length)), .val (.ref b6), .val (.int ((p3 &&& (2147483647 : Int32)) % (Int32.ofNat xs1.length))), .val (.int ((p4 &&& (255 : Int32)).toUInt32.toUInt16.toUInt32.toInt32)), .val (.ref b138), .val (own_ev xs138 w0 w1 w2 w3 w4), .val (.ref o145)] []))
              refine GoW.of (fun t k => XS.aload X145.here hx rfl (hb hby at_394) rfl rfl k) ?_
              show GoW _ _ _ _ _ _ _ (T145.setTop (mkF m 396 #[.val (.int p1), .val (.int p2), .val (.int p3), .val (.int p4), .val (.long q5), .second, .val (.int (p1 &&& (7 : Int32))), .val (.ref b1), .val (.int (Int32.ofNat xs1.length)), .val (.ref b6), .val (.int ((p3 &&& (2147483647 : Int32)) % (Int32.ofNat xs1.length))), .val (.int ((p4 &&& (255 : Int32)).toUInt32.toUInt16.toUInt32.toInt32)), .val (.ref b138), .val (own_ev xs138 w0 w1 w2 w3 w4), .val (.ref o145)] [(.ref o145)]))
              obtain ⟨cq149, kq149, q149a, q149b, q149c⟩ := isOf hZ rfl Ex145
              obtain ⟨_, _, ⟨T149, L149, k149, n149⟩, -, X149, ⟨Lc149, hQ149, l149, y149, z149⟩, st149⟩ := X145.virtualBack hx (y := (⟨"java/util/Optional", "isPresent", "()Z"⟩ : MethodName)) (z := (⟨"java/util/Optional", "isPresent", "()Z"⟩ : MethodName)) hown (mvT hZ (own_w hw 136 rfl)) (mvT hZ (own_w hw 137 rfl)) (notFace_of_selects (args := #[]) (mvT hZ (own_w hw 139 rfl))) (mvT hZ (own_w hw 139 rfl)) (mvT hZ (own_w hw 138 rfl)) (by decide) (backOf (W := 0) (rm25 l Z a0 hw [] o145 xv147 T145.heap n0 (by omega) (by rw [← hv147]; exact Fv145)) hZ (own_w hw 140 rfl) (own_w hw 121 rfl) (by decide) (by decide)) q149a q149c (g := (mkF m 396 #[.val (.int p1), .val (.int p2), .val (.int p3), .val (.int p4), .val (.long q5), .second, .val (.int (p1 &&& (7 : Int32))), .val (.ref b1), .val (.int (Int32.ofNat xs1.length)), .val (.ref b6), .val (.int ((p3 &&& (2147483647 : Int32)) % (Int32.ofNat xs1.length))), .val (.int ((p4 &&& (255 : Int32)).toUInt32.toUInt16.toUInt32.toInt32)), .val (.ref b138), .val (own_ev xs138 w0 w1 w2 w3 w4), .val (.ref o145)] [(.ref o145)])) rfl (by rw [hml]; rfl) (Steps.refl _) (argsL := []) (rest := []) (lenOf pd_15 rfl) rfl (by show 2 * 0 + _ ≤ _; exact Nat.le_of_eq rfl) (hb hby at_396) (fun _ _ => ⟨rfl, rfl, (by decide : 19 + 0 ≤ _), (by decide : 202 + 0 ≤ _)⟩)
              dsimp only [Pt.U, Pt.locs, Pt.cells, Pt.slots] at X149 l149 y149 z149 st149 hQ149
              replace y149 : k149 = 19 := y149.trans (by decide)
              replace z149 : n149 = 202 := z149.trans (by decide)
              subst y149 z149
              obtain ⟨rfl, N149q, e149⟩ := hQ149
              have N149 : Fr n0 L149 := by rw [l149]; exact Fr.app N145 N149q
              clear l149
              refine GoW.tr st149 ?_
              show GoW _ _ _ _ _ _ _ (T149.setTop (mkF m 399 #[.val (.int p1), .val (.int p2), .val (.int p3), .val (.int p4), .val (.long q5), .second, .val (.int (p1 &&& (7 : Int32))), .val (.ref b1), .val (.int (Int32.ofNat xs1.length)), .val (.ref b6), .val (.int ((p3 &&& (2147483647 : Int32)) % (Int32.ofNat xs1.length))), .val (.int ((p4 &&& (255 : Int32)).toUInt32.toUInt16.toUInt32.toInt32)), .val (.ref b138), .val (own_ev xs138 w0 w1 w2 w3 w4), .val (.ref o145)] [(.int (1 : Int32))]))
              refine GoW.of (fun t k => XS.ifNo X149.here hx rfl (hb hby at_399) rfl ((if0 _ _).trans (feq (by decide : ¬ ((1 : Int32) = (0 : Int32)))).1) k) ?_
              show GoW _ _ _ _ _ _ _ (T149.setTop (mkF m 402 #[.val (.int p1), .val (.int p2), .val (.int p3), .val (.int p4), .val (.long q5), .second, .val (.int (p1 &&& (7 : Int32))), .val (.ref b1), .val (.int (Int32.ofNat xs1.length)), .val (.ref b6), .val (.int ((p3 &&& (2147483647 : Int32)) % (Int32.ofNat xs1.length))), .val (.int ((p4 &&& (255 : Int32)).toUInt32.toUInt16.toUInt32.toInt32)), .val (.ref b138), .val (own_ev xs138 w0 w1 w2 w3 w4), .val (.ref o145)] []))
              refine GoW.of (fun t k => XS.aload X149.here hx rfl (hb hby at_402) rfl rfl k) ?_
              show GoW _ _ _ _ _ _ _ (T149.setTop (mkF m 404 #[.val (.int p1), .val (.int p2), .val (.int p3), .val (.int p4), .val (.long q5), .second, .val (.int (p1 &&& (7 : Int32))), .val (.ref b1), .val (.int (Int32.ofNat xs1.length)), .val (.ref b6), .val (.int ((p3 &&& (2147483647 : Int32)) % (Int32.ofNat xs1.length))), .val (.int ((p4 &&& (255 : Int32)).toUInt32.toUInt16.toUInt32.toInt32)), .val (.ref b138), .val (own_ev xs138 w0 w1 w2 w3 w4), .val (.ref o145)] [(.ref o145)]))
              obtain ⟨cq150, kq150, q150a, q150b, q150c⟩ := isOf hZ e149 Ex145
              obtain ⟨_, _, ⟨T150, L150, k150, n150⟩, -, X150, ⟨Lc150, hQ150, l150, y150, z150⟩, st150⟩ := X149.virtualBack hx (y := (⟨"java/util/Optional", "get", "()Ljava/lang/Object;"⟩ : MethodName)) (z := (⟨"java/util/Optional", "get", "()Ljava/lang/Object;"⟩ : MethodName)) hown (mvT hZ (own_w hw 141 rfl)) (mvT hZ (own_w hw 142 rfl)) (notFace_of_selects (args := #[]) (mvT hZ (own_w hw 144 rfl))) (mvT hZ (own_w hw 144 rfl)) (mvT hZ (own_w hw 143 rfl)) (by decide) (backOf (W := 0) (rm26 l Z a0 hw [] o145 xv147 T145.heap n0 (by omega) (by rw [← hv147]; exact Fv145)) hZ (own_w hw 145 rfl) (own_w hw 121 rfl) (by decide) (by decide)) q150a q150c (g := (mkF m 404 #[.val (.int p1), .val (.int p2), .val (.int p3), .val (.int p4), .val (.long q5), .second, .val (.int (p1 &&& (7 : Int32))), .val (.ref b1), .val (.int (Int32.ofNat xs1.length)), .val (.ref b6), .val (.int ((p3 &&& (2147483647 : Int32)) % (Int32.ofNat xs1.length))), .val (.int ((p4 &&& (255 : Int32)).toUInt32.toUInt16.toUInt32.toInt32)), .val (.ref b138), .val (own_ev xs138 w0 w1 w2 w3 w4), .val (.ref o145)] [(.ref o145)])) rfl (by rw [hml]; rfl) (Steps.refl _) (argsL := []) (rest := []) (lenOf pd_16 rfl) rfl (by show 2 * 0 + _ ≤ _; exact Nat.le_of_eq rfl) (hb hby at_404) (fun _ _ => ⟨rfl, e149, (by decide : 19 + 0 ≤ _), (by decide : 202 + 0 ≤ _)⟩)
              dsimp only [Pt.U, Pt.locs, Pt.cells, Pt.slots] at X150 l150 y150 z150 st150 hQ150
              replace y150 : k150 = 19 := y150.trans (by decide)
              replace z150 : n150 = 202 := z150.trans (by decide)
              subst y150 z150
              obtain ⟨rfl, N150q, e150⟩ := hQ150
              have N150 : Fr n0 L150 := by rw [l150]; exact Fr.app N149 N150q
              clear l150
              refine GoW.tr st150 ?_
              show GoW _ _ _ _ _ _ _ (T150.setTop (mkF m 407 #[.val (.int p1), .val (.int p2), .val (.int p3), .val (.int p4), .val (.long q5), .second, .val (.int (p1 &&& (7 : Int32))), .val (.ref b1), .val (.int (Int32.ofNat xs1.length)), .val (.ref b6), .val (.int ((p3 &&& (2147483647 : Int32)) % (Int32.ofNat xs1.length))), .val (.int ((p4 &&& (255 : Int32)).toUInt32.toUInt16.toUInt32.toInt32)), .val (.ref b138), .val (own_ev xs138 w0 w1 w2 w3 w4), .val (.ref o145)] [(.ref xv147)]))
              refine GoW.of (fun t k => XS.aload X150.here hx rfl (hb hby at_407) rfl (own_ev_ref xs138 w0 w1 w2 w3 w4) k) ?_
              show GoW _ _ _ _ _ _ _ (T150.setTop (mkF m 409 #[.val (.int p1), .val (.int p2), .val (.int p3), .val (.int p4), .val (.long q5), .second, .val (.int (p1 &&& (7 : Int32))), .val (.ref b1), .val (.int (Int32.ofNat xs1.length)), .val (.ref b6), .val (.int ((p3 &&& (2147483647 : Int32)) % (Int32.ofNat xs1.length))), .val (.int ((p4 &&& (255 : Int32)).toUInt32.toUInt16.toUInt32.toInt32)), .val (.ref b138), .val (own_ev xs138 w0 w1 w2 w3 w4), .val (.ref o145)] [(own_ev xs138 w0 w1 w2 w3 w4), (.ref xv147)]))
              refine GoW.of (fun t k => Jvm.RoadKit.acmp (g := (mkF m 409 #[.val (.int p1), .val (.int p2), .val (.int p3), .val (.int p4), .val (.long q5), .second, .val (.int (p1 &&& (7 : Int32))), .val (.ref b1), .val (.int (Int32.ofNat xs1.length)), .val (.ref b6), .val (.int ((p3 &&& (2147483647 : Int32)) % (Int32.ofNat xs1.length))), .val (.int ((p4 &&& (255 : Int32)).toUInt32.toUInt16.toUInt32.toInt32)), .val (.ref b138), .val (own_ev xs138 w0 w1 w2 w3 w4), .val (.ref o145)] [(own_ev xs138 w0 w1 w2 w3 w4), (.ref xv147)])) X150 hx rfl rfl (own_ev_ref xs138 w0 w1 w2 w3 w4) (pc0 := 409) (pc' := 412) (same := true) rfl (hb hby at_409) rfl (decide_eq_true hv147.symm) (by decide) (by decide) k) ?_
              show GoW _ _ _ _ _ _ _ (T150.setTop (mkF m 412 #[.val (.int p1), .val (.int p2), .val (.int p3), .val (.int p4), .val (.long q5), .second, .val (.int (p1 &&& (7 : Int32))), .val (.ref b1), .val (.int (Int32.ofNat xs1.length)), .val (.ref b6), .val (.int ((p3 &&& (2147483647 : Int32)) % (Int32.ofNat xs1.length))), .val (.int ((p4 &&& (255 : Int32)).toUInt32.toUInt16.toUInt32.toInt32)), .val (.ref b138), .val (own_ev xs138 w0 w1 w2 w3 w4), .val (.ref o145)] []))
              refine GoW.of (fun t k => XS.iconst X150.here hx rfl (hb hby at_412) k) ?_
              show GoW _ _ _ _ _ _ _ (T150.setTop (mkF m 413 #[.val (.int p1), .val (.int p2), .val (.int p3), .val (.int p4), .val (.long q5), .second, .val (.int (p1 &&& (7 : Int32))), .val (.ref b1), .val (.int (Int32.ofNat xs1.length)), .val (.ref b6), .val (.int ((p3 &&& (2147483647 : Int32)) % (Int32.ofNat xs1.length))), .val (.int ((p4 &&& (255 : Int32)).toUInt32.toUInt16.toUInt32.toInt32)), .val (.ref b138), .val (own_ev xs138 w0 w1 w2 w3 w4), .val (.ref o145)] [(.int (1 : Int32))]))
              refine GoW.of (fun t k => XS.goto X150.here hx rfl (pc0 := 413) (pc' := 417) rfl (hb hby at_413) (by decide) (by decide) k) ?_
              show GoW _ _ _ _ _ _ _ (T150.setTop (mkF m 417 #[.val (.int p1), .val (.int p2), .val (.int p3), .val (.int p4), .val (.long q5), .second, .val (.int (p1 &&& (7 : Int32))), .val (.ref b1), .val (.int (Int32.ofNat xs1.length)), .val (.ref b6), .val (.int ((p3 &&& (2147483647 : Int32)) % (Int32.ofNat xs1.length))), .val (.int ((p4 &&& (255 : Int32)).toUInt32.toUInt16.toUInt32.toInt32)), .val (.ref b138), .val (own_ev xs138 w0 w1 w2 w3 w4), .val (.ref o145)] [(.int (1 : Int32))]))
              refine GoW.out X150 hS (by rw [e150]; omega) (v := some (.int (1 : Int32))) (fun h => by rw [Bd.returns] at h; cases h) hlk (fun fs hr => retN X150 hx (t := .boolean) Bd.returns (by simp) (hb hby at_417) hr) ?_ (by decide) (by decide)
              show Q0 Z p1 p2 p3 p4 q5 cs fm w0 w1 w2 w3 w4 s0 s1 s2 s3 s4 wE wV kv h0 n0 _ T150.heap _
              rw [e150]
              exact ⟨rfl, N150⟩
set_option maxRecDepth 65536 in
set_option maxHeartbeats 40000000 in
theorem comes_1 {Post : Tables → Env → Array Value → State → Outcome → State → Prop} (hpost : ∀ tb e args s v u, (limb_1_1.after args s (.returned v) u = true ∧ limb_1_2.after args s (.returned v) u = true ∧ True) → ReturnedEndW s (.returned v) u (Jvm.fieldLocs frame_1_writes args s ++ Jvm.arrayLocs frame_1_arrays args s ++ Jvm.staticLocs frame_1_statics s) 32 6336 → Post tb e args s (.returned v) u) :
    ArmFor flags0 classFile x code maxLocals ret World_1 tables_1 room_1 Calls_1 rest_1 Pre_1 Post := by
  intro l hfl _ _ p e ha hc hk s m args below hf hA hF happ hP
  obtain ⟨hcalls, hrest, hpre⟩ := hP
  obtain ⟨-, -, -, hnamed, -, -, -, hat⟩ := (Spec.applies_iff hf).mp happ
  obtain ⟨hg, hn⟩ := and_e (Cond.before_iff.mp (show (Jvm.Cond.and given_1 narrow_1).before args s = true from hpre))
  obtain ⟨g1a, g1b⟩ := and_e hg
  obtain ⟨g2a, g2b⟩ := and_e g1b
  obtain ⟨g3a, g3b⟩ := and_e g2b
  obtain ⟨g4a, g4b⟩ := and_e g3b
  obtain ⟨g5a, g5b⟩ := and_e g4b
  obtain ⟨w0, w1, w2, w3, w4, rfl⟩ : ∃ w0 w1 w2 w3 w4 : Value, args = #[w0, w1, w2, w3, w4] := by
    have hs : args.size = 5 := by simpa [Cond.value, given_1] using g1a
    obtain ⟨L⟩ := args
    match L, hs with
    | [w0, w1, w2, w3, w4], _ => exact ⟨w0, w1, w2, w3, w4, rfl⟩
  have hw := fun d (hd : d ∈ tables_1) => atoms_spec (ws := Jvm.Cond.code x code maxLocals ret :: tables_1) hat d (List.mem_cons_of_mem _ hd)
  have hfit : Fit s := fun {y c} hc i hi => by
    obtain ⟨ha, rfl⟩ := Array.getElem?_eq_some_iff.mp hc
    have q := List.all_eq_true.mp ((Array.all_eq_true_iff_forall_mem.mp hF) _ (Array.getElem_mem ha)) i (List.mem_range.mpr hi)
    simpa [Array.getElem?_eq_getElem hi] using q
  obtain ⟨hsets, hown0⟩ := atoms_of _ (rest_1_c_eq ▸ (show rest_1_c.before _ s = true from hrest))
  have hr0 := Cond.before_iff.mp hown0
  obtain ⟨i0, ei0⟩ := is_v g2a
  obtain rfl : w0 = (.int i0) := Option.some.inj ei0
  obtain ⟨i1, ei1⟩ := is_v g3a
  obtain rfl : w1 = (.int i1) := Option.some.inj ei1
  obtain ⟨i2, ei2⟩ := is_v g4a
  obtain rfl : w2 = (.int i2) := Option.some.inj ei2
  obtain ⟨i3, ei3⟩ := is_v g5a
  obtain rfl : w3 = (.int i3) := Option.some.inj ei3
  obtain ⟨i4, ei4⟩ := isL_v g5b
  obtain rfl : w4 = (.long i4) := Option.some.inj ei4
  obtain ⟨g6a, g6b⟩ := and_e hn
  obtain ⟨g7a, g7b⟩ := and_e g6b
  obtain ⟨g8a, g8b⟩ := and_e g7b
  obtain ⟨g9a, g9b⟩ := and_e g8b
  obtain ⟨g10a, g10b⟩ := and_e g9b
  obtain ⟨g11a, g11b⟩ := and_e g10b
  obtain ⟨g12a, g12b⟩ := and_e g11b
  obtain ⟨g13a, g13b⟩ := and_e g12b
  obtain ⟨g14a, g14b⟩ := and_e g13b
  obtain ⟨g15a, g15b⟩ := and_e g14b
  obtain ⟨g16a, g16b⟩ := and_e g15b
  obtain ⟨g17a, g17b⟩ := and_e g16b
  obtain ⟨g18a, g18b⟩ := and_e g17b
  obtain ⟨g19a, g19b⟩ := and_e g18b
  obtain ⟨g20a, g20b⟩ := and_e g19b
  obtain ⟨g21a, g21b⟩ := and_e g20b
  obtain ⟨g22a, g22b⟩ := and_e g21b
  obtain ⟨g23a, g23b⟩ := and_e g22b
  obtain ⟨g24a, g24b⟩ := and_e g23b
  obtain ⟨g25a, g25b⟩ := and_e g24b
  obtain ⟨g26a, g26b⟩ := and_e g25b
  obtain ⟨g27a, g27b⟩ := and_e g26b
  obtain ⟨g28a, g28b⟩ := and_e g27b
  obtain ⟨g29a, g29b⟩ := and_e g28b
  obtain ⟨g30a, g30b⟩ := and_e g29b
  obtain ⟨g31a, g31b⟩ := and_e g30b
  obtain ⟨g32a, g32b⟩ := and_e g31b
  obtain ⟨g33a, g33b⟩ := and_e g32b
  obtain ⟨g34a, g34b⟩ := and_e g33b
  obtain ⟨g35a, g35b⟩ := and_e g34b
  obtain ⟨g36a, g36b⟩ := and_e g35b
  obtain ⟨g37a, g37b⟩ := and_e g36b
  obtain ⟨g38a, g38b⟩ := and_e g37b
  obtain ⟨g39a, g39b⟩ := and_e g38b
  obtain ⟨g40a, g40b⟩ := and_e g39b
  obtain ⟨g41a, g41b⟩ := and_e g40b
  obtain ⟨g42a, g42b⟩ := and_e g41b
  obtain ⟨g43a, g43b⟩ := and_e g42b
  obtain ⟨g44a, g44b⟩ := and_e g43b
  obtain ⟨g45a, g45b⟩ := and_e g44b
  obtain ⟨g46a, g46b⟩ := and_e g45b
  obtain ⟨g47a, g47b⟩ := and_e g46b
  obtain ⟨g48a, g48b⟩ := and_e g47b
  obtain ⟨g49a, g49b⟩ := and_e g48b
  obtain ⟨g50a, g50b⟩ := and_e g49b
  obtain ⟨g51a, g51b⟩ := and_e g50b
  obtain ⟨g52a, g52b⟩ := and_e g51b
  obtain ⟨g53a, g53b⟩ := and_e g52b
  obtain ⟨g54a, g54b⟩ := and_e g53b
  obtain ⟨g55a, g55b⟩ := and_e g54b
  obtain ⟨g56a, g56b⟩ := and_e g55b
  obtain ⟨g57a, g57b⟩ := and_e g56b
  obtain ⟨g58a, g58b⟩ := and_e g57b
  obtain ⟨g59a, g59b⟩ := and_e g58b
  obtain ⟨g60a, g60b⟩ := and_e g59b
  obtain ⟨g61a, g61b⟩ := and_e g60b
  obtain ⟨g62a, g62b⟩ := and_e g61b
  obtain ⟨g63a, g63b⟩ := and_e g62b
  obtain ⟨g64a, g64b⟩ := and_e g63b
  obtain ⟨g65a, g65b⟩ := and_e g64b
  obtain ⟨g66a, g66b⟩ := and_e g65b
  obtain ⟨cs, ecs⟩ := is_v (Cond.before_iff.mp (hsets _ (List.mem_of_getElem? (i := 1) rfl)))
  have S_cs := Sta.start ecs (Or.inl (hsets _ (List.mem_of_getElem? (i := 0) rfl)))
  have hcs : ¬ cs = (0 : Int32) := gotF (Cond.eq_ints ecs (Term.int_eval (0 : Int32))) (not_v (Cond.before_iff.mp (hsets _ (List.mem_of_getElem? (i := 2) rfl))))
  obtain ⟨fm, efm, hfm⟩ := isR_v (Cond.before_iff.mp (hsets _ (List.mem_of_getElem? (i := 8) rfl)))
  have S_fm := Sta.start efm (Or.inl (hsets _ (List.mem_of_getElem? (i := 7) rfl)))
  have hcw : Jvm.Lit.compactW.before _ s = true := (hsets _ (List.mem_of_getElem? (i := 2) rfl))
  have hh0 : Jvm.Lit.constHeld s "java/lang/String" 7 := hcalls.1 ("java/lang/String", 7) (by simp [consts_1])
  have hh1 : Jvm.Lit.constHeld s "com/example/clearstep/clearstep/core/EventKindFromWordPinLaw" 53 := hcalls.1 ("com/example/clearstep/clearstep/core/EventKindFromWordPinLaw", 53) (by simp [consts_1])
  have hh2 : Jvm.Lit.constHeld s "com/example/clearstep/clearstep/core/EventKindFromWordPinLaw" 55 := hcalls.1 ("com/example/clearstep/clearstep/core/EventKindFromWordPinLaw", 55) (by simp [consts_1])
  have hh3 : Jvm.Lit.constHeld s "com/example/clearstep/clearstep/core/EventKindFromWordPinLaw" 57 := hcalls.1 ("com/example/clearstep/clearstep/core/EventKindFromWordPinLaw", 57) (by simp [consts_1])
  have hh4 : Jvm.Lit.constHeld s "com/example/clearstep/clearstep/core/EventKindFromWordPinLaw" 59 := hcalls.1 ("com/example/clearstep/clearstep/core/EventKindFromWordPinLaw", 59) (by simp [consts_1])
  have hh5 : Jvm.Lit.constHeld s "com/example/clearstep/clearstep/core/EventKindFromWordPinLaw" 61 := hcalls.1 ("com/example/clearstep/clearstep/core/EventKindFromWordPinLaw", 61) (by simp [consts_1])
  obtain ⟨a0, ea0⟩ := exa_v g10a
  have S0 := Sta.start ea0 (Or.inr ⟨(own_w hw 92 rfl), (own_w hw 109 rfl)⟩)
  obtain ⟨s0, es0⟩ := exa_v g19a
  have Fw0 := Fld.start ((fld_at ea0).symm.trans es0)
  have Ew0 := Exa.start es0 g19a
  have Fc0 := Fld.start ((fld_at es0).symm.trans (own_eqI g20a))
  obtain ⟨t0, et0⟩ := arr_v g21a
  have Fv0 := Fld.start ((fld_at es0).symm.trans et0)
  obtain ⟨cl0, Ar0⟩ := Arr.start et0 g21a
  have hat0 : s.arrayAt? t0 = some cl0 := IntBox.arrayAt_of Ar0.1 Ar0.2.1 Ar0.2.2
  obtain ⟨hsm0, hsz0⟩ := own_len_of et0 hat0 (own_eqI g22a)
  have x0_0 := (elem_f et0 (Term.int_eval (0 : Int32)) hat0 (by decide)).symm.trans (own_eqI g43a)
  have x0_1 := (elem_f et0 (Term.int_eval (1 : Int32)) hat0 (by decide)).symm.trans (own_eqI g44a)
  have x0_2 := (elem_f et0 (Term.int_eval (2 : Int32)) hat0 (by decide)).symm.trans (own_eqI g45a)
  have x0_3 := (elem_f et0 (Term.int_eval (3 : Int32)) hat0 (by decide)).symm.trans (own_eqI g46a)
  have x0_4 := (elem_f et0 (Term.int_eval (4 : Int32)) hat0 (by decide)).symm.trans (own_eqI g47a)
  have x0_5 := (elem_f et0 (Term.int_eval (5 : Int32)) hat0 (by decide)).symm.trans (own_eqI g48a)
  have x0_6 := (elem_f et0 (Term.int_eval (6 : Int32)) hat0 (by decide)).symm.trans (own_eqI g49a)
  have V0 : Arv s s.heap t0 cl0.cls .byte (Int32.ofNat own_c1.length) (own_c1.map fun c => Value.int (StrChars.lo8 c)) (.int (0 : Int32)) := Arv.start hfit Ar0 hsm0 hsz0 (by decide) rfl ⟨x0_0, x0_1, x0_2, x0_3, x0_4, x0_5, x0_6, trivial⟩
  have Sw0 : own_Str s s.heap s0 own_c1 := ⟨t0, _, Ew0, Fv0, Fc0, V0, by decide, by decide⟩
  obtain ⟨a1, ea1⟩ := exa_v g12a
  have S1 := Sta.start ea1 (Or.inr ⟨(own_w hw 92 rfl), (own_w hw 110 rfl)⟩)
  obtain ⟨s1, es1⟩ := exa_v g23a
  have Fw1 := Fld.start ((fld_at ea1).symm.trans es1)
  have Ew1 := Exa.start es1 g23a
  have Fc1 := Fld.start ((fld_at es1).symm.trans (own_eqI g24a))
  obtain ⟨t1, et1⟩ := arr_v g25a
  have Fv1 := Fld.start ((fld_at es1).symm.trans et1)
  obtain ⟨cl1, Ar1⟩ := Arr.start et1 g25a
  have hat1 : s.arrayAt? t1 = some cl1 := IntBox.arrayAt_of Ar1.1 Ar1.2.1 Ar1.2.2
  obtain ⟨hsm1, hsz1⟩ := own_len_of et1 hat1 (own_eqI g26a)
  have x1_0 := (elem_f et1 (Term.int_eval (0 : Int32)) hat1 (by decide)).symm.trans (own_eqI g50a)
  have x1_1 := (elem_f et1 (Term.int_eval (1 : Int32)) hat1 (by decide)).symm.trans (own_eqI g51a)
  have x1_2 := (elem_f et1 (Term.int_eval (2 : Int32)) hat1 (by decide)).symm.trans (own_eqI g52a)
  have x1_3 := (elem_f et1 (Term.int_eval (3 : Int32)) hat1 (by decide)).symm.trans (own_eqI g53a)
  have x1_4 := (elem_f et1 (Term.int_eval (4 : Int32)) hat1 (by decide)).symm.trans (own_eqI g54a)
  have x1_5 := (elem_f et1 (Term.int_eval (5 : Int32)) hat1 (by decide)).symm.trans (own_eqI g55a)
  have x1_6 := (elem_f et1 (Term.int_eval (6 : Int32)) hat1 (by decide)).symm.trans (own_eqI g56a)
  have V1 : Arv s s.heap t1 cl1.cls .byte (Int32.ofNat own_c2.length) (own_c2.map fun c => Value.int (StrChars.lo8 c)) (.int (0 : Int32)) := Arv.start hfit Ar1 hsm1 hsz1 (by decide) rfl ⟨x1_0, x1_1, x1_2, x1_3, x1_4, x1_5, x1_6, trivial⟩
  have Sw1 : own_Str s s.heap s1 own_c2 := ⟨t1, _, Ew1, Fv1, Fc1, V1, by decide, by decide⟩
  obtain ⟨a2, ea2⟩ := exa_v g14a
  have S2 := Sta.start ea2 (Or.inr ⟨(own_w hw 92 rfl), (own_w hw 111 rfl)⟩)
  obtain ⟨s2, es2⟩ := exa_v g27a
  have Fw2 := Fld.start ((fld_at ea2).symm.trans es2)
  have Ew2 := Exa.start es2 g27a
  have Fc2 := Fld.start ((fld_at es2).symm.trans (own_eqI g28a))
  obtain ⟨t2, et2⟩ := arr_v g29a
  have Fv2 := Fld.start ((fld_at es2).symm.trans et2)
  obtain ⟨cl2, Ar2⟩ := Arr.start et2 g29a
  have hat2 : s.arrayAt? t2 = some cl2 := IntBox.arrayAt_of Ar2.1 Ar2.2.1 Ar2.2.2
  obtain ⟨hsm2, hsz2⟩ := own_len_of et2 hat2 (own_eqI g30a)
  have x2_0 := (elem_f et2 (Term.int_eval (0 : Int32)) hat2 (by decide)).symm.trans (own_eqI g39a)
  have x2_1 := (elem_f et2 (Term.int_eval (1 : Int32)) hat2 (by decide)).symm.trans (own_eqI g40a)
  have x2_2 := (elem_f et2 (Term.int_eval (2 : Int32)) hat2 (by decide)).symm.trans (own_eqI g41a)
  have x2_3 := (elem_f et2 (Term.int_eval (3 : Int32)) hat2 (by decide)).symm.trans (own_eqI g42a)
  have V2 : Arv s s.heap t2 cl2.cls .byte (Int32.ofNat own_c3.length) (own_c3.map fun c => Value.int (StrChars.lo8 c)) (.int (0 : Int32)) := Arv.start hfit Ar2 hsm2 hsz2 (by decide) rfl ⟨x2_0, x2_1, x2_2, x2_3, trivial⟩
  have Sw2 : own_Str s s.heap s2 own_c3 := ⟨t2, _, Ew2, Fv2, Fc2, V2, by decide, by decide⟩
  obtain ⟨a3, ea3⟩ := exa_v g6a
  have S3 := Sta.start ea3 (Or.inr ⟨(own_w hw 92 rfl), (own_w hw 93 rfl)⟩)
  obtain ⟨s3, es3⟩ := exa_v g31a
  have Fw3 := Fld.start ((fld_at ea3).symm.trans es3)
  have Ew3 := Exa.start es3 g31a
  have Fc3 := Fld.start ((fld_at es3).symm.trans (own_eqI g32a))
  obtain ⟨t3, et3⟩ := arr_v g33a
  have Fv3 := Fld.start ((fld_at es3).symm.trans et3)
  obtain ⟨cl3, Ar3⟩ := Arr.start et3 g33a
  have hat3 : s.arrayAt? t3 = some cl3 := IntBox.arrayAt_of Ar3.1 Ar3.2.1 Ar3.2.2
  obtain ⟨hsm3, hsz3⟩ := own_len_of et3 hat3 (own_eqI g34a)
  have x3_0 := (elem_f et3 (Term.int_eval (0 : Int32)) hat3 (by decide)).symm.trans (own_eqI g57a)
  have x3_1 := (elem_f et3 (Term.int_eval (1 : Int32)) hat3 (by decide)).symm.trans (own_eqI g58a)
  have x3_2 := (elem_f et3 (Term.int_eval (2 : Int32)) hat3 (by decide)).symm.trans (own_eqI g59a)
  have x3_3 := (elem_f et3 (Term.int_eval (3 : Int32)) hat3 (by decide)).symm.trans (own_eqI g60a)
  have x3_4 := (elem_f et3 (Term.int_eval (4 : Int32)) hat3 (by decide)).symm.trans (own_eqI g61a)
  have x3_5 := (elem_f et3 (Term.int_eval (5 : Int32)) hat3 (by decide)).symm.trans (own_eqI g62a)
  have V3 : Arv s s.heap t3 cl3.cls .byte (Int32.ofNat own_c4.length) (own_c4.map fun c => Value.int (StrChars.lo8 c)) (.int (0 : Int32)) := Arv.start hfit Ar3 hsm3 hsz3 (by decide) rfl ⟨x3_0, x3_1, x3_2, x3_3, x3_4, x3_5, trivial⟩
  have Sw3 : own_Str s s.heap s3 own_c4 := ⟨t3, _, Ew3, Fv3, Fc3, V3, by decide, by decide⟩
  obtain ⟨a4, ea4⟩ := exa_v g17a
  have S4 := Sta.start ea4 (Or.inr ⟨(own_w hw 92 rfl), (own_w hw 112 rfl)⟩)
  obtain ⟨s4, es4⟩ := exa_v g35a
  have Fw4 := Fld.start ((fld_at ea4).symm.trans es4)
  have Ew4 := Exa.start es4 g35a
  have Fc4 := Fld.start ((fld_at es4).symm.trans (own_eqI g36a))
  obtain ⟨t4, et4⟩ := arr_v g37a
  have Fv4 := Fld.start ((fld_at es4).symm.trans et4)
  obtain ⟨cl4, Ar4⟩ := Arr.start et4 g37a
  have hat4 : s.arrayAt? t4 = some cl4 := IntBox.arrayAt_of Ar4.1 Ar4.2.1 Ar4.2.2
  obtain ⟨hsm4, hsz4⟩ := own_len_of et4 hat4 (own_eqI g38a)
  have x4_0 := (elem_f et4 (Term.int_eval (0 : Int32)) hat4 (by decide)).symm.trans (own_eqI g63a)
  have x4_1 := (elem_f et4 (Term.int_eval (1 : Int32)) hat4 (by decide)).symm.trans (own_eqI g64a)
  have x4_2 := (elem_f et4 (Term.int_eval (2 : Int32)) hat4 (by decide)).symm.trans (own_eqI g65a)
  have x4_3 := (elem_f et4 (Term.int_eval (3 : Int32)) hat4 (by decide)).symm.trans (own_eqI g66a)
  have x4_4 := (elem_f et4 (Term.int_eval (4 : Int32)) hat4 (by decide)).symm.trans (own_eqI g66b)
  have V4 : Arv s s.heap t4 cl4.cls .byte (Int32.ofNat own_c5.length) (own_c5.map fun c => Value.int (StrChars.lo8 c)) (.int (0 : Int32)) := Arv.start hfit Ar4 hsm4 hsz4 (by decide) rfl ⟨x4_0, x4_1, x4_2, x4_3, x4_4, trivial⟩
  have Sw4 : own_Str s s.heap s4 own_c5 := ⟨t4, _, Ew4, Fv4, Fc4, V4, by decide, by decide⟩
  obtain ⟨aV, eaV⟩ := arr_v g7a
  have SV := Sta.start eaV (Or.inl (own_w hw 113 rfl))
  obtain ⟨clV, ArV⟩ := Arr.start eaV g7a
  have hatV : s.arrayAt? aV = some clV := IntBox.arrayAt_of ArV.1 ArV.2.1 ArV.2.2
  have EV := Exa.start eaV g8a
  obtain ⟨hsmV, hszV⟩ := own_len_of eaV hatV (own_eqI g9a)
  have y0 := (elem_f eaV (Term.int_eval (0 : Int32)) hatV (by decide)).symm.trans (own_eqR g11a ea0)
  have y1 := (elem_f eaV (Term.int_eval (1 : Int32)) hatV (by decide)).symm.trans (own_eqR g13a ea1)
  have y2 := (elem_f eaV (Term.int_eval (2 : Int32)) hatV (by decide)).symm.trans (own_eqR g15a ea2)
  have y3 := (elem_f eaV (Term.int_eval (3 : Int32)) hatV (by decide)).symm.trans (own_eqR g16a ea3)
  have y4 := (elem_f eaV (Term.int_eval (4 : Int32)) hatV (by decide)).symm.trans (own_eqR g18a ea4)
  have VV : Arv s s.heap aV clV.cls (.object "com/example/clearstep/clearstep/core/EventKind") (5 : Int32) [.ref a0, .ref a1, .ref a2, .ref a3, .ref a4] .null := Arv.start hfit ArV hsmV hszV (by decide) rfl ⟨y0, y1, y2, y3, y4, trivial⟩
  obtain ⟨aE, eaE⟩ := exa_v (Cond.before_iff.mp (hsets _ (List.mem_of_getElem? (i := 11) rfl)))
  have SE := Sta.start eaE (Or.inl (hsets _ (List.mem_of_getElem? (i := 10) rfl)))
  have EE := Exa.start eaE (Cond.before_iff.mp (hsets _ (List.mem_of_getElem? (i := 11) rfl)))
  have FE := Fld.start ((fld_at eaE).symm.trans (null_v (Cond.before_iff.mp (hsets _ (List.mem_of_getElem? (i := 12) rfl)))))
  obtain ⟨n, o, h1, h2, h3, _, L, rfl, ⟨rfl, N⟩, hq⟩ := rm0 l s _ hw tables_1 i0 i1 i2 i3 i4 cs fm a0 a1 a2 a3 a4 s0 s1 s2 s3 s4 aE aV clV.cls s.heap s.heap.size (Nat.le_refl _) (Old.start s) hcw hh0 hh1 hh2 hh3 hh4 hh5 S_cs hcs S_fm hfm S0 S1 S2 S3 S4 Fw0 Fw1 Fw2 Fw3 Fw4 Sw0 Sw1 Sw2 Sw3 Sw4 SE EE FE SV VV EV p e ha hc hk s m _ below hf ((Spec.applies_iff_loose hf).mp happ).1 ⟨rfl, State.Warmed39.refl s, rfl, own_J.start s⟩ trivial
  refine ⟨n, _, h1, h2, h3, hpost _ _ _ _ _ _ ⟨Cond.after_iff.mpr rfl, Cond.after_iff.mpr (eq_i res_at (Term.int_eval (1)) rfl), trivial⟩ ⟨hq.1, hq.2.1, hq.2.2.1, (hq.2.2.2.sift fun y hy => Or.inr (N y hy)).mono (by decide) (by decide)⟩⟩
theorem main_1_1 : Claimed_1_1 := comes_1 fun _ _ _ _ _ _ h hF => ⟨h.1, hF⟩
theorem main_1_2 : Claimed_1_2 := comes_1 fun _ _ _ _ _ _ h hF => ⟨h.2.1, hF⟩
end Jvm.Pilot.@@N@@
namespace Jvm.Pilot.@@N@@
open Jvm Jvm.ClassFile Sem Op Lib Jvm.Free Jvm.Stand Jvm.Pilot.@@N@@.Jvm.D
/-! MADE BY PROGRAM (witnessworld.py) out of the Statement's table words and the real class files: 24 classes; the members and pool entries that the words name. The judged class is class 1, her method 1. -/
namespace start1
open Jvm.ClassFile
def u (s : String) : CpInfo := .utf8 (stringToUtf16 s)
/-- a pool by its gaps: so many unusable entries, then the entry; so many at the end -/
def gap : Nat → List CpInfo → List CpInfo
  | 0, r => r
  | n + 1, r => .unusable :: gap n r
def poolList (es : List (Nat × CpInfo)) (last : Nat) : List CpInfo := es.foldr (fun e r => gap e.1 (e.2 :: r)) (gap last [])
def pool (es : List (Nat × CpInfo)) (last : Nat) : Array CpInfo := ⟨poolList es last⟩
def fileOf (pool : Array CpInfo) (this : Nat) (attrs : Array Attribute := #[]) (ms : Array MethodInfo := #[]) (fl : Nat := 33) (sup : Nat := 0) (ifs : Array Nat := #[]) (fds : Array FieldInfo := #[]) : ClassFile where
  minorVersion := 0
  majorVersion := 65
  constantPool := pool
  accessFlags := fl
  thisClass := this
  superClass := sup
  interfaces := ifs
  fields := fds
  methods := ms
  attributes := attrs
def plain (name : String) (sup : Option ClassId) : Class where
  name := name
  kind := .ordinary
  loader := none
  accessFlags := 33
  super := sup
  interfaces := #[]
  cf := none
  fields := #[]
  methods := #[]
  instanceTypes := #[]
  staticTypes := #[]
  resolved := #[]
  callSites := []
  init := .initialized
  statics := none
  mirror := none

def pool0 : Array CpInfo := pool [(5, u "<init>"), (0, u "()V"), (1, .class_ 10), (1, u "java/lang/Object"), (85, u "clone"), (0, u "()Ljava/lang/Object;")] 26

def k0c0 : Code := { maxStack := 0, maxLocals := 1, code := object_method_1_code, exceptionTable := #[], attributes := #[] }
def k0m0 : Method := { name := "<init>", desc := "()V", sig := { parameters := [], returnType := none }, accessFlags := 1, code := some k0c0 }
def k0m1 : Method := { name := "clone", desc := "()Ljava/lang/Object;", sig := { parameters := [], returnType := some (.object "java/lang/Object") }, accessFlags := 260, code := none }
/-- java/lang/Object -/
def k0 : Class := { plain "java/lang/Object" none with
  accessFlags := 33
  interfaces := #[]
  cf := some (fileOf pool0 8 #[] #[{ accessFlags := 1, nameIndex := 5, descriptorIndex := 6, attributes := #[] }, { accessFlags := 260, nameIndex := 96, descriptorIndex := 97, attributes := #[] }] 33 0 #[] #[])
  fields := #[]
  methods := #[k0m0, k0m1]
  instanceTypes := #[]
  staticTypes := #[]
  resolved := Array.replicate 124 none
  statics := none }

def pool1 : Array CpInfo := pool [(2, .class_ 4), (1, u "java/lang/Object"), (0, u "<init>"), (0, u "()V"), (0, .integer 2147483647), (0, .methodref 9 10), (0, .class_ 11), (0, .nameAndType 12 13), (0, u "com/example/clearstep/clearstep/core/EventKindFromWordPinLaw"), (0, u "wordOf"), (0, u "(I)Ljava/lang/String;"), (0, .methodref 15 16), (0, .class_ 17), (0, .nameAndType 18 19), (0, u "java/lang/String"), (0, u "length"), (0, u "()I"), (0, .methodref 9 21), (0, .nameAndType 22 23), (0, u "at"), (0, u "(Ljava/lang/String;I)C"), (0, .methodref 9 25), (0, .nameAndType 26 27), (0, u "make"), (0, u "([CI)Ljava/lang/String;"), (0, .long 255), (1, .methodref 9 31), (0, .nameAndType 32 33), (0, u "expected"), (0, u "(Ljava/lang/String;)Lcom/example/clearstep/clearstep/core/EventKind;"), (0, .methodref 35 36), (0, .class_ 37), (0, .nameAndType 38 39), (0, u "com/example/clearstep/clearstep/core/EventKind"), (0, u "fromWord"), (0, u "(Ljava/lang/String;)Ljava/util/Optional;"), (0, .methodref 41 42), (0, .class_ 43), (0, .nameAndType 44 45), (0, u "java/util/Optional"), (0, u "isEmpty"), (0, u "()Z"), (0, .methodref 41 47), (0, .nameAndType 48 45), (0, u "isPresent"), (0, .methodref 41 50), (0, .nameAndType 51 52), (0, u "get"), (0, u "()Ljava/lang/Object;"), (0, .string 54), (0, u "capture"), (0, .string 56), (0, u "release"), (0, .string 58), (0, u "ship"), (0, .string 60), (0, u "refund"), (0, .string 62), (0, u "close"), (0, .methodref 15 64), (0, .nameAndType 65 66), (0, u "equals"), (0, u "(Ljava/lang/Object;)Z"), (0, .fieldref 35 68), (0, .nameAndType 69 70), (0, u "CAPTURE"), (0, u "Lcom/example/clearstep/clearstep/core/EventKind;"), (0, .fieldref 35 72), (0, .nameAndType 73 70), (0, u "RELEASE"), (0, .fieldref 35 75), (0, .nameAndType 76 70), (0, u "SHIP"), (0, .fieldref 35 78), (0, .nameAndType 79 70), (0, u "REFUND"), (0, .fieldref 35 81), (0, .nameAndType 82 70), (0, u "CLOSE"), (0, .methodref 15 84), (0, .nameAndType 85 86), (0, u "charAt"), (0, u "(I)C"), (0, .methodref 15 88), (0, .nameAndType 5 89), (0, u "([C)V"), (2, u "law"), (0, u "(IIIIJ)Z")] 5

def k1m0 : Method := { name := "<init>", desc := "()V", sig := { parameters := [], returnType := none }, accessFlags := 1, code := none }
def k1c1 : Code := { maxStack := 6, maxLocals := 15, code := code, exceptionTable := #[], attributes := #[] }
def k1m1 : Method := { name := "law", desc := "(IIIIJ)Z", sig := { parameters := [.int, .int, .int, .int, .long], returnType := some .boolean }, accessFlags := 9, code := some k1c1 }
def k1c2 : Code := { maxStack := 2, maxLocals := 1, code := method_3_code, exceptionTable := #[], attributes := #[] }
def k1m2 : Method := { name := "wordOf", desc := "(I)Ljava/lang/String;", sig := { parameters := [.int], returnType := some (.object "java/lang/String") }, accessFlags := 10, code := some k1c2 }
def k1c3 : Code := { maxStack := 2, maxLocals := 1, code := method_4_code, exceptionTable := #[], attributes := #[] }
def k1m3 : Method := { name := "expected", desc := "(Ljava/lang/String;)Lcom/example/clearstep/clearstep/core/EventKind;", sig := { parameters := [(.object "java/lang/String")], returnType := some (.object "com/example/clearstep/clearstep/core/EventKind") }, accessFlags := 10, code := some k1c3 }
def k1c4 : Code := { maxStack := 2, maxLocals := 2, code := method_5_code, exceptionTable := #[], attributes := #[] }
def k1m4 : Method := { name := "at", desc := "(Ljava/lang/String;I)C", sig := { parameters := [(.object "java/lang/String"), .int], returnType := some .char }, accessFlags := 10, code := some k1c4 }
def k1c5 : Code := { maxStack := 7, maxLocals := 2, code := method_6_code, exceptionTable := #[], attributes := #[] }
def k1m5 : Method := { name := "make", desc := "([CI)Ljava/lang/String;", sig := { parameters := [(.array .char), .int], returnType := some (.object "java/lang/String") }, accessFlags := 10, code := some k1c5 }
/-- com/example/clearstep/clearstep/core/EventKindFromWordPinLaw -/
def k1 : Class := { plain "com/example/clearstep/clearstep/core/EventKindFromWordPinLaw" (some 0) with
  accessFlags := 49
  interfaces := #[]
  cf := some (fileOf pool1 9 #[] #[{ accessFlags := 1, nameIndex := 5, descriptorIndex := 6, attributes := #[] }, { accessFlags := 9, nameIndex := 92, descriptorIndex := 93, attributes := #[] }, { accessFlags := 10, nameIndex := 12, descriptorIndex := 13, attributes := #[] }, { accessFlags := 10, nameIndex := 32, descriptorIndex := 33, attributes := #[] }, { accessFlags := 10, nameIndex := 22, descriptorIndex := 23, attributes := #[] }, { accessFlags := 10, nameIndex := 26, descriptorIndex := 27, attributes := #[] }] 49 2 #[] #[])
  fields := #[]
  methods := #[k1m0, k1m1, k1m2, k1m3, k1m4, k1m5]
  instanceTypes := #[]
  staticTypes := #[]
  resolved := Array.replicate 99 none
  statics := none }

def pool2 : Array CpInfo := pool [(1, .class_ 2), (0, u "java/io/Serializable"), (0, .class_ 4), (0, u "java/lang/Object")] 2

/-- java/io/Serializable -/
def k2 : Class := { plain "java/io/Serializable" (some 0) with
  accessFlags := 1537
  interfaces := #[]
  cf := some (fileOf pool2 1 #[] #[] 1537 3 #[] #[])
  fields := #[]
  methods := #[]
  instanceTypes := #[]
  staticTypes := #[]
  resolved := Array.replicate 7 none
  statics := none }

def pool3 : Array CpInfo := pool [(1, .class_ 2), (0, u "java/lang/Comparable"), (0, .class_ 4), (0, u "java/lang/Object")] 7

/-- java/lang/Comparable -/
def k3 : Class := { plain "java/lang/Comparable" (some 0) with
  accessFlags := 1537
  interfaces := #[]
  cf := some (fileOf pool3 1 #[] #[] 1537 3 #[] #[])
  fields := #[]
  methods := #[]
  instanceTypes := #[]
  staticTypes := #[]
  resolved := Array.replicate 12 none
  statics := none }

def pool4 : Array CpInfo := pool [(2, .class_ 4), (1, u "java/lang/CharSequence"), (42, .class_ 48), (0, u "java/lang/CharSequence$1CodePointIterator"), (10, .class_ 60), (0, u "java/lang/CharSequence$1CharIterator"), (5, .class_ 67), (0, u "java/lang/Object")] 63

/-- java/lang/CharSequence -/
def k4 : Class := { plain "java/lang/CharSequence" (some 0) with
  accessFlags := 1537
  interfaces := #[]
  cf := some (fileOf pool4 2 #[.nestMembers #[47, 59]] #[] 1537 66 #[] #[])
  fields := #[]
  methods := #[]
  instanceTypes := #[]
  staticTypes := #[]
  resolved := Array.replicate 131 none
  statics := none }

def pool5 : Array CpInfo := pool [(1, .class_ 2), (0, u "java/lang/constant/Constable"), (0, .class_ 4), (0, u "java/lang/Object")] 6

/-- java/lang/constant/Constable -/
def k5 : Class := { plain "java/lang/constant/Constable" (some 0) with
  accessFlags := 1537
  interfaces := #[]
  cf := some (fileOf pool5 1 #[] #[] 1537 3 #[] #[])
  fields := #[]
  methods := #[]
  instanceTypes := #[]
  staticTypes := #[]
  resolved := Array.replicate 11 none
  statics := none }

def pool6 : Array CpInfo := pool [(1, .class_ 2), (0, u "java/lang/constant/ConstantDesc"), (0, .class_ 4), (0, u "java/lang/Object")] 32

/-- java/lang/constant/ConstantDesc -/
def k6 : Class := { plain "java/lang/constant/ConstantDesc" (some 0) with
  accessFlags := 1537
  interfaces := #[]
  cf := some (fileOf pool6 1 #[] #[] 1537 3 #[] #[])
  fields := #[]
  methods := #[]
  instanceTypes := #[]
  staticTypes := #[]
  resolved := Array.replicate 37 none
  statics := none }

def pool7 : Array CpInfo := pool [(1, .methodref 2 3), (0, .class_ 4), (0, .nameAndType 5 6), (0, u "java/lang/Object"), (0, u "<init>"), (0, u "()V"), (0, .string 8), (0, u ""), (0, .fieldref 10 11), (0, .class_ 12), (0, .nameAndType 13 14), (0, u "java/lang/String"), (0, u "value"), (0, u "[B"), (0, .fieldref 10 16), (0, .nameAndType 17 18), (0, u "coder"), (0, u "B"), (2, u "hash"), (0, u "I"), (2, u "hashIsZero"), (0, u "Z"), (0, .methodref 10 28), (0, .nameAndType 5 29), (0, u "([CIILjava/lang/Void;)V"), (8, .fieldref 10 39), (0, .nameAndType 40 26), (0, u "COMPACT_STRINGS"), (1, .class_ 44), (1, u "java/lang/StringUTF16"), (0, u "compress"), (1, .methodref 42 48), (0, .nameAndType 49 50), (0, u "coderFromArrayLen"), (0, u "([BI)B"), (56, .class_ 109), (1, u "java/lang/StringLatin1"), (32, u "()Z"), (34, .methodref 42 178), (0, .nameAndType 45 179), (0, u "([CII)[B"), (154, u "()I"), (0, .methodref 10 336), (0, .nameAndType 17 337), (0, u "()B"), (25, u "([BI)C"), (27, u "(II)V"), (35, u "(I)C"), (64, .methodref 10 493), (0, .nameAndType 494 142), (0, u "isLatin1"), (0, .methodref 107 496), (0, .nameAndType 497 363), (0, u "charAt"), (3, u "checkIndex"), (5, u "length"), (33, .methodref 107 542), (0, .nameAndType 543 544), (0, u "equals"), (0, u "([B[B)Z"), (28, u "(Ljava/lang/Object;)Z"), (1, .class_ 576), (0, u "java/lang/CharSequence"), (22, u "CASE_INSENSITIVE_ORDER"), (0, u "Ljava/util/Comparator;"), (409, u "([C)V"), (42, .fieldref 1054 1055), (0, .class_ 1056), (0, .nameAndType 1057 1058), (0, u "jdk/internal/util/Preconditions"), (0, u "SIOOBE_FORMATTER"), (0, u "Ljava/util/function/BiFunction;"), (0, .methodref 1054 1060), (0, .nameAndType 501 1061), (0, u "(IILjava/util/function/BiFunction;)I"), (39, u "serialPersistentFields"), (0, u "[Ljava/io/ObjectStreamField;"), (0, .class_ 1104), (0, u "java/lang/String$CaseInsensitiveComparator"), (1, .class_ 1107), (0, u "java/io/Serializable"), (0, .class_ 1109), (0, u "java/lang/Comparable"), (0, .class_ 1111), (0, u "java/lang/constant/Constable"), (0, .class_ 1113), (0, u "java/lang/constant/ConstantDesc"), (2, u "serialVersionUID"), (0, u "J"), (3, u "REPL"), (0, u "C"), (2, u "LATIN1"), (1, u "UTF16")] 323

def k7m0 : Method := { name := "<init>", desc := "()V", sig := { parameters := [], returnType := none }, accessFlags := 1, code := none }
def k7c1 : Code := { maxStack := 5, maxLocals := 2, code := jdk_42_method_3_code, exceptionTable := #[], attributes := #[] }
def k7m1 : Method := { name := "<init>", desc := "([C)V", sig := { parameters := [(.array .char)], returnType := none }, accessFlags := 1, code := some k7c1 }
def k7c2 : Code := { maxStack := 2, maxLocals := 1, code := jdk_42_method_54_code, exceptionTable := #[], attributes := #[] }
def k7m2 : Method := { name := "length", desc := "()I", sig := { parameters := [], returnType := some .int }, accessFlags := 1, code := some k7c2 }
def k7c3 : Code := { maxStack := 2, maxLocals := 2, code := jdk_42_method_56_code, exceptionTable := #[], attributes := #[] }
def k7m3 : Method := { name := "charAt", desc := "(I)C", sig := { parameters := [.int], returnType := some .char }, accessFlags := 1, code := some k7c3 }
def k7c4 : Code := { maxStack := 2, maxLocals := 3, code := jdk_42_method_66_code, exceptionTable := #[], attributes := #[] }
def k7m4 : Method := { name := "equals", desc := "(Ljava/lang/Object;)Z", sig := { parameters := [(.object "java/lang/Object")], returnType := some .boolean }, accessFlags := 1, code := some k7c4 }
def k7c5 : Code := { maxStack := 4, maxLocals := 6, code := jdk_42_method_149_code, exceptionTable := #[], attributes := #[] }
def k7m5 : Method := { name := "<init>", desc := "([CIILjava/lang/Void;)V", sig := { parameters := [(.array .char), .int, .int, (.object "java/lang/Void")], returnType := none }, accessFlags := 2, code := some k7c5 }
def k7c6 : Code := { maxStack := 1, maxLocals := 1, code := jdk_42_method_152_code, exceptionTable := #[], attributes := #[] }
def k7m6 : Method := { name := "coder", desc := "()B", sig := { parameters := [], returnType := some .byte }, accessFlags := 0, code := some k7c6 }
def k7c7 : Code := { maxStack := 1, maxLocals := 1, code := jdk_42_method_154_code, exceptionTable := #[], attributes := #[] }
def k7m7 : Method := { name := "isLatin1", desc := "()Z", sig := { parameters := [], returnType := some .boolean }, accessFlags := 0, code := some k7c7 }
def k7c8 : Code := { maxStack := 3, maxLocals := 2, code := jdk_42_method_155_code, exceptionTable := #[], attributes := #[] }
def k7m8 : Method := { name := "checkIndex", desc := "(II)V", sig := { parameters := [.int, .int], returnType := none }, accessFlags := 8, code := some k7c8 }
/-- java/lang/String -/
def k7 : Class := { plain "java/lang/String" (some 0) with
  accessFlags := 49
  interfaces := #[2, 3, 4, 5, 6]
  cf := some (fileOf pool7 10 #[.nestMembers #[1103]] #[{ accessFlags := 1, nameIndex := 5, descriptorIndex := 6, attributes := #[] }, { accessFlags := 1, nameIndex := 5, descriptorIndex := 1010, attributes := #[] }, { accessFlags := 1, nameIndex := 507, descriptorIndex := 334, attributes := #[] }, { accessFlags := 1, nameIndex := 497, descriptorIndex := 427, attributes := #[] }, { accessFlags := 1, nameIndex := 543, descriptorIndex := 573, attributes := #[] }, { accessFlags := 2, nameIndex := 5, descriptorIndex := 29, attributes := #[] }, { accessFlags := 0, nameIndex := 17, descriptorIndex := 337, attributes := #[] }, { accessFlags := 0, nameIndex := 494, descriptorIndex := 142, attributes := #[] }, { accessFlags := 8, nameIndex := 501, descriptorIndex := 391, attributes := #[] }] 49 2 #[1106, 1108, 575, 1110, 1112] #[{ accessFlags := 18, nameIndex := 13, descriptorIndex := 14, attributes := #[] }, { accessFlags := 18, nameIndex := 17, descriptorIndex := 18, attributes := #[] }, { accessFlags := 2, nameIndex := 21, descriptorIndex := 22, attributes := #[] }, { accessFlags := 2, nameIndex := 25, descriptorIndex := 26, attributes := #[] }, { accessFlags := 26, nameIndex := 1116, descriptorIndex := 1117, attributes := #[] }, { accessFlags := 24, nameIndex := 40, descriptorIndex := 26, attributes := #[] }, { accessFlags := 26, nameIndex := 1101, descriptorIndex := 1102, attributes := #[] }, { accessFlags := 26, nameIndex := 1121, descriptorIndex := 1122, attributes := #[] }, { accessFlags := 25, nameIndex := 599, descriptorIndex := 600, attributes := #[] }, { accessFlags := 24, nameIndex := 1125, descriptorIndex := 18, attributes := #[] }, { accessFlags := 24, nameIndex := 1127, descriptorIndex := 18, attributes := #[] }])
  fields := #[{ name := "value", type := (.array .byte), accessFlags := 18, slot := 0, constantValue := 0 }, { name := "coder", type := .byte, accessFlags := 18, slot := 1, constantValue := 0 }, { name := "hash", type := .int, accessFlags := 2, slot := 2, constantValue := 0 }, { name := "hashIsZero", type := .boolean, accessFlags := 2, slot := 3, constantValue := 0 }, { name := "serialVersionUID", type := .long, accessFlags := 26, slot := 0, constantValue := 0 }, { name := "COMPACT_STRINGS", type := .boolean, accessFlags := 24, slot := 1, constantValue := 0 }, { name := "serialPersistentFields", type := (.array (.object "java/io/ObjectStreamField")), accessFlags := 26, slot := 2, constantValue := 0 }, { name := "REPL", type := .char, accessFlags := 26, slot := 3, constantValue := 0 }, { name := "CASE_INSENSITIVE_ORDER", type := (.object "java/util/Comparator"), accessFlags := 25, slot := 4, constantValue := 0 }, { name := "LATIN1", type := .byte, accessFlags := 24, slot := 5, constantValue := 0 }, { name := "UTF16", type := .byte, accessFlags := 24, slot := 6, constantValue := 0 }]
  methods := #[k7m0, k7m1, k7m2, k7m3, k7m4, k7m5, k7m6, k7m7, k7m8]
  instanceTypes := #[(.array .byte), .byte, .int, .boolean]
  staticTypes := #[.long, .boolean, (.array (.object "java/io/ObjectStreamField")), .char, (.object "java/util/Comparator"), .byte, .byte]
  resolved := Array.replicate 1451 none
  statics := some 0 }

def pool8 : Array CpInfo := pool [(1, .class_ 2), (0, u "java/lang/String"), (1, .class_ 6), (1, u "java/lang/Object"), (0, u "<init>"), (0, u "()V"), (0, .methodref 1 10), (0, .nameAndType 11 12), (0, u "checkIndex"), (0, u "(II)V"), (1, .class_ 16), (1, u "java/lang/StringLatin1"), (36, u "([BI)C"), (67, u "$assertionsDisabled"), (0, u "Z"), (98, .class_ 223), (1, u "java/lang/StringLatin1$LinesSpliterator"), (28, u "charAt"), (28, u "equals"), (0, u "([B[B)Z"), (107, .class_ 391), (0, u "java/lang/StringLatin1$CharsSpliterator")] 3

def k8m0 : Method := { name := "<init>", desc := "()V", sig := { parameters := [], returnType := none }, accessFlags := 0, code := none }
def k8c1 : Code := { maxStack := 2, maxLocals := 2, code := jdk_43_method_2_code, exceptionTable := #[], attributes := #[] }
def k8m1 : Method := { name := "charAt", desc := "([BI)C", sig := { parameters := [(.array .byte), .int], returnType := some .char }, accessFlags := 9, code := some k8c1 }
def k8c2 : Code := { maxStack := 3, maxLocals := 3, code := jdk_43_method_13_code, exceptionTable := #[], attributes := #[] }
def k8m2 : Method := { name := "equals", desc := "([B[B)Z", sig := { parameters := [(.array .byte), (.array .byte)], returnType := some .boolean }, accessFlags := 9, code := some k8c2 }
/-- java/lang/StringLatin1 -/
def k8 : Class := { plain "java/lang/StringLatin1" (some 0) with
  accessFlags := 48
  interfaces := #[]
  cf := some (fileOf pool8 14 #[.nestMembers #[390, 221]] #[{ accessFlags := 0, nameIndex := 7, descriptorIndex := 8, attributes := #[] }, { accessFlags := 9, nameIndex := 252, descriptorIndex := 53, attributes := #[] }, { accessFlags := 9, nameIndex := 281, descriptorIndex := 282, attributes := #[] }] 48 4 #[] #[{ accessFlags := 4120, nameIndex := 121, descriptorIndex := 122, attributes := #[] }])
  fields := #[{ name := "$assertionsDisabled", type := .boolean, accessFlags := 4120, slot := 0, constantValue := 0 }]
  methods := #[k8m0, k8m1, k8m2]
  instanceTypes := #[]
  staticTypes := #[.boolean]
  resolved := Array.replicate 395 none
  statics := none }

def pool9 : Array CpInfo := pool [(2, .class_ 4), (1, u "java/lang/Object"), (0, u "<init>"), (0, u "()V"), (17, .class_ 26), (1, u "jdk/internal/util/Preconditions"), (6, u "checkIndex"), (21, .class_ 56), (0, u "jdk/internal/util/Preconditions$4"), (57, .class_ 115), (0, u "jdk/internal/util/Preconditions$1"), (7, u "SIOOBE_FORMATTER"), (0, u "Ljava/util/function/BiFunction;"), (0, .class_ 126), (0, u "jdk/internal/util/Preconditions$2"), (3, u "AIOOBE_FORMATTER"), (0, .class_ 132), (0, u "jdk/internal/util/Preconditions$3"), (3, u "IOOBE_FORMATTER"), (41, u "(IILjava/util/function/BiFunction;)I")] 15

def k9m0 : Method := { name := "<init>", desc := "()V", sig := { parameters := [], returnType := none }, accessFlags := 1, code := none }
def k9c1 : Code := { maxStack := 3, maxLocals := 3, code := jdk_41_method_11_code, exceptionTable := #[], attributes := #[] }
def k9m1 : Method := { name := "checkIndex", desc := "(IILjava/util/function/BiFunction;)I", sig := { parameters := [.int, .int, (.object "java/util/function/BiFunction")], returnType := some .int }, accessFlags := 9, code := some k9c1 }
/-- jdk/internal/util/Preconditions -/
def k9 : Class := { plain "jdk/internal/util/Preconditions" (some 0) with
  accessFlags := 33
  interfaces := #[]
  cf := some (fileOf pool9 24 #[.nestMembers #[55, 131, 125, 114]] #[{ accessFlags := 1, nameIndex := 5, descriptorIndex := 6, attributes := #[] }, { accessFlags := 9, nameIndex := 33, descriptorIndex := 178, attributes := #[] }] 33 2 #[] #[{ accessFlags := 25, nameIndex := 123, descriptorIndex := 124, attributes := #[] }, { accessFlags := 25, nameIndex := 130, descriptorIndex := 124, attributes := #[] }, { accessFlags := 25, nameIndex := 136, descriptorIndex := 124, attributes := #[] }])
  fields := #[{ name := "SIOOBE_FORMATTER", type := (.object "java/util/function/BiFunction"), accessFlags := 25, slot := 0, constantValue := 0 }, { name := "AIOOBE_FORMATTER", type := (.object "java/util/function/BiFunction"), accessFlags := 25, slot := 1, constantValue := 0 }, { name := "IOOBE_FORMATTER", type := (.object "java/util/function/BiFunction"), accessFlags := 25, slot := 2, constantValue := 0 }]
  methods := #[k9m0, k9m1]
  instanceTypes := #[]
  staticTypes := #[(.object "java/util/function/BiFunction"), (.object "java/util/function/BiFunction"), (.object "java/util/function/BiFunction")]
  resolved := Array.replicate 194 none
  statics := some 1 }

def pool10 : Array CpInfo := pool [(6, .class_ 8), (1, u "java/lang/Object"), (0, u "<init>"), (0, u "()V"), (1, .class_ 14), (1, u "java/lang/StringUTF16"), (31, u "$assertionsDisabled"), (0, u "Z"), (13, u "HI_BYTE_SHIFT"), (0, u "I"), (2, u "LO_BYTE_SHIFT"), (49, .methodref 12 116), (0, .nameAndType 117 118), (0, u "compress"), (0, u "([CI[BII)I"), (3, u "([CII)[B"), (138, u "coderFromArrayLen"), (0, u "([BI)B"), (106, .class_ 371), (1, u "java/lang/StringUTF16$LinesSpliterator"), (58, u "MAX_LENGTH"), (196, .class_ 628), (0, u "java/lang/StringUTF16$CodePointsSpliterator"), (0, .class_ 630), (0, u "java/lang/StringUTF16$CharsSpliterator")] 4

def k10m0 : Method := { name := "<init>", desc := "()V", sig := { parameters := [], returnType := none }, accessFlags := 0, code := none }
def k10c1 : Code := { maxStack := 2, maxLocals := 2, code := jdk_52_method_15_code, exceptionTable := #[], attributes := #[] }
def k10m1 : Method := { name := "coderFromArrayLen", desc := "([BI)B", sig := { parameters := [(.array .byte), .int], returnType := some .byte }, accessFlags := 8, code := some k10c1 }
def k10c2 : Code := { maxStack := 5, maxLocals := 6, code := jdk_52_method_16_code, exceptionTable := #[], attributes := #[] }
def k10m2 : Method := { name := "compress", desc := "([CII)[B", sig := { parameters := [(.array .char), .int, .int], returnType := some (.array .byte) }, accessFlags := 9, code := some k10c2 }
def k10c3 : Code := { maxStack := 3, maxLocals := 7, code := jdk_52_method_21_code, exceptionTable := #[], attributes := #[] }
def k10m3 : Method := { name := "compress", desc := "([CI[BII)I", sig := { parameters := [(.array .char), .int, (.array .byte), .int, .int], returnType := some .int }, accessFlags := 9, code := some k10c3 }
/-- java/lang/StringUTF16 -/
def k10 : Class := { plain "java/lang/StringUTF16" (some 0) with
  accessFlags := 48
  interfaces := #[]
  cf := some (fileOf pool10 12 #[.nestMembers #[627, 629, 369]] #[{ accessFlags := 0, nameIndex := 9, descriptorIndex := 10, attributes := #[] }, { accessFlags := 8, nameIndex := 261, descriptorIndex := 262, attributes := #[] }, { accessFlags := 9, nameIndex := 117, descriptorIndex := 122, attributes := #[] }, { accessFlags := 9, nameIndex := 117, descriptorIndex := 118, attributes := #[] }] 48 6 #[] #[{ accessFlags := 26, nameIndex := 61, descriptorIndex := 62, attributes := #[] }, { accessFlags := 26, nameIndex := 65, descriptorIndex := 62, attributes := #[] }, { accessFlags := 24, nameIndex := 430, descriptorIndex := 62, attributes := #[] }, { accessFlags := 4120, nameIndex := 46, descriptorIndex := 47, attributes := #[] }])
  fields := #[{ name := "HI_BYTE_SHIFT", type := .int, accessFlags := 26, slot := 0, constantValue := 0 }, { name := "LO_BYTE_SHIFT", type := .int, accessFlags := 26, slot := 1, constantValue := 0 }, { name := "MAX_LENGTH", type := .int, accessFlags := 24, slot := 2, constantValue := 0 }, { name := "$assertionsDisabled", type := .boolean, accessFlags := 4120, slot := 3, constantValue := 0 }]
  methods := #[k10m0, k10m1, k10m2, k10m3]
  instanceTypes := #[]
  staticTypes := #[.int, .int, .int, .boolean]
  resolved := Array.replicate 635 none
  statics := none }

def pool11 : Array CpInfo := pool [(2, .class_ 4), (1, u "java/lang/Enum"), (0, u "name"), (0, u "Ljava/lang/String;"), (2, u "ordinal"), (0, u "I"), (1, .class_ 14), (1, u "java/lang/Object"), (4, u "hash"), (86, .class_ 108), (1, u "java/lang/Enum$EnumDesc"), (2, .class_ 112), (0, u "java/lang/constant/Constable"), (0, .class_ 114), (0, u "java/lang/Comparable"), (0, .class_ 116), (0, u "java/io/Serializable")] 87

/-- java/lang/Enum -/
def k11 : Class := { plain "java/lang/Enum" (some 0) with
  accessFlags := 1057
  interfaces := #[5, 3, 2]
  cf := some (fileOf pool11 2 #[.nestMembers #[106]] #[] 1057 12 #[111, 113, 115] #[{ accessFlags := 18, nameIndex := 5, descriptorIndex := 6, attributes := #[] }, { accessFlags := 18, nameIndex := 9, descriptorIndex := 10, attributes := #[] }, { accessFlags := 2, nameIndex := 19, descriptorIndex := 10, attributes := #[] }])
  fields := #[{ name := "name", type := (.object "java/lang/String"), accessFlags := 18, slot := 0, constantValue := 0 }, { name := "ordinal", type := .int, accessFlags := 18, slot := 1, constantValue := 0 }, { name := "hash", type := .int, accessFlags := 2, slot := 2, constantValue := 0 }]
  methods := #[]
  instanceTypes := #[(.object "java/lang/String"), .int, .int]
  staticTypes := #[]
  resolved := Array.replicate 204 none
  statics := none }

def pool12 : Array CpInfo := pool [(1, .class_ 2), (0, u "com/example/clearstep/clearstep/core/EventKind"), (2, u "CAPTURE"), (0, u "Lcom/example/clearstep/clearstep/core/EventKind;"), (2, u "RELEASE"), (2, u "SHIP"), (2, u "REFUND"), (2, u "CLOSE"), (0, .fieldref 1 20), (0, .nameAndType 21 22), (0, u "$VALUES"), (0, u "[Lcom/example/clearstep/clearstep/core/EventKind;"), (0, .methodref 24 25), (0, .class_ 22), (0, .nameAndType 26 27), (0, u "clone"), (0, u "()Ljava/lang/Object;"), (1, .class_ 31), (1, u "java/lang/Enum"), (6, .fieldref 1 39), (0, .nameAndType 40 41), (0, u "word"), (0, u "Ljava/lang/String;"), (2, u "ruleElement"), (2, u "RULED"), (0, u "Ljava/util/List;"), (0, .methodref 1 50), (0, .nameAndType 51 52), (0, u "values"), (0, u "()[Lcom/example/clearstep/clearstep/core/EventKind;"), (0, .methodref 54 55), (0, .class_ 56), (0, .nameAndType 57 58), (0, u "java/lang/String"), (0, u "equals"), (0, u "(Ljava/lang/Object;)Z"), (0, .methodref 60 61), (0, .class_ 62), (0, .nameAndType 63 64), (0, u "java/util/Optional"), (0, u "of"), (0, u "(Ljava/lang/Object;)Ljava/util/Optional;"), (0, .methodref 60 66), (0, .nameAndType 67 68), (0, u "empty"), (0, u "()Ljava/util/Optional;"), (60, u "fromWord"), (0, u "(Ljava/lang/String;)Ljava/util/Optional;")] 27

def k12c0 : Code := { maxStack := 1, maxLocals := 0, code := prog_46_method_1_code, exceptionTable := #[], attributes := #[] }
def k12m0 : Method := { name := "values", desc := "()[Lcom/example/clearstep/clearstep/core/EventKind;", sig := { parameters := [], returnType := some (.array (.object "com/example/clearstep/clearstep/core/EventKind")) }, accessFlags := 9, code := some k12c0 }
def k12c1 : Code := { maxStack := 2, maxLocals := 5, code := prog_46_method_8_code, exceptionTable := #[], attributes := #[] }
def k12m1 : Method := { name := "fromWord", desc := "(Ljava/lang/String;)Ljava/util/Optional;", sig := { parameters := [(.object "java/lang/String")], returnType := some (.object "java/util/Optional") }, accessFlags := 9, code := some k12c1 }
/-- com/example/clearstep/clearstep/core/EventKind -/
def k12 : Class := { plain "com/example/clearstep/clearstep/core/EventKind" (some 11) with
  accessFlags := 16433
  interfaces := #[]
  cf := some (fileOf pool12 1 #[] #[{ accessFlags := 9, nameIndex := 51, descriptorIndex := 52, attributes := #[] }, { accessFlags := 9, nameIndex := 129, descriptorIndex := 130, attributes := #[] }] 16433 29 #[] #[{ accessFlags := 16409, nameIndex := 5, descriptorIndex := 6, attributes := #[] }, { accessFlags := 16409, nameIndex := 9, descriptorIndex := 6, attributes := #[] }, { accessFlags := 16409, nameIndex := 12, descriptorIndex := 6, attributes := #[] }, { accessFlags := 16409, nameIndex := 15, descriptorIndex := 6, attributes := #[] }, { accessFlags := 16409, nameIndex := 18, descriptorIndex := 6, attributes := #[] }, { accessFlags := 26, nameIndex := 47, descriptorIndex := 48, attributes := #[] }, { accessFlags := 18, nameIndex := 40, descriptorIndex := 41, attributes := #[] }, { accessFlags := 18, nameIndex := 44, descriptorIndex := 41, attributes := #[] }, { accessFlags := 4122, nameIndex := 21, descriptorIndex := 22, attributes := #[] }])
  fields := #[{ name := "CAPTURE", type := (.object "com/example/clearstep/clearstep/core/EventKind"), accessFlags := 16409, slot := 0, constantValue := 0 }, { name := "RELEASE", type := (.object "com/example/clearstep/clearstep/core/EventKind"), accessFlags := 16409, slot := 1, constantValue := 0 }, { name := "SHIP", type := (.object "com/example/clearstep/clearstep/core/EventKind"), accessFlags := 16409, slot := 2, constantValue := 0 }, { name := "REFUND", type := (.object "com/example/clearstep/clearstep/core/EventKind"), accessFlags := 16409, slot := 3, constantValue := 0 }, { name := "CLOSE", type := (.object "com/example/clearstep/clearstep/core/EventKind"), accessFlags := 16409, slot := 4, constantValue := 0 }, { name := "RULED", type := (.object "java/util/List"), accessFlags := 26, slot := 5, constantValue := 0 }, { name := "word", type := (.object "java/lang/String"), accessFlags := 18, slot := 3, constantValue := 0 }, { name := "ruleElement", type := (.object "java/lang/String"), accessFlags := 18, slot := 4, constantValue := 0 }, { name := "$VALUES", type := (.array (.object "com/example/clearstep/clearstep/core/EventKind")), accessFlags := 4122, slot := 6, constantValue := 0 }]
  methods := #[k12m0, k12m1]
  instanceTypes := #[(.object "java/lang/String"), .int, .int, (.object "java/lang/String"), (.object "java/lang/String")]
  staticTypes := #[(.object "com/example/clearstep/clearstep/core/EventKind"), (.object "com/example/clearstep/clearstep/core/EventKind"), (.object "com/example/clearstep/clearstep/core/EventKind"), (.object "com/example/clearstep/clearstep/core/EventKind"), (.object "com/example/clearstep/clearstep/core/EventKind"), (.object "java/util/List"), (.array (.object "com/example/clearstep/clearstep/core/EventKind"))]
  resolved := Array.replicate 158 none
  statics := some 2 }

def pool13 : Array CpInfo := pool [(1, .class_ 2), (0, u "java/lang/Cloneable"), (0, .class_ 4), (0, u "java/lang/Object")] 2

/-- java/lang/Cloneable -/
def k13 : Class := { plain "java/lang/Cloneable" (some 0) with
  accessFlags := 1537
  interfaces := #[]
  cf := some (fileOf pool13 1 #[] #[] 1537 3 #[] #[])
  fields := #[]
  methods := #[]
  instanceTypes := #[]
  staticTypes := #[]
  resolved := Array.replicate 7 none
  statics := none }

def pool14 : Array CpInfo := pool [(1, .fieldref 2 3), (0, .class_ 4), (0, .nameAndType 5 6), (0, u "java/util/Optional"), (0, u "EMPTY"), (0, u "Ljava/util/Optional;"), (0, .methodref 8 9), (0, .class_ 10), (0, .nameAndType 11 12), (0, u "java/lang/Object"), (0, u "<init>"), (0, u "()V"), (0, .fieldref 2 14), (0, .nameAndType 15 16), (0, u "value"), (0, u "Ljava/lang/Object;"), (0, .methodref 18 19), (0, .class_ 20), (0, .nameAndType 21 22), (0, u "java/util/Objects"), (0, u "requireNonNull"), (0, u "(Ljava/lang/Object;)Ljava/lang/Object;"), (0, .methodref 2 24), (0, .nameAndType 11 25), (0, u "(Ljava/lang/Object;)V"), (19, u "isEmpty"), (0, u "()Z"), (8, u "empty"), (0, u "()Ljava/util/Optional;"), (8, u "(Ljava/lang/Object;)Ljava/util/Optional;"), (2, u "isPresent"), (4, u "get"), (0, u "()Ljava/lang/Object;"), (7, u "of")] 104

def k14c0 : Code := { maxStack := 1, maxLocals := 1, code := jdk_32_method_1_code, exceptionTable := #[], attributes := #[] }
def k14m0 : Method := { name := "empty", desc := "()Ljava/util/Optional;", sig := { parameters := [], returnType := some (.object "java/util/Optional") }, accessFlags := 9, code := some k14c0 }
def k14c1 : Code := { maxStack := 2, maxLocals := 2, code := jdk_32_method_2_code, exceptionTable := #[], attributes := #[] }
def k14m1 : Method := { name := "<init>", desc := "(Ljava/lang/Object;)V", sig := { parameters := [(.object "java/lang/Object")], returnType := none }, accessFlags := 2, code := some k14c1 }
def k14c2 : Code := { maxStack := 3, maxLocals := 1, code := jdk_32_method_3_code, exceptionTable := #[], attributes := #[] }
def k14m2 : Method := { name := "of", desc := "(Ljava/lang/Object;)Ljava/util/Optional;", sig := { parameters := [(.object "java/lang/Object")], returnType := some (.object "java/util/Optional") }, accessFlags := 9, code := some k14c2 }
def k14c3 : Code := { maxStack := 3, maxLocals := 1, code := jdk_32_method_5_code, exceptionTable := #[], attributes := #[] }
def k14m3 : Method := { name := "get", desc := "()Ljava/lang/Object;", sig := { parameters := [], returnType := some (.object "java/lang/Object") }, accessFlags := 1, code := some k14c3 }
def k14c4 : Code := { maxStack := 1, maxLocals := 1, code := jdk_32_method_6_code, exceptionTable := #[], attributes := #[] }
def k14m4 : Method := { name := "isPresent", desc := "()Z", sig := { parameters := [], returnType := some .boolean }, accessFlags := 1, code := some k14c4 }
def k14c5 : Code := { maxStack := 1, maxLocals := 1, code := jdk_32_method_7_code, exceptionTable := #[], attributes := #[] }
def k14m5 : Method := { name := "isEmpty", desc := "()Z", sig := { parameters := [], returnType := some .boolean }, accessFlags := 1, code := some k14c5 }
/-- java/util/Optional -/
def k14 : Class := { plain "java/util/Optional" (some 0) with
  accessFlags := 49
  interfaces := #[]
  cf := some (fileOf pool14 2 #[] #[{ accessFlags := 9, nameIndex := 55, descriptorIndex := 56, attributes := #[] }, { accessFlags := 2, nameIndex := 11, descriptorIndex := 25, attributes := #[] }, { accessFlags := 9, nameIndex := 82, descriptorIndex := 65, attributes := #[] }, { accessFlags := 1, nameIndex := 73, descriptorIndex := 74, attributes := #[] }, { accessFlags := 1, nameIndex := 68, descriptorIndex := 46, attributes := #[] }, { accessFlags := 1, nameIndex := 45, descriptorIndex := 46, attributes := #[] }] 49 8 #[] #[{ accessFlags := 26, nameIndex := 5, descriptorIndex := 6, attributes := #[] }, { accessFlags := 18, nameIndex := 15, descriptorIndex := 16, attributes := #[] }])
  fields := #[{ name := "EMPTY", type := (.object "java/util/Optional"), accessFlags := 26, slot := 0, constantValue := 0 }, { name := "value", type := (.object "java/lang/Object"), accessFlags := 18, slot := 0, constantValue := 0 }]
  methods := #[k14m0, k14m1, k14m2, k14m3, k14m4, k14m5]
  instanceTypes := #[(.object "java/lang/Object")]
  staticTypes := #[(.object "java/util/Optional")]
  resolved := Array.replicate 187 none
  statics := some 3 }

def pool15 : Array CpInfo := pool [(2, .class_ 4), (1, u "java/lang/Object"), (0, u "<init>"), (0, u "()V"), (35, .class_ 44), (1, u "java/util/Objects"), (0, u "requireNonNull"), (0, u "(Ljava/lang/Object;)Ljava/lang/Object;")] 137

def k15m0 : Method := { name := "<init>", desc := "()V", sig := { parameters := [], returnType := none }, accessFlags := 2, code := none }
def k15c1 : Code := { maxStack := 2, maxLocals := 1, code := jdk_31_method_10_code, exceptionTable := #[], attributes := #[] }
def k15m1 : Method := { name := "requireNonNull", desc := "(Ljava/lang/Object;)Ljava/lang/Object;", sig := { parameters := [(.object "java/lang/Object")], returnType := some (.object "java/lang/Object") }, accessFlags := 9, code := some k15c1 }
/-- java/util/Objects -/
def k15 : Class := { plain "java/util/Objects" (some 0) with
  accessFlags := 49
  interfaces := #[]
  cf := some (fileOf pool15 42 #[] #[{ accessFlags := 2, nameIndex := 5, descriptorIndex := 6, attributes := #[] }, { accessFlags := 9, nameIndex := 45, descriptorIndex := 46, attributes := #[] }] 49 2 #[] #[])
  fields := #[]
  methods := #[k15m0, k15m1]
  instanceTypes := #[]
  staticTypes := #[]
  resolved := Array.replicate 184 none
  statics := none }

def pool16 : Array CpInfo := pool [(9, u "<init>"), (6, .class_ 18), (1, u "java/lang/Object"), (0, u "()V"), (1, .class_ 23), (1, u "jdk/internal/util/ArraysSupport"), (0, u "LOG2_ARRAY_LONG_INDEX_SCALE"), (0, u "I"), (2, u "U"), (0, u "Ljdk/internal/misc/Unsafe;"), (8, u "BIG_ENDIAN"), (0, u "Z"), (8, u "LOG2_BYTE_BIT_SIZE"), (4, u "LOG2_ARRAY_INT_INDEX_SCALE"), (54, u "JLA"), (0, u "Ljdk/internal/access/JavaLangAccess;"), (11, u "LOG2_ARRAY_BOOLEAN_INDEX_SCALE"), (9, u "LOG2_ARRAY_BYTE_INDEX_SCALE"), (5, u "LOG2_ARRAY_CHAR_INDEX_SCALE"), (5, u "LOG2_ARRAY_SHORT_INDEX_SCALE"), (18, u "LOG2_ARRAY_FLOAT_INDEX_SCALE"), (24, u "LOG2_ARRAY_DOUBLE_INDEX_SCALE"), (89, u "T_BOOLEAN"), (2, u "T_CHAR"), (1, u "T_FLOAT"), (1, u "T_DOUBLE"), (1, u "T_BYTE"), (1, u "T_SHORT"), (1, u "T_INT"), (1, u "T_LONG"), (1, u "SOFT_MAX_ARRAY_LENGTH")] 83

def k16m0 : Method := { name := "<init>", desc := "()V", sig := { parameters := [], returnType := none }, accessFlags := 2, code := none }
/-- jdk/internal/util/ArraysSupport -/
def k16 : Class := { plain "jdk/internal/util/ArraysSupport" (some 0) with
  accessFlags := 33
  interfaces := #[]
  cf := some (fileOf pool16 21 #[] #[{ accessFlags := 2, nameIndex := 9, descriptorIndex := 19, attributes := #[] }] 33 16 #[] #[{ accessFlags := 24, nameIndex := 28, descriptorIndex := 29, attributes := #[] }, { accessFlags := 26, nameIndex := 38, descriptorIndex := 39, attributes := #[] }, { accessFlags := 25, nameIndex := 121, descriptorIndex := 25, attributes := #[] }, { accessFlags := 25, nameIndex := 131, descriptorIndex := 25, attributes := #[] }, { accessFlags := 25, nameIndex := 137, descriptorIndex := 25, attributes := #[] }, { accessFlags := 25, nameIndex := 143, descriptorIndex := 25, attributes := #[] }, { accessFlags := 25, nameIndex := 53, descriptorIndex := 25, attributes := #[] }, { accessFlags := 25, nameIndex := 24, descriptorIndex := 25, attributes := #[] }, { accessFlags := 25, nameIndex := 162, descriptorIndex := 25, attributes := #[] }, { accessFlags := 25, nameIndex := 187, descriptorIndex := 25, attributes := #[] }, { accessFlags := 26, nameIndex := 48, descriptorIndex := 25, attributes := #[] }, { accessFlags := 25, nameIndex := 277, descriptorIndex := 25, attributes := #[] }, { accessFlags := 25, nameIndex := 280, descriptorIndex := 25, attributes := #[] }, { accessFlags := 25, nameIndex := 282, descriptorIndex := 25, attributes := #[] }, { accessFlags := 25, nameIndex := 284, descriptorIndex := 25, attributes := #[] }, { accessFlags := 25, nameIndex := 286, descriptorIndex := 25, attributes := #[] }, { accessFlags := 25, nameIndex := 288, descriptorIndex := 25, attributes := #[] }, { accessFlags := 25, nameIndex := 290, descriptorIndex := 25, attributes := #[] }, { accessFlags := 25, nameIndex := 292, descriptorIndex := 25, attributes := #[] }, { accessFlags := 26, nameIndex := 108, descriptorIndex := 109, attributes := #[] }, { accessFlags := 25, nameIndex := 294, descriptorIndex := 25, attributes := #[] }])
  fields := #[{ name := "U", type := (.object "jdk/internal/misc/Unsafe"), accessFlags := 24, slot := 0, constantValue := 0 }, { name := "BIG_ENDIAN", type := .boolean, accessFlags := 26, slot := 1, constantValue := 0 }, { name := "LOG2_ARRAY_BOOLEAN_INDEX_SCALE", type := .int, accessFlags := 25, slot := 2, constantValue := 0 }, { name := "LOG2_ARRAY_BYTE_INDEX_SCALE", type := .int, accessFlags := 25, slot := 3, constantValue := 0 }, { name := "LOG2_ARRAY_CHAR_INDEX_SCALE", type := .int, accessFlags := 25, slot := 4, constantValue := 0 }, { name := "LOG2_ARRAY_SHORT_INDEX_SCALE", type := .int, accessFlags := 25, slot := 5, constantValue := 0 }, { name := "LOG2_ARRAY_INT_INDEX_SCALE", type := .int, accessFlags := 25, slot := 6, constantValue := 0 }, { name := "LOG2_ARRAY_LONG_INDEX_SCALE", type := .int, accessFlags := 25, slot := 7, constantValue := 0 }, { name := "LOG2_ARRAY_FLOAT_INDEX_SCALE", type := .int, accessFlags := 25, slot := 8, constantValue := 0 }, { name := "LOG2_ARRAY_DOUBLE_INDEX_SCALE", type := .int, accessFlags := 25, slot := 9, constantValue := 0 }, { name := "LOG2_BYTE_BIT_SIZE", type := .int, accessFlags := 26, slot := 10, constantValue := 0 }, { name := "T_BOOLEAN", type := .int, accessFlags := 25, slot := 11, constantValue := 0 }, { name := "T_CHAR", type := .int, accessFlags := 25, slot := 12, constantValue := 0 }, { name := "T_FLOAT", type := .int, accessFlags := 25, slot := 13, constantValue := 0 }, { name := "T_DOUBLE", type := .int, accessFlags := 25, slot := 14, constantValue := 0 }, { name := "T_BYTE", type := .int, accessFlags := 25, slot := 15, constantValue := 0 }, { name := "T_SHORT", type := .int, accessFlags := 25, slot := 16, constantValue := 0 }, { name := "T_INT", type := .int, accessFlags := 25, slot := 17, constantValue := 0 }, { name := "T_LONG", type := .int, accessFlags := 25, slot := 18, constantValue := 0 }, { name := "JLA", type := (.object "jdk/internal/access/JavaLangAccess"), accessFlags := 26, slot := 19, constantValue := 0 }, { name := "SOFT_MAX_ARRAY_LENGTH", type := .int, accessFlags := 25, slot := 20, constantValue := 0 }]
  methods := #[k16m0]
  instanceTypes := #[]
  staticTypes := #[(.object "jdk/internal/misc/Unsafe"), .boolean, .int, .int, .int, .int, .int, .int, .int, .int, .int, .int, .int, .int, .int, .int, .int, .int, .int, (.object "jdk/internal/access/JavaLangAccess"), .int]
  resolved := Array.replicate 378 none
  statics := none }

/-- the primitive byte -/
def k17 : Class := { plain "byte" none with kind := .primitive 'B', accessFlags := 0x411 }
/-- [B -/
def k18 : Class := { plain "[B" (some 0) with kind := .array 17 .byte, interfaces := #[13, 2], accessFlags := 1041 }

/-- the primitive char -/
def k19 : Class := { plain "char" none with kind := .primitive 'C', accessFlags := 0x411 }
/-- [C -/
def k20 : Class := { plain "[C" (some 0) with kind := .array 19 .char, interfaces := #[13, 2], accessFlags := 1041 }

/-- the primitive int -/
def k21 : Class := { plain "int" none with kind := .primitive 'I', accessFlags := 0x411 }
/-- [I -/
def k22 : Class := { plain "[I" (some 0) with kind := .array 21 .int, interfaces := #[13, 2], accessFlags := 1041 }

/-- [Lcom/example/clearstep/clearstep/core/EventKind; -/
def k23 : Class := { plain "[Lcom/example/clearstep/clearstep/core/EventKind;" (some 0) with kind := .array 12 (.object "com/example/clearstep/clearstep/core/EventKind"), interfaces := #[13, 2], accessFlags := 1041 }

def heap : Heap := #[{ cls := 7, slots := #[.long 0, .int 1, .null, .int 0, .null, .int 0, .int 0], vm := .statics 7 },
  { cls := 9, slots := #[.null, .null, .null], vm := .statics 9 },
  { cls := 12, slots := #[.ref 5, .ref 6, .ref 7, .ref 8, .ref 9, .null, .ref 4], vm := .statics 12 },
  { cls := 14, slots := #[.ref 20], vm := .statics 14 },
  { cls := 23, slots := #[.ref 5, .ref 6, .ref 7, .ref 8, .ref 9], vm := .none },
  { cls := 12, slots := #[.null, .int 0, .int 0, .ref 10, .null], vm := .none },
  { cls := 12, slots := #[.null, .int 1, .int 0, .ref 11, .null], vm := .none },
  { cls := 12, slots := #[.null, .int 2, .int 0, .ref 12, .null], vm := .none },
  { cls := 12, slots := #[.null, .int 3, .int 0, .ref 13, .null], vm := .none },
  { cls := 12, slots := #[.null, .int 4, .int 0, .ref 14, .null], vm := .none },
  { cls := 7, slots := #[.ref 15, .int 0, .int 0, .int 0], vm := .none },
  { cls := 7, slots := #[.ref 16, .int 0, .int 0, .int 0], vm := .none },
  { cls := 7, slots := #[.ref 17, .int 0, .int 0, .int 0], vm := .none },
  { cls := 7, slots := #[.ref 18, .int 0, .int 0, .int 0], vm := .none },
  { cls := 7, slots := #[.ref 19, .int 0, .int 0, .int 0], vm := .none },
  { cls := 18, slots := #[.int 99, .int 97, .int 112, .int 116, .int 117, .int 114, .int 101], vm := .none },
  { cls := 18, slots := #[.int 114, .int 101, .int 108, .int 101, .int 97, .int 115, .int 101], vm := .none },
  { cls := 18, slots := #[.int 115, .int 104, .int 105, .int 112], vm := .none },
  { cls := 18, slots := #[.int 114, .int 101, .int 102, .int 117, .int 110, .int 100], vm := .none },
  { cls := 18, slots := #[.int 99, .int 108, .int 111, .int 115, .int 101], vm := .none },
  { cls := 14, slots := #[.null], vm := .none }]
def classes : Array Class := #[k0, k1, k2, k3, k4, k5, k6, k7, k8, k9, k10, k11, k12, k13, k14, k15, k16, k17, k18, k19, k20, k21, k22, k23]
def interned : List (Array UInt16 × Addr) := []
def slotsUsed : Nat := 98
def theMethod : MethodId := ⟨1, 1⟩
def args0 : Array Value := #[.int 5, .int 5, .int 5, .int 5, .long 5]
def aboutOver (below : List Frame) : State where
  vm := { classes := classes, interned := interned.toArray }
  heap := heap
  slotsUsed := slotsUsed
  threads := #[{ frames := .invoking theMethod args0 :: below }]
def below0 : List Frame := [.native { method := ⟨0, 0⟩, args := #[] }]
def about1 : State := aboutOver below0
def p0 : Program := .bare "" "" ""
def e0 : Env := launch0.env 0 0 0
theorem w_frames : about1.frames = Frame.invoking theMethod args0 :: below0 := rfl
set_option maxRecDepth 65536 in
theorem w_args : argsFit about1.vm theMethod args0 = true := by decide +kernel
set_option maxRecDepth 65536 in
theorem w_heap : heapFits about1 = true := by decide +kernel
set_option maxRecDepth 65536 in
theorem w_runnable : about1.curStatus? = some .runnable := by decide +kernel
set_option maxRecDepth 65536 in
theorem w_alone : about1.alone = true := by decide +kernel
set_option maxRecDepth 65536 in
theorem w_named : about1.methodNamed? x = some theMethod := by decide +kernel
set_option maxRecDepth 65536 in
theorem w_hears : about1.hears theMethod below0 = true := by decide +kernel
set_option maxRecDepth 65536 in
theorem w_ripe : about1.ripe theMethod args0 below0 = true := by decide +kernel
theorem w_running : about1.status = .running := rfl
set_option maxRecDepth 65536 in
theorem w_room : about1.hasRoom e0.platform room_1 = true :=
  launch0.hasRoom_least _ room_1 (by decide +kernel) (by decide +kernel) (by decide +kernel) (by decide +kernel) (by decide +kernel) (by decide +kernel)
theorem allAtoms_all (ts : List Jvm.Cond) (a : Array Jvm.Value) (st : Jvm.State) : (allAtoms ts).before a st = ts.all (fun c => c.before a st) := by
  induction ts with
  | nil => rfl
  | cons c t ih =>
    show (Jvm.Cond.and c (allAtoms t)).before a st = _
    rw [Jvm.Cond.before_and, ih, List.all_cons]
def words1 : List Jvm.Cond := Jvm.Cond.code x code maxLocals ret :: tables_1
/-- a 'code' word, met by the world's own term for the bytes: nothing is compared byte by byte -/
theorem code_word {y : MethodName} {bytes : ByteArray} {mx : Nat} {rt : Option FieldType} {a : Array Value} {s : State} {m : MethodId} {meth : Method} {c : Code} (h1 : s.methodNamed? y = some m) (h2 : s.vm.method? m = some meth) (h3 : meth.code = some c) (h4 : c.code = bytes)
    (h5 : (c.maxLocals == mx && c.exceptionTable.isEmpty && decide (c.maxStack ≤ mostOperands) && decide (meth.sig.returnType = rt) && !meth.locks && decide (parseMethodDescriptor y.desc = some meth.sig)) = true) : (Jvm.Cond.code y bytes mx rt).before a s = true := by
  simp only [Bool.and_eq_true, beq_iff_eq, Bool.not_eq_true', decide_eq_true_eq] at h5
  obtain ⟨⟨⟨⟨⟨g1, g2⟩, g3⟩, g4⟩, g5⟩, g6⟩ := h5
  simp [Cond.before, Cond.holds, Cond.value, h1, h2, h3, h4, g1, g2, g3, g4, g5, g6]
def isCode : Jvm.Cond → Bool
  | .code _ _ _ _ => true
  | _ => false
theorem all_split {L : List Jvm.Cond} {P : Jvm.Cond → Bool} (h1 : L.all (fun c => isCode c || P c) = true) (h2 : ∀ c ∈ L.filter isCode, P c = true) : L.all P = true := by
  refine List.all_eq_true.mpr fun c hc => ?_
  have h := List.all_eq_true.mp h1 c hc
  rcases Bool.eq_false_or_eq_true (isCode c) with hi | hi
  · exact h2 c (List.mem_filter.mpr ⟨hc, hi⟩)
  · simpa [hi] using h
set_option maxRecDepth 65536 in
theorem w_c0 : (Jvm.Cond.code x code maxLocals ret).before args0 about1 = true := code_word (m := ⟨1, 1⟩) (meth := k1m1) (c := k1c1) (by decide +kernel) rfl rfl rfl (by decide +kernel)
set_option maxRecDepth 65536 in
theorem w_c1 : (Jvm.Cond.code ({ cls := "com/example/clearstep/clearstep/core/EventKindFromWordPinLaw", name := "wordOf", desc := "(I)Ljava/lang/String;" } : Jvm.MethodName) method_3_code (1 : Nat) (Option.some (Jvm.ClassFile.FieldType.object "java/lang/String"))).before args0 about1 = true := code_word (m := ⟨1, 2⟩) (meth := k1m2) (c := k1c2) (by decide +kernel) rfl rfl rfl (by decide +kernel)
set_option maxRecDepth 65536 in
theorem w_c2 : (Jvm.Cond.code ({ cls := "java/lang/String", name := "length", desc := "()I" } : Jvm.MethodName) jdk_42_method_54_code (1 : Nat) (Option.some Jvm.ClassFile.FieldType.int)).before args0 about1 = true := code_word (m := ⟨7, 2⟩) (meth := k7m2) (c := k7c2) (by decide +kernel) rfl rfl rfl (by decide +kernel)
set_option maxRecDepth 65536 in
theorem w_c3 : (Jvm.Cond.code ({ cls := "java/lang/String", name := "coder", desc := "()B" } : Jvm.MethodName) jdk_42_method_152_code (1 : Nat) (Option.some Jvm.ClassFile.FieldType.byte)).before args0 about1 = true := code_word (m := ⟨7, 6⟩) (meth := k7m6) (c := k7c6) (by decide +kernel) rfl rfl rfl (by decide +kernel)
set_option maxRecDepth 65536 in
theorem w_c4 : (Jvm.Cond.code ({ cls := "com/example/clearstep/clearstep/core/EventKindFromWordPinLaw", name := "at", desc := "(Ljava/lang/String;I)C" } : Jvm.MethodName) method_5_code (2 : Nat) (Option.some Jvm.ClassFile.FieldType.char)).before args0 about1 = true := code_word (m := ⟨1, 4⟩) (meth := k1m4) (c := k1c4) (by decide +kernel) rfl rfl rfl (by decide +kernel)
set_option maxRecDepth 65536 in
theorem w_c5 : (Jvm.Cond.code ({ cls := "java/lang/String", name := "charAt", desc := "(I)C" } : Jvm.MethodName) jdk_42_method_56_code (2 : Nat) (Option.some Jvm.ClassFile.FieldType.char)).before args0 about1 = true := code_word (m := ⟨7, 3⟩) (meth := k7m3) (c := k7c3) (by decide +kernel) rfl rfl rfl (by decide +kernel)
set_option maxRecDepth 65536 in
theorem w_c6 : (Jvm.Cond.code ({ cls := "java/lang/String", name := "isLatin1", desc := "()Z" } : Jvm.MethodName) jdk_42_method_154_code (1 : Nat) (Option.some Jvm.ClassFile.FieldType.boolean)).before args0 about1 = true := code_word (m := ⟨7, 7⟩) (meth := k7m7) (c := k7c7) (by decide +kernel) rfl rfl rfl (by decide +kernel)
set_option maxRecDepth 65536 in
theorem w_c7 : (Jvm.Cond.code ({ cls := "java/lang/StringLatin1", name := "charAt", desc := "([BI)C" } : Jvm.MethodName) jdk_43_method_2_code (2 : Nat) (Option.some Jvm.ClassFile.FieldType.char)).before args0 about1 = true := code_word (m := ⟨8, 1⟩) (meth := k8m1) (c := k8c1) (by decide +kernel) rfl rfl rfl (by decide +kernel)
set_option maxRecDepth 65536 in
theorem w_c8 : (Jvm.Cond.code ({ cls := "java/lang/String", name := "checkIndex", desc := "(II)V" } : Jvm.MethodName) jdk_42_method_155_code (2 : Nat) (Option.none : Option Jvm.ClassFile.FieldType)).before args0 about1 = true := code_word (m := ⟨7, 8⟩) (meth := k7m8) (c := k7c8) (by decide +kernel) rfl rfl rfl (by decide +kernel)
set_option maxRecDepth 65536 in
theorem w_c9 : (Jvm.Cond.code ({ cls := "jdk/internal/util/Preconditions", name := "checkIndex", desc := "(IILjava/util/function/BiFunction;)I" } : Jvm.MethodName) jdk_41_method_11_code (3 : Nat) (Option.some Jvm.ClassFile.FieldType.int)).before args0 about1 = true := code_word (m := ⟨9, 1⟩) (meth := k9m1) (c := k9c1) (by decide +kernel) rfl rfl rfl (by decide +kernel)
set_option maxRecDepth 65536 in
theorem w_c10 : (Jvm.Cond.code ({ cls := "com/example/clearstep/clearstep/core/EventKindFromWordPinLaw", name := "make", desc := "([CI)Ljava/lang/String;" } : Jvm.MethodName) method_6_code (2 : Nat) (Option.some (Jvm.ClassFile.FieldType.object "java/lang/String"))).before args0 about1 = true := code_word (m := ⟨1, 5⟩) (meth := k1m5) (c := k1c5) (by decide +kernel) rfl rfl rfl (by decide +kernel)
set_option maxRecDepth 65536 in
theorem w_c11 : (Jvm.Cond.code ({ cls := "java/lang/String", name := "<init>", desc := "([C)V" } : Jvm.MethodName) jdk_42_method_3_code (2 : Nat) (Option.none : Option Jvm.ClassFile.FieldType)).before args0 about1 = true := code_word (m := ⟨7, 1⟩) (meth := k7m1) (c := k7c1) (by decide +kernel) rfl rfl rfl (by decide +kernel)
set_option maxRecDepth 65536 in
theorem w_c12 : (Jvm.Cond.code ({ cls := "java/lang/String", name := "<init>", desc := "([CIILjava/lang/Void;)V" } : Jvm.MethodName) jdk_42_method_149_code (6 : Nat) (Option.none : Option Jvm.ClassFile.FieldType)).before args0 about1 = true := code_word (m := ⟨7, 5⟩) (meth := k7m5) (c := k7c5) (by decide +kernel) rfl rfl rfl (by decide +kernel)
set_option maxRecDepth 65536 in
theorem w_c13 : (Jvm.Cond.code ({ cls := "java/lang/Object", name := "<init>", desc := "()V" } : Jvm.MethodName) object_method_1_code (1 : Nat) (Option.none : Option Jvm.ClassFile.FieldType)).before args0 about1 = true := code_word (m := ⟨0, 0⟩) (meth := k0m0) (c := k0c0) (by decide +kernel) rfl rfl rfl (by decide +kernel)
set_option maxRecDepth 65536 in
theorem w_c14 : (Jvm.Cond.code ({ cls := "java/lang/StringUTF16", name := "compress", desc := "([CII)[B" } : Jvm.MethodName) jdk_52_method_16_code (6 : Nat) (Option.some (Jvm.ClassFile.FieldType.array Jvm.ClassFile.FieldType.byte))).before args0 about1 = true := code_word (m := ⟨10, 2⟩) (meth := k10m2) (c := k10c2) (by decide +kernel) rfl rfl rfl (by decide +kernel)
set_option maxRecDepth 65536 in
theorem w_c15 : (Jvm.Cond.code ({ cls := "java/lang/StringUTF16", name := "compress", desc := "([CI[BII)I" } : Jvm.MethodName) jdk_52_method_21_code (7 : Nat) (Option.some Jvm.ClassFile.FieldType.int)).before args0 about1 = true := code_word (m := ⟨10, 3⟩) (meth := k10m3) (c := k10c3) (by decide +kernel) rfl rfl rfl (by decide +kernel)
set_option maxRecDepth 65536 in
theorem w_c16 : (Jvm.Cond.code ({ cls := "java/lang/StringUTF16", name := "coderFromArrayLen", desc := "([BI)B" } : Jvm.MethodName) jdk_52_method_15_code (2 : Nat) (Option.some Jvm.ClassFile.FieldType.byte)).before args0 about1 = true := code_word (m := ⟨10, 1⟩) (meth := k10m1) (c := k10c1) (by decide +kernel) rfl rfl rfl (by decide +kernel)
set_option maxRecDepth 65536 in
theorem w_c17 : (Jvm.Cond.code ({ cls := "com/example/clearstep/clearstep/core/EventKindFromWordPinLaw", name := "expected", desc := "(Ljava/lang/String;)Lcom/example/clearstep/clearstep/core/EventKind;" } : Jvm.MethodName) method_4_code (1 : Nat) (Option.some (Jvm.ClassFile.FieldType.object "com/example/clearstep/clearstep/core/EventKind"))).before args0 about1 = true := code_word (m := ⟨1, 3⟩) (meth := k1m3) (c := k1c3) (by decide +kernel) rfl rfl rfl (by decide +kernel)
set_option maxRecDepth 65536 in
theorem w_c18 : (Jvm.Cond.code ({ cls := "java/lang/String", name := "equals", desc := "(Ljava/lang/Object;)Z" } : Jvm.MethodName) jdk_42_method_66_code (3 : Nat) (Option.some Jvm.ClassFile.FieldType.boolean)).before args0 about1 = true := code_word (m := ⟨7, 4⟩) (meth := k7m4) (c := k7c4) (by decide +kernel) rfl rfl rfl (by decide +kernel)
set_option maxRecDepth 65536 in
theorem w_c19 : (Jvm.Cond.code ({ cls := "java/lang/StringLatin1", name := "equals", desc := "([B[B)Z" } : Jvm.MethodName) jdk_43_method_13_code (3 : Nat) (Option.some Jvm.ClassFile.FieldType.boolean)).before args0 about1 = true := code_word (m := ⟨8, 2⟩) (meth := k8m2) (c := k8c2) (by decide +kernel) rfl rfl rfl (by decide +kernel)
set_option maxRecDepth 65536 in
theorem w_c20 : (Jvm.Cond.code ({ cls := "com/example/clearstep/clearstep/core/EventKind", name := "fromWord", desc := "(Ljava/lang/String;)Ljava/util/Optional;" } : Jvm.MethodName) prog_46_method_8_code (5 : Nat) (Option.some (Jvm.ClassFile.FieldType.object "java/util/Optional"))).before args0 about1 = true := code_word (m := ⟨12, 1⟩) (meth := k12m1) (c := k12c1) (by decide +kernel) rfl rfl rfl (by decide +kernel)
set_option maxRecDepth 65536 in
theorem w_c21 : (Jvm.Cond.code ({ cls := "com/example/clearstep/clearstep/core/EventKind", name := "values", desc := "()[Lcom/example/clearstep/clearstep/core/EventKind;" } : Jvm.MethodName) prog_46_method_1_code (0 : Nat) (Option.some (Jvm.ClassFile.FieldType.array (Jvm.ClassFile.FieldType.object "com/example/clearstep/clearstep/core/EventKind")))).before args0 about1 = true := code_word (m := ⟨12, 0⟩) (meth := k12m0) (c := k12c0) (by decide +kernel) rfl rfl rfl (by decide +kernel)
set_option maxRecDepth 65536 in
theorem w_c22 : (Jvm.Cond.code ({ cls := "java/util/Optional", name := "of", desc := "(Ljava/lang/Object;)Ljava/util/Optional;" } : Jvm.MethodName) jdk_32_method_3_code (1 : Nat) (Option.some (Jvm.ClassFile.FieldType.object "java/util/Optional"))).before args0 about1 = true := code_word (m := ⟨14, 2⟩) (meth := k14m2) (c := k14c2) (by decide +kernel) rfl rfl rfl (by decide +kernel)
set_option maxRecDepth 65536 in
theorem w_c23 : (Jvm.Cond.code ({ cls := "java/util/Objects", name := "requireNonNull", desc := "(Ljava/lang/Object;)Ljava/lang/Object;" } : Jvm.MethodName) jdk_31_method_10_code (1 : Nat) (Option.some (Jvm.ClassFile.FieldType.object "java/lang/Object"))).before args0 about1 = true := code_word (m := ⟨15, 1⟩) (meth := k15m1) (c := k15c1) (by decide +kernel) rfl rfl rfl (by decide +kernel)
set_option maxRecDepth 65536 in
theorem w_c24 : (Jvm.Cond.code ({ cls := "java/util/Optional", name := "<init>", desc := "(Ljava/lang/Object;)V" } : Jvm.MethodName) jdk_32_method_2_code (2 : Nat) (Option.none : Option Jvm.ClassFile.FieldType)).before args0 about1 = true := code_word (m := ⟨14, 1⟩) (meth := k14m1) (c := k14c1) (by decide +kernel) rfl rfl rfl (by decide +kernel)
set_option maxRecDepth 65536 in
theorem w_c25 : (Jvm.Cond.code ({ cls := "java/util/Optional", name := "isPresent", desc := "()Z" } : Jvm.MethodName) jdk_32_method_6_code (1 : Nat) (Option.some Jvm.ClassFile.FieldType.boolean)).before args0 about1 = true := code_word (m := ⟨14, 4⟩) (meth := k14m4) (c := k14c4) (by decide +kernel) rfl rfl rfl (by decide +kernel)
set_option maxRecDepth 65536 in
theorem w_c26 : (Jvm.Cond.code ({ cls := "java/util/Optional", name := "get", desc := "()Ljava/lang/Object;" } : Jvm.MethodName) jdk_32_method_5_code (1 : Nat) (Option.some (Jvm.ClassFile.FieldType.object "java/lang/Object"))).before args0 about1 = true := code_word (m := ⟨14, 3⟩) (meth := k14m3) (c := k14c3) (by decide +kernel) rfl rfl rfl (by decide +kernel)
set_option maxRecDepth 65536 in
theorem w_c27 : (Jvm.Cond.code ({ cls := "java/util/Optional", name := "empty", desc := "()Ljava/util/Optional;" } : Jvm.MethodName) jdk_32_method_1_code (1 : Nat) (Option.some (Jvm.ClassFile.FieldType.object "java/util/Optional"))).before args0 about1 = true := code_word (m := ⟨14, 0⟩) (meth := k14m0) (c := k14c0) (by decide +kernel) rfl rfl rfl (by decide +kernel)
set_option maxRecDepth 65536 in
theorem w_c28 : (Jvm.Cond.code ({ cls := "java/util/Optional", name := "isEmpty", desc := "()Z" } : Jvm.MethodName) jdk_32_method_7_code (1 : Nat) (Option.some Jvm.ClassFile.FieldType.boolean)).before args0 about1 = true := code_word (m := ⟨14, 5⟩) (meth := k14m5) (c := k14c5) (by decide +kernel) rfl rfl rfl (by decide +kernel)
def codes1 : List Jvm.Cond := [Jvm.Cond.code x code maxLocals ret, Jvm.Cond.code ({ cls := "com/example/clearstep/clearstep/core/EventKindFromWordPinLaw", name := "wordOf", desc := "(I)Ljava/lang/String;" } : Jvm.MethodName) method_3_code (1 : Nat) (Option.some (Jvm.ClassFile.FieldType.object "java/lang/String")), Jvm.Cond.code ({ cls := "java/lang/String", name := "length", desc := "()I" } : Jvm.MethodName) jdk_42_method_54_code (1 : Nat) (Option.some Jvm.ClassFile.FieldType.int), Jvm.Cond.code ({ cls := "java/lang/String", name := "coder", desc := "()B" } : Jvm.MethodName) jdk_42_method_152_code (1 : Nat) (Option.some Jvm.ClassFile.FieldType.byte), Jvm.Cond.code ({ cls := "com/example/clearstep/clearstep/core/EventKindFromWordPinLaw", name := "at", desc := "(Ljava/lang/String;I)C" } : Jvm.MethodName) method_5_code (2 : Nat) (Option.some Jvm.ClassFile.FieldType.char), Jvm.Cond.code ({ cls := "java/lang/String", name := "charAt", desc := "(I)C" } : Jvm.MethodName) jdk_42_method_56_code (2 : Nat) (Option.some Jvm.ClassFile.FieldType.char), Jvm.Cond.code ({ cls := "java/lang/String", name := "isLatin1", desc := "()Z" } : Jvm.MethodName) jdk_42_method_154_code (1 : Nat) (Option.some Jvm.ClassFile.FieldType.boolean), Jvm.Cond.code ({ cls := "java/lang/StringLatin1", name := "charAt", desc := "([BI)C" } : Jvm.MethodName) jdk_43_method_2_code (2 : Nat) (Option.some Jvm.ClassFile.FieldType.char), Jvm.Cond.code ({ cls := "java/lang/String", name := "checkIndex", desc := "(II)V" } : Jvm.MethodName) jdk_42_method_155_code (2 : Nat) (Option.none : Option Jvm.ClassFile.FieldType), Jvm.Cond.code ({ cls := "jdk/internal/util/Preconditions", name := "checkIndex", desc := "(IILjava/util/function/BiFunction;)I" } : Jvm.MethodName) jdk_41_method_11_code (3 : Nat) (Option.some Jvm.ClassFile.FieldType.int), Jvm.Cond.code ({ cls := "com/example/clearstep/clearstep/core/EventKindFromWordPinLaw", name := "make", desc := "([CI)Ljava/lang/String;" } : Jvm.MethodName) method_6_code (2 : Nat) (Option.some (Jvm.ClassFile.FieldType.object "java/lang/String")), Jvm.Cond.code ({ cls := "java/lang/String", name := "<init>", desc := "([C)V" } : Jvm.MethodName) jdk_42_method_3_code (2 : Nat) (Option.none : Option Jvm.ClassFile.FieldType), Jvm.Cond.code ({ cls := "java/lang/String", name := "<init>", desc := "([CIILjava/lang/Void;)V" } : Jvm.MethodName) jdk_42_method_149_code (6 : Nat) (Option.none : Option Jvm.ClassFile.FieldType), Jvm.Cond.code ({ cls := "java/lang/Object", name := "<init>", desc := "()V" } : Jvm.MethodName) object_method_1_code (1 : Nat) (Option.none : Option Jvm.ClassFile.FieldType), Jvm.Cond.code ({ cls := "java/lang/StringUTF16", name := "compress", desc := "([CII)[B" } : Jvm.MethodName) jdk_52_method_16_code (6 : Nat) (Option.some (Jvm.ClassFile.FieldType.array Jvm.ClassFile.FieldType.byte)), Jvm.Cond.code ({ cls := "java/lang/StringUTF16", name := "compress", desc := "([CI[BII)I" } : Jvm.MethodName) jdk_52_method_21_code (7 : Nat) (Option.some Jvm.ClassFile.FieldType.int), Jvm.Cond.code ({ cls := "java/lang/StringUTF16", name := "coderFromArrayLen", desc := "([BI)B" } : Jvm.MethodName) jdk_52_method_15_code (2 : Nat) (Option.some Jvm.ClassFile.FieldType.byte), Jvm.Cond.code ({ cls := "com/example/clearstep/clearstep/core/EventKindFromWordPinLaw", name := "expected", desc := "(Ljava/lang/String;)Lcom/example/clearstep/clearstep/core/EventKind;" } : Jvm.MethodName) method_4_code (1 : Nat) (Option.some (Jvm.ClassFile.FieldType.object "com/example/clearstep/clearstep/core/EventKind")), Jvm.Cond.code ({ cls := "java/lang/String", name := "equals", desc := "(Ljava/lang/Object;)Z" } : Jvm.MethodName) jdk_42_method_66_code (3 : Nat) (Option.some Jvm.ClassFile.FieldType.boolean), Jvm.Cond.code ({ cls := "java/lang/StringLatin1", name := "equals", desc := "([B[B)Z" } : Jvm.MethodName) jdk_43_method_13_code (3 : Nat) (Option.some Jvm.ClassFile.FieldType.boolean), Jvm.Cond.code ({ cls := "com/example/clearstep/clearstep/core/EventKind", name := "fromWord", desc := "(Ljava/lang/String;)Ljava/util/Optional;" } : Jvm.MethodName) prog_46_method_8_code (5 : Nat) (Option.some (Jvm.ClassFile.FieldType.object "java/util/Optional")), Jvm.Cond.code ({ cls := "com/example/clearstep/clearstep/core/EventKind", name := "values", desc := "()[Lcom/example/clearstep/clearstep/core/EventKind;" } : Jvm.MethodName) prog_46_method_1_code (0 : Nat) (Option.some (Jvm.ClassFile.FieldType.array (Jvm.ClassFile.FieldType.object "com/example/clearstep/clearstep/core/EventKind"))), Jvm.Cond.code ({ cls := "java/util/Optional", name := "of", desc := "(Ljava/lang/Object;)Ljava/util/Optional;" } : Jvm.MethodName) jdk_32_method_3_code (1 : Nat) (Option.some (Jvm.ClassFile.FieldType.object "java/util/Optional")), Jvm.Cond.code ({ cls := "java/util/Objects", name := "requireNonNull", desc := "(Ljava/lang/Object;)Ljava/lang/Object;" } : Jvm.MethodName) jdk_31_method_10_code (1 : Nat) (Option.some (Jvm.ClassFile.FieldType.object "java/lang/Object")), Jvm.Cond.code ({ cls := "java/util/Optional", name := "<init>", desc := "(Ljava/lang/Object;)V" } : Jvm.MethodName) jdk_32_method_2_code (2 : Nat) (Option.none : Option Jvm.ClassFile.FieldType), Jvm.Cond.code ({ cls := "java/util/Optional", name := "isPresent", desc := "()Z" } : Jvm.MethodName) jdk_32_method_6_code (1 : Nat) (Option.some Jvm.ClassFile.FieldType.boolean), Jvm.Cond.code ({ cls := "java/util/Optional", name := "get", desc := "()Ljava/lang/Object;" } : Jvm.MethodName) jdk_32_method_5_code (1 : Nat) (Option.some (Jvm.ClassFile.FieldType.object "java/lang/Object")), Jvm.Cond.code ({ cls := "java/util/Optional", name := "empty", desc := "()Ljava/util/Optional;" } : Jvm.MethodName) jdk_32_method_1_code (1 : Nat) (Option.some (Jvm.ClassFile.FieldType.object "java/util/Optional")), Jvm.Cond.code ({ cls := "java/util/Optional", name := "isEmpty", desc := "()Z" } : Jvm.MethodName) jdk_32_method_7_code (1 : Nat) (Option.some Jvm.ClassFile.FieldType.boolean)]
set_option maxRecDepth 65536 in
theorem codes_eq : words1.filter isCode = codes1 := rfl
theorem w_codes : ∀ c ∈ words1.filter isCode, c.before args0 about1 = true := by
  rw [codes_eq]
  intro c hc
  simp only [codes1, List.mem_cons, List.not_mem_nil, or_false] at hc
  rcases hc with rfl | rfl | rfl | rfl | rfl | rfl | rfl | rfl | rfl | rfl | rfl | rfl | rfl | rfl | rfl | rfl | rfl | rfl | rfl | rfl | rfl | rfl | rfl | rfl | rfl | rfl | rfl | rfl | rfl
  · exact w_c0
  · exact w_c1
  · exact w_c2
  · exact w_c3
  · exact w_c4
  · exact w_c5
  · exact w_c6
  · exact w_c7
  · exact w_c8
  · exact w_c9
  · exact w_c10
  · exact w_c11
  · exact w_c12
  · exact w_c13
  · exact w_c14
  · exact w_c15
  · exact w_c16
  · exact w_c17
  · exact w_c18
  · exact w_c19
  · exact w_c20
  · exact w_c21
  · exact w_c22
  · exact w_c23
  · exact w_c24
  · exact w_c25
  · exact w_c26
  · exact w_c27
  · exact w_c28
set_option maxRecDepth 65536 in
theorem w_t1 : (words1.take 24).all (fun c => isCode c || c.before args0 about1) = true := by decide +kernel
set_option maxRecDepth 65536 in
theorem w_t2 : ((words1.drop 24).take 24).all (fun c => isCode c || c.before args0 about1) = true := by decide +kernel
set_option maxRecDepth 65536 in
theorem w_t3 : (((words1.drop 24).drop 24).take 24).all (fun c => isCode c || c.before args0 about1) = true := by decide +kernel
set_option maxRecDepth 65536 in
theorem w_t4 : ((((words1.drop 24).drop 24).drop 24).take 24).all (fun c => isCode c || c.before args0 about1) = true := by decide +kernel
set_option maxRecDepth 65536 in
theorem w_t5 : (((((words1.drop 24).drop 24).drop 24).drop 24).take 24).all (fun c => isCode c || c.before args0 about1) = true := by decide +kernel
set_option maxRecDepth 65536 in
theorem w_t6 : ((((((words1.drop 24).drop 24).drop 24).drop 24).drop 24).take 24).all (fun c => isCode c || c.before args0 about1) = true := by decide +kernel
set_option maxRecDepth 65536 in
theorem w_t7 : ((((((words1.drop 24).drop 24).drop 24).drop 24).drop 24).drop 24).all (fun c => isCode c || c.before args0 about1) = true := by decide +kernel
theorem w_tables : (allAtoms (Jvm.Cond.code x code maxLocals ret :: tables_1)).before args0 about1 = true := by
  rw [allAtoms_all]
  show words1.all (fun c => c.before args0 about1) = true
  refine all_split ?_ w_codes
  rw [← List.take_append_drop 24 words1, List.all_append, w_t1, ← List.take_append_drop 24 (words1.drop 24), List.all_append, w_t2, ← List.take_append_drop 24 ((words1.drop 24).drop 24), List.all_append, w_t3, ← List.take_append_drop 24 (((words1.drop 24).drop 24).drop 24), List.all_append, w_t4, ← List.take_append_drop 24 ((((words1.drop 24).drop 24).drop 24).drop 24), List.all_append, w_t5, ← List.take_append_drop 24 (((((words1.drop 24).drop 24).drop 24).drop 24).drop 24), List.all_append, w_t6, w_t7]
  rfl
set_option maxRecDepth 65536 in
theorem w_rest : rest_1_c.before args0 about1 = true := by decide +kernel
set_option maxRecDepth 65536 in
theorem w_case : (Jvm.Cond.and given_1 narrow_1).before args0 about1 = true := by decide +kernel
set_option maxRecDepth 65536 in
theorem w_consts : constsHeld consts_1 about1 := Jvm.Lit.constsHeldB_iff.mp (by decide +kernel)
theorem w_applies : (headSpec (Jvm.Cond.code x code maxLocals ret :: tables_1) room_1).applies x e0.platform about1 = true :=
  (Spec.applies_iff w_frames).mpr ⟨w_running, w_runnable, w_alone, w_named, w_hears, w_ripe, w_room, w_tables⟩
theorem atStart : AtStart classFile x code maxLocals ret World_1 tables_1 room_1 Calls_1 rest_1 Pre_1 launch0 p0 e0 about1 theMethod args0 below0 :=
  ⟨lists_1, trivial, launch0.admits_env _ _ _, launch0.least_env, fairChoices_fair.cas, fairChoices_fair.clock, w_frames, w_args, w_heap, w_applies, ⟨w_consts, trivial⟩, w_rest, w_case⟩
end start1
theorem witness_1 : WitnessClaimed_1 := ⟨start1.p0, start1.e0, start1.about1, start1.theMethod, start1.args0, start1.below0, start1.atStart⟩
end Jvm.Pilot.@@N@@
