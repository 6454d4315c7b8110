import JvmDerived
import JvmDerived.Pilot.@@N@@Statement
import JvmDerived.Pilot.@@N@@Code
set_option linter.unusedVariables false
set_option linter.unusedSimpArgs false
/- laws to paste: Road.backV, Road.empW, Road.codOf (cut by pick.py; bodies as the Statement names them) -/
namespace Jvm.Pilot.@@N@@
namespace StrChars
open Jvm Sem ClassFile Op Lib Jvm.Stand Jvm.Free.XT Jvm.Free.ALB Jvm.Free.JM Jvm.Free
open Jvm.Lib.Cold (StaticIs)
/-- a char array whose places are chars -/
def Ch (a : Addr) (A : Cell) (U : State) : Prop := Arr .char a A U ∧ Typed .char A
theorem Ch.mv {a : Addr} {A : Cell} {U U' : State} (h : Ch a A U) (hal : U.vm.Alike U'.vm) (hh : U'.heap = U.heap) : Ch a A U' := ⟨h.1.mv hal hh, h.2⟩
theorem Ch.keep {a : Addr} {A : Cell} {U U' : State} (h : Ch a A U) (hal : U.vm.Alike U'.vm) (hk : U'.heap[a]? = some A) : Ch a A U' := ⟨h.1.keep hal hk, h.2⟩
/-- what place i of a char[]'s cell holds -/
def cv (A : Cell) (i : Nat) : Int32 := match A.slots[i]? with | some (.int x) => x | _ => 0
theorem Ch.get {a : Addr} {A : Cell} {U : State} (h : Ch a A U) {i : Nat} (hi : i < A.slots.size) : A.slots[i]? = some (.int (cv A i)) := by
  have e := Array.getElem?_eq_getElem hi
  have f := h.2 i _ e
  unfold cv; rw [e]
  generalize A.slots[i] = v at f
  cases v <;> simp [fits] at f ⊢
/-- the byte that i2b leaves of a char -/
def lo8 (x : Int32) : Int32 := x.toInt8.toInt32
theorem fits_lo8 (y : Int32) : fits .byte (.int (lo8 y)) = true := by
  have h1 := y.toInt8.le_toInt
  have h2 := y.toInt8.toInt_lt
  simp only [lo8, fits, Bool.and_eq_true, decide_eq_true_eq, Int32.le_iff_toInt_le, Int8.toInt_toInt32, show (-128 : Int32).toInt = -128 from by decide, show (127 : Int32).toInt = 127 from by decide]
  omega
/-- A' is A but that each place j of lo .. hi - 1 holds f j -/
def Laid (A A' : Cell) (lo hi : Nat) (f : Nat → Value) : Prop := A'.cls = A.cls ∧ A'.vm = A.vm ∧ A'.slots.size = A.slots.size ∧ ∀ i, A'.slots[i]? = if lo ≤ i ∧ i < hi then some (f i) else A.slots[i]?
theorem Laid.zero (A : Cell) (lo : Nat) (f : Nat → Value) : Laid A A lo (lo + 0) f := ⟨rfl, rfl, rfl, fun i => by rw [if_neg (by omega)]⟩
theorem Laid.step {A Ak : Cell} {lo k : Nat} {f : Nat → Value} {v : Value} (h : Laid A Ak lo k f) (hlo : lo ≤ k) (hk : k < Ak.slots.size) (hv : v = f k) : Laid A (Ak.setSlot k v) lo (k + 1) f := by
  refine ⟨h.1, h.2.1, by simpa [Cell.setSlot] using h.2.2.1, fun i => ?_⟩
  by_cases e : k = i
  · subst e; rw [Cell.slots_setSlot_self v hk, if_pos (by omega), hv]
  · rw [Cell.slots_setSlot_ne v e, h.2.2.2 i]
    by_cases q : lo ≤ i ∧ i < k
    · rw [if_pos q, if_pos (by omega)]
    · rw [if_neg q, if_neg (by omega)]
def U16 : String := "java/lang/StringUTF16"
namespace Cmp5
def yN : MethodName := ⟨"java/lang/StringUTF16", "compress", "([CI[BII)I"⟩
abbrev yB : ByteArray := jdk_52_method_21_code
theorem d0 : decode yB 0 = .ok (.iconst 0, 1) := by decide +kernel
theorem d1 : decode yB 1 = .ok (.istore 5, 2) := by decide +kernel
theorem d3 : decode yB 3 = .ok (.iload 5, 2) := by decide +kernel
theorem d5 : decode yB 5 = .ok (.iload 4, 2) := by decide +kernel
theorem d7 : decode yB 7 = .ok (.if_icmp (.ge) 37, 3) := by decide +kernel
theorem d10 : decode yB 10 = .ok (.aload_n 0, 1) := by decide +kernel
theorem d11 : decode yB 11 = .ok (.iload_n 1, 1) := by decide +kernel
theorem d12 : decode yB 12 = .ok (.caload, 1) := by decide +kernel
theorem d13 : decode yB 13 = .ok (.istore 6, 2) := by decide +kernel
theorem d15 : decode yB 15 = .ok (.iload 6, 2) := by decide +kernel
theorem d17 : decode yB 17 = .ok (.sipush 255, 3) := by decide +kernel
theorem d20 : decode yB 20 = .ok (.if_icmp (.le) 6, 3) := by decide +kernel
theorem d26 : decode yB 26 = .ok (.aload_n 2, 1) := by decide +kernel
theorem d27 : decode yB 27 = .ok (.iload_n 3, 1) := by decide +kernel
theorem d28 : decode yB 28 = .ok (.iload 6, 2) := by decide +kernel
theorem d30 : decode yB 30 = .ok (.i2b, 1) := by decide +kernel
theorem d31 : decode yB 31 = .ok (.bastore, 1) := by decide +kernel
theorem d32 : decode yB 32 = .ok (.iinc 1 1, 3) := by decide +kernel
theorem d35 : decode yB 35 = .ok (.iinc 3 1, 3) := by decide +kernel
theorem d38 : decode yB 38 = .ok (.iinc 5 1, 3) := by decide +kernel
theorem d41 : decode yB 41 = .ok (.goto (-38), 3) := by decide +kernel
theorem d44 : decode yB 44 = .ok (.iload 4, 2) := by decide +kernel
theorem d46 : decode yB 46 = .ok (.ireturn, 1) := by decide +kernel
def site : List Cond := []
def tab : Cond := tabOf yN yB 7 (some .int) site
def P (b : Addr) (A : Cell) (d : Addr) (B : Cell) (o q len : Nat) (args : Array Value) (s : State) : Prop := args = #[.ref b, .int (Int32.ofNat o), .ref d, .int (Int32.ofNat q), .int (Int32.ofNat len)] ∧ Ch b A s ∧ Arr .byte d B s ∧ b ≠ d ∧ o + len ≤ A.slots.size ∧ q + len ≤ B.slots.size ∧ ∀ i, i < len → ¬ 255 < cv A (o + i)
def E (b : Addr) (A : Cell) (d : Addr) (B : Cell) (o q len : Nat) (r : Option Value) (s u : State) : Prop := r = some (.int (Int32.ofNat len)) ∧ ∃ B', Put d B' s u ∧ Laid B B' q (q + len) (fun j => Value.int (lo8 (cv A (o + (j - q)))))
/-- no char of the range above 255: len; the places written hold each char's low byte -/
theorem law (l : Launch) (b : Addr) (A : Cell) (d : Addr) (B : Cell) (o q len : Nat) : Law l yN 5 5 0 0 yB 7 (some .int) site (P b A d B o q len) (E b A d B o q len) (copyLocs d q len) 0 0 := by
  refine Law.of_walk (plainFor_of_name (by decide +kernel)) (by decide +kernel) (by decide +kernel) (by decide) (fun _ _ h => by rw [h.1]; rfl) (fun _ U U' hal hh h => ⟨h.1, h.2.1.mv hal hh, h.2.2.1.mv hal hh, h.2.2.2⟩) (fun r U U' V V' h1 hal h2 h => ⟨h.1, h.2.elim fun B' q => ⟨B', q.1.mv h1 h2, q.2⟩⟩) ?_
  intro p e s m args below meth c s₁ X0 hexec hbytes hml hret hlk hnm hown hh0 W hP
  obtain ⟨rfl, hA, hB, hne, l1, l2, hp⟩ := hP
  have c1 : Steps p.tables e below (s₁.setTop (entryFrame m #[.ref b, .int (Int32.ofNat o), .ref d, .int (Int32.ofNat q), .int (Int32.ofNat len)] 7)) (s₁.setTop (mkF m 0 #[.val (.ref b), .val (.int (Int32.ofNat o)), .val (.ref d), .val (.int (Int32.ofNat q)), .val (.int (Int32.ofNat len)), .unset, .unset] [])) := entry rfl
  have hA0 := hA.1.mv X0.warmed.alike hh0
  have hB0 := hB.mv X0.warmed.alike hh0
  have a31 := hA.1.2.2.2
  have c2 : Steps p.tables e below (s₁.setTop (entryFrame m #[.ref b, .int (Int32.ofNat o), .ref d, .int (Int32.ofNat q), .int (Int32.ofNat len)] 7)) (s₁.setTop (mkF m 3 #[.val (.ref b), .val (.int (Int32.ofNat o)), .val (.ref d), .val (.int (Int32.ofNat q)), .val (.int (Int32.ofNat len)), .val (.int 0), .unset] [])) := c1.trans (by
    refine iconstV X0.here hexec rfl 0 (hb hbytes d0) (by decide) ?_
    refine XS.istore X0.here hexec rfl (hb hbytes d1) rfl rfl ?_
    exact Steps.refl _)
  have loop : ∀ (r i : Nat), i + r = len → ∀ (z : Slot), (z = .unset ∨ ∃ w, z = .val w ∧ w.category = 1) → ∀ (Tl : State) (Bk : Cell), Stand p l e { frames := 0, locals := 0, cells := 0, slots := 0 } s m #[.ref b, .int (Int32.ofNat o), .ref d, .int (Int32.ofNat q), .int (Int32.ofNat len)] below meth c Tl ([] ++ copyLocs d q i) 0 0 → Put d Bk s₁ Tl → Laid B Bk q (q + i) (fun j => Value.int (lo8 (cv A (o + (j - q))))) →
      Steps p.tables e below (s₁.setTop (entryFrame m #[.ref b, .int (Int32.ofNat o), .ref d, .int (Int32.ofNat q), .int (Int32.ofNat len)] 7)) (Tl.setTop (mkF m 3 #[.val (.ref b), .val (.int (Int32.ofNat (o + i))), .val (.ref d), .val (.int (Int32.ofNat (q + i))), .val (.int (Int32.ofNat len)), .val (.int (Int32.ofNat i)), z] [])) → ∃ (T' : State) (B' : Cell) (z' : Slot), Stand p l e { frames := 0, locals := 0, cells := 0, slots := 0 } s m #[.ref b, .int (Int32.ofNat o), .ref d, .int (Int32.ofNat q), .int (Int32.ofNat len)] below meth c T' ([] ++ copyLocs d q len) 0 0 ∧ Put d B' s₁ T' ∧ Laid B B' q (q + len) (fun j => Value.int (lo8 (cv A (o + (j - q))))) ∧
      Steps p.tables e below (s₁.setTop (entryFrame m #[.ref b, .int (Int32.ofNat o), .ref d, .int (Int32.ofNat q), .int (Int32.ofNat len)] 7)) (T'.setTop (mkF m 3 #[.val (.ref b), .val (.int (Int32.ofNat (o + len))), .val (.ref d), .val (.int (Int32.ofNat (q + len))), .val (.int (Int32.ofNat len)), .val (.int (Int32.ofNat len)), z'] [])) := by
    intro r
    induction r with
    | zero =>
      intro i hi z hz Tl Bk Xl pl fl cl
      have hil : i = len := by omega
      rw [hil] at Xl fl cl
      exact ⟨Tl, Bk, z, Xl, pl, fl, cl⟩
    | succ r ih =>
      intro i hi z hz Tl Bk Xl pl fl cl
      have all := X0.warmed.alike.symm.trans Xl.warmed.alike
      have hAl := hA0.keep all (pl.other hne hA0.1)
      have hBk := hB0.like all pl.1 fl.1 fl.2.1 fl.2.2.1
      have hlt : q + i < Bk.slots.size := by rw [fl.2.2.1]; omega
      have c3 : Steps p.tables e below (s₁.setTop (entryFrame m #[.ref b, .int (Int32.ofNat o), .ref d, .int (Int32.ofNat q), .int (Int32.ofNat len)] 7)) (Tl.setTop (mkF m 12 #[.val (.ref b), .val (.int (Int32.ofNat (o + i))), .val (.ref d), .val (.int (Int32.ofNat (q + i))), .val (.int (Int32.ofNat len)), .val (.int (Int32.ofNat i)), z] [.int (Int32.ofNat (o + i)), .ref b])) := cl.trans (by
        refine XS.iload Xl.here hexec rfl (hb hbytes d3) rfl ?_
        refine XS.iload Xl.here hexec rfl (hb hbytes d5) rfl ?_
        refine XS.icmpNo Xl.here hexec rfl (hb hbytes d7) rfl (ii_ge_f (lt32 (by omega) (by omega))) ?_
        refine XS.aloadN Xl.here hexec rfl (hb hbytes d10) rfl rfl ?_
        refine XS.iloadN Xl.here hexec rfl (hb hbytes d11) rfl ?_
        exact Steps.refl _)
      have c4 : Steps p.tables e below (s₁.setTop (entryFrame m #[.ref b, .int (Int32.ofNat o), .ref d, .int (Int32.ofNat q), .int (Int32.ofNat len)] 7)) (Tl.setTop (mkF m 13 #[.val (.ref b), .val (.int (Int32.ofNat (o + i))), .val (.ref d), .val (.int (Int32.ofNat (q + i))), .val (.int (Int32.ofNat len)), .val (.int (Int32.ofNat i)), z] [.int (cv A (o + i))])) := c3.trans (by
        refine Xl.aget hexec hAl rfl (hA.get (i := o + i) (by omega)) rfl rfl (hb hbytes d12) ?_
        exact Steps.refl _)
      have c5 : Steps p.tables e below (s₁.setTop (entryFrame m #[.ref b, .int (Int32.ofNat o), .ref d, .int (Int32.ofNat q), .int (Int32.ofNat len)] 7)) (Tl.setTop (mkF m 15 #[.val (.ref b), .val (.int (Int32.ofNat (o + i))), .val (.ref d), .val (.int (Int32.ofNat (q + i))), .val (.int (Int32.ofNat len)), .val (.int (Int32.ofNat i)), .val (.int (cv A (o + i)))] [])) := c4.trans (by
        refine XS.istoreS Xl.here hexec rfl (hb hbytes d13) rfl rfl hz ?_
        exact Steps.refl _)
      have c6 : Steps p.tables e below (s₁.setTop (entryFrame m #[.ref b, .int (Int32.ofNat o), .ref d, .int (Int32.ofNat q), .int (Int32.ofNat len)] 7)) (Tl.setTop (mkF m 31 #[.val (.ref b), .val (.int (Int32.ofNat (o + i))), .val (.ref d), .val (.int (Int32.ofNat (q + i))), .val (.int (Int32.ofNat len)), .val (.int (Int32.ofNat i)), .val (.int (cv A (o + i)))] [.int (lo8 (cv A (o + i))), .int (Int32.ofNat (q + i)), .ref d])) := c5.trans (by
        refine XS.iload Xl.here hexec rfl (hb hbytes d15) rfl ?_
        refine sipushV Xl.here hexec rfl 255 (hb hbytes d17) (by decide) ?_
        refine XS.icmpYes Xl.here hexec rfl (pc0 := 20) rfl (hb hbytes d20) rfl (ii_le_t (hp i (by omega))) (by decide) rfl ?_
        refine XS.aloadN Xl.here hexec rfl (hb hbytes d26) rfl rfl ?_
        refine XS.iloadN Xl.here hexec rfl (hb hbytes d27) rfl ?_
        refine XS.iload Xl.here hexec rfl (hb hbytes d28) rfl ?_
        refine i2b Xl.here hexec rfl (hb hbytes d30) rfl ?_
        exact Steps.refl _)
      obtain ⟨T7, X7, p7, st7⟩ := Xl.aput hexec hBk rfl hlt rfl (fits_lo8 (cv A (o + i))) (g := (mkF m 31 #[.val (.ref b), .val (.int (Int32.ofNat (o + i))), .val (.ref d), .val (.int (Int32.ofNat (q + i))), .val (.int (Int32.ofNat len)), .val (.int (Int32.ofNat i)), .val (.int (cv A (o + i)))] [.int (lo8 (cv A (o + i))), .int (Int32.ofNat (q + i)), .ref d])) rfl (rest := []) rfl (hb hbytes d31)
      have c8 : Steps p.tables e below (s₁.setTop (entryFrame m #[.ref b, .int (Int32.ofNat o), .ref d, .int (Int32.ofNat q), .int (Int32.ofNat len)] 7)) (T7.setTop (mkF m 32 #[.val (.ref b), .val (.int (Int32.ofNat (o + i))), .val (.ref d), .val (.int (Int32.ofNat (q + i))), .val (.int (Int32.ofNat len)), .val (.int (Int32.ofNat i)), .val (.int (cv A (o + i)))] [])) := c6.trans (st7 _ (Steps.refl _))
      have c9 : Steps p.tables e below (s₁.setTop (entryFrame m #[.ref b, .int (Int32.ofNat o), .ref d, .int (Int32.ofNat q), .int (Int32.ofNat len)] 7)) (T7.setTop (mkF m 3 #[.val (.ref b), .val (.int (Int32.ofNat (o + i) + 1)), .val (.ref d), .val (.int (Int32.ofNat (q + i) + 1)), .val (.int (Int32.ofNat len)), .val (.int (Int32.ofNat i + 1)), .val (.int (cv A (o + i)))] [])) := c8.trans (by
        refine iincV X7.here hexec rfl 1 (hb hbytes d32) (by decide) rfl rfl ?_
        refine iincV X7.here hexec rfl 1 (hb hbytes d35) (by decide) rfl rfl ?_
        refine iincV X7.here hexec rfl 1 (hb hbytes d38) (by decide) rfl rfl ?_
        refine XS.goto X7.here hexec rfl (pc0 := 41) rfl (hb hbytes d41) (by decide) rfl ?_
        exact Steps.refl _)
      have c10 : Steps p.tables e below (s₁.setTop (entryFrame m #[.ref b, .int (Int32.ofNat o), .ref d, .int (Int32.ofNat q), .int (Int32.ofNat len)] 7)) (T7.setTop (mkF m 3 #[.val (.ref b), .val (.int (Int32.ofNat (o + (i + 1)))), .val (.ref d), .val (.int (Int32.ofNat (q + (i + 1)))), .val (.int (Int32.ofNat len)), .val (.int (Int32.ofNat (i + 1))), .val (.int (cv A (o + i)))] [])) := by
        have := c9
        rw [succ32, succ32, succ32] at this
        exact this
      exact ih (i + 1) (by omega) _ (Or.inr ⟨_, rfl, rfl⟩) T7 _ (by rw [copyLocs_step, ← List.append_assoc]; exact X7) (pl.trans p7) (fl.step (by omega) hlt (by simp)) c10
  obtain ⟨T9, B9, z9, X9, p9, f9, g9⟩ := loop len 0 (by omega) .unset (Or.inl rfl) s₁ B (by simpa [copyLocs] using X0) ⟨hB0.1, fun _ _ => rfl, rfl⟩ (Laid.zero _ _ _) c2
  have c11 : Steps p.tables e below (s₁.setTop (entryFrame m #[.ref b, .int (Int32.ofNat o), .ref d, .int (Int32.ofNat q), .int (Int32.ofNat len)] 7)) (T9.setTop (mkF m 46 #[.val (.ref b), .val (.int (Int32.ofNat (o + len))), .val (.ref d), .val (.int (Int32.ofNat (q + len))), .val (.int (Int32.ofNat len)), .val (.int (Int32.ofNat len)), z9] [.int (Int32.ofNat len)])) := g9.trans (by
    refine XS.iload X9.here hexec rfl (hb hbytes d3) rfl ?_
    refine XS.iload X9.here hexec rfl (hb hbytes d5) rfl ?_
    refine XS.icmpYes X9.here hexec rfl (pc0 := 7) rfl (hb hbytes d7) rfl (ii_ge_t (nlt32 (by omega) (Nat.le_refl _))) (by decide) rfl ?_
    refine XS.iload X9.here hexec rfl (hb hbytes d44) rfl ?_
    exact Steps.refl _)
  exact ⟨T9, some (.int (Int32.ofNat len)), _, _, _, X9, by simp, rfl, rfl, (fun h => by cases h), ⟨rfl, B9, p9.from hh0, f9⟩, fun fs hl => c11.trans (X9.ireturnOut hexec hret rfl (Or.inl rfl) (hb hbytes d46) hl)⟩
end Cmp5
namespace Cmp3
def yN : MethodName := ⟨"java/lang/StringUTF16", "compress", "([CII)[B"⟩
abbrev yB : ByteArray := jdk_52_method_16_code
theorem d0 : decode yB 0 = .ok (.iload_n 2, 1) := by decide +kernel
theorem d1 : decode yB 1 = .ok (.newarray .byte, 2) := by decide +kernel
theorem d3 : decode yB 3 = .ok (.astore_n 3, 1) := by decide +kernel
theorem d4 : decode yB 4 = .ok (.aload_n 0, 1) := by decide +kernel
theorem d5 : decode yB 5 = .ok (.iload_n 1, 1) := by decide +kernel
theorem d6 : decode yB 6 = .ok (.aload_n 3, 1) := by decide +kernel
theorem d7 : decode yB 7 = .ok (.iconst 0, 1) := by decide +kernel
theorem d8 : decode yB 8 = .ok (.iload_n 2, 1) := by decide +kernel
theorem d9 : decode yB 9 = .ok (.invokestatic 115, 3) := by decide +kernel
theorem d12 : decode yB 12 = .ok (.istore 4, 2) := by decide +kernel
theorem d14 : decode yB 14 = .ok (.iload 4, 2) := by decide +kernel
theorem d16 : decode yB 16 = .ok (.iload_n 2, 1) := by decide +kernel
theorem d17 : decode yB 17 = .ok (.if_icmp (.eq) 40, 3) := by decide +kernel
theorem d57 : decode yB 57 = .ok (.aload_n 3, 1) := by decide +kernel
theorem d58 : decode yB 58 = .ok (.areturn, 1) := by decide +kernel
def site : List Cond := [.arrayClass .byte, Cmp5.tab] ++ staticW U16 115 Cmp5.yN
def tab : Cond := tabOf yN yB 6 (some (.array .byte)) site
def P (b : Addr) (A : Cell) (o len : Nat) (args : Array Value) (s : State) : Prop := args = #[.ref b, .int (Int32.ofNat o), .int (Int32.ofNat len)] ∧ Ch b A s ∧ o + len ≤ A.slots.size ∧ len ≤ 536870912 ∧ ∀ i, i < len → ¬ 255 < cv A (o + i)
def E (b : Addr) (A : Cell) (o len : Nat) (r : Option Value) (s u : State) : Prop := NewArr .byte "[B" len (fun j => .int (lo8 (cv A (o + j)))) r s u ∧ u.heap.size = s.heap.size + 1
/-- no char of the range above 255: a new byte[] of their low bytes -/
theorem law (l : Launch) (b : Addr) (A : Cell) (o len : Nat) : Law l yN 3 3 1 18 yB 6 (some (.array .byte)) site (P b A o len) (E b A o len) [] 1 len := by
  refine Law.of_walk (plainFor_of_name (by decide +kernel)) (by decide +kernel) (by decide +kernel) (by decide) (fun _ _ h => by rw [h.1]; rfl) (fun _ U U' hal hh h => ⟨h.1, h.2.1.mv hal hh, h.2.2⟩) (fun r U U' V V' h1 hal h2 h => ⟨NewArr.mv r U U' V V' h1 hal h2 h.1, by rw [h1, h2]; exact h.2⟩) ?_
  intro p e s m args below meth c s₁ X0 hexec hbytes hml hret hlk hnm hown hh0 W hP
  obtain ⟨rfl, hA, l1, l2, hp⟩ := hP
  have a31 := hA.1.2.2.2
  have c1 : Steps p.tables e below (s₁.setTop (entryFrame m #[.ref b, .int (Int32.ofNat o), .int (Int32.ofNat len)] 6)) (s₁.setTop (mkF m 0 #[.val (.ref b), .val (.int (Int32.ofNat o)), .val (.int (Int32.ofNat len)), .unset, .unset, .unset] [])) := entry rfl
  have c2 : Steps p.tables e below (s₁.setTop (entryFrame m #[.ref b, .int (Int32.ofNat o), .int (Int32.ofNat len)] 6)) (s₁.setTop (mkF m 1 #[.val (.ref b), .val (.int (Int32.ofNat o)), .val (.int (Int32.ofNat len)), .unset, .unset, .unset] [.int (Int32.ofNat len)])) := c1.trans (by
    refine XS.iloadN X0.here hexec rfl (hb hbytes d0) rfl ?_
    exact Steps.refl _)
  obtain ⟨T3, B3, X3, ba3, bs3, bv3, bh3, bf3, st3⟩ := X0.anew hexec (atype := .byte) (wk W (.arrayClass .byte)) rfl (by show len * 1 ≤ _; omega) (by omega) (g := (mkF m 1 #[.val (.ref b), .val (.int (Int32.ofNat o)), .val (.int (Int32.ofNat len)), .unset, .unset, .unset] [.int (Int32.ofNat len)])) rfl (hb hbytes d1) (rest := []) rfl (Nat.le_refl _) (by show 0 + len ≤ len; omega)
  rw [hh0] at ba3 st3
  have kp3 : XT.Kept s T3 := (XT.Kept.of_eq hh0).push bh3
  have hA3 := hA.keep X3.warmed.alike (kp3 _ _ hA.1.1)
  have hne : b ≠ s.heap.size := hA.1.ne
  have c4 : Steps p.tables e below (s₁.setTop (entryFrame m #[.ref b, .int (Int32.ofNat o), .int (Int32.ofNat len)] 6)) (T3.setTop (mkF m 3 #[.val (.ref b), .val (.int (Int32.ofNat o)), .val (.int (Int32.ofNat len)), .unset, .unset, .unset] [.ref s.heap.size])) := c2.trans (st3 _ (Steps.refl _))
  have c5 : Steps p.tables e below (s₁.setTop (entryFrame m #[.ref b, .int (Int32.ofNat o), .int (Int32.ofNat len)] 6)) (T3.setTop (mkF m 9 #[.val (.ref b), .val (.int (Int32.ofNat o)), .val (.int (Int32.ofNat len)), .val (.ref s.heap.size), .unset, .unset] [.int (Int32.ofNat len), .int 0, .ref s.heap.size, .int (Int32.ofNat o), .ref b])) := c4.trans (by
    refine XS.astoreN X3.here hexec rfl (hb hbytes d3) rfl rfl rfl ?_
    refine XS.aloadN X3.here hexec rfl (hb hbytes d4) rfl rfl ?_
    refine XS.iloadN X3.here hexec rfl (hb hbytes d5) rfl ?_
    refine XS.aloadN X3.here hexec rfl (hb hbytes d6) rfl rfl ?_
    refine iconstV X3.here hexec rfl 0 (hb hbytes d7) (by decide) ?_
    refine XS.iloadN X3.here hexec rfl (hb hbytes d8) rfl ?_
    exact Steps.refl _)
  obtain ⟨v6, T6, X6, E6, g6⟩ := X3.callS hexec (Cmp5.law l b A s.heap.size B3 o 0 len) hown (wks W (staticW U16 115 Cmp5.yN)) (wk W Cmp5.tab) (W := 0) (Nat.le_of_ble_eq_true rfl) (Nat.le_of_ble_eq_true rfl) (Nat.le_refl _) (by show 0 + len + 0 ≤ len; omega) (g := (mkF m 9 #[.val (.ref b), .val (.int (Int32.ofNat o)), .val (.int (Int32.ofNat len)), .val (.ref s.heap.size), .unset, .unset] [.int (Int32.ofNat len), .int (Int32.ofNat 0), .ref s.heap.size, .int (Int32.ofNat o), .ref b])) rfl (by rw [hml]; rfl) c5 (argsL := [.ref b, .int (Int32.ofNat o), .ref s.heap.size, .int (Int32.ofNat 0), .int (Int32.ofNat len)]) (rest := []) rfl rfl (by show 2 * 0 + 0 ≤ _; decide) (hb hbytes d9) (⟨rfl, hA3, ba3, hne, l1, by rw [bs3]; simp, hp⟩)
  obtain ⟨rfl, B6, p6, f6⟩ := E6
  have c7 : Steps p.tables e below (s₁.setTop (entryFrame m #[.ref b, .int (Int32.ofNat o), .int (Int32.ofNat len)] 6)) (T6.setTop (mkF m 12 #[.val (.ref b), .val (.int (Int32.ofNat o)), .val (.int (Int32.ofNat len)), .val (.ref s.heap.size), .unset, .unset] [.int (Int32.ofNat len)])) := g6
  have c8 : Steps p.tables e below (s₁.setTop (entryFrame m #[.ref b, .int (Int32.ofNat o), .int (Int32.ofNat len)] 6)) (T6.setTop (mkF m 58 #[.val (.ref b), .val (.int (Int32.ofNat o)), .val (.int (Int32.ofNat len)), .val (.ref s.heap.size), .val (.int (Int32.ofNat len)), .unset] [.ref s.heap.size])) := c7.trans (by
    refine XS.istore X6.here hexec rfl (hb hbytes d12) rfl rfl ?_
    refine XS.iload X6.here hexec rfl (hb hbytes d14) rfl ?_
    refine XS.iloadN X6.here hexec rfl (hb hbytes d16) rfl ?_
    refine XS.icmpYes X6.here hexec rfl (pc0 := 17) rfl (hb hbytes d17) rfl (ii_eq_t rfl) (by decide) rfl ?_
    refine XS.aloadN X6.here hexec rfl (hb hbytes d57) rfl rfl ?_
    exact Steps.refl _)
  have X8 := X6.wide (L' := []) (cells' := 1) (slots' := len) (fun x hx hlt => by
    simp only [List.nil_append, copyLocs, List.mem_map, List.mem_range] at hx
    obtain ⟨i, -, rfl⟩ := hx
    exact absurd hlt (Nat.lt_irrefl _)) (Nat.le_refl _) (by omega)
  exact ⟨T6, some (.ref s.heap.size), _, _, _, X8, rfl, rfl, rfl, (fun h => by cases h), ⟨⟨rfl, B6, ba3.like (X3.warmed.alike.symm.trans X6.warmed.alike) p6.1 f6.1 f6.2.1 f6.2.2.1, f6.2.1.trans bv3, by rw [X6.warmed.alike.findClass, f6.1]; exact bf3, by rw [f6.2.2.1, bs3]; simp, fun j hj => by rw [f6.2.2.2 j, if_pos (by omega)]; rfl, kp3.put p6 (Nat.le_refl _)⟩, by rw [p6.2.2, bh3, hh0]; simp⟩, fun fs hl => c8.trans (X8.areturnOut hexec rfl hret rfl (hb hbytes d58) hl)⟩
end Cmp3
namespace CodL
def yN : MethodName := ⟨"java/lang/StringUTF16", "coderFromArrayLen", "([BI)B"⟩
abbrev yB : ByteArray := jdk_52_method_15_code
theorem d0 : decode yB 0 = .ok (.iload_n 1, 1) := by decide +kernel
theorem d1 : decode yB 1 = .ok (.aload_n 0, 1) := by decide +kernel
theorem d2 : decode yB 2 = .ok (.arraylength, 1) := by decide +kernel
theorem d3 : decode yB 3 = .ok (.isub, 1) := by decide +kernel
theorem d4 : decode yB 4 = .ok (.bipush 31, 2) := by decide +kernel
theorem d6 : decode yB 6 = .ok (.iushr, 1) := by decide +kernel
theorem d7 : decode yB 7 = .ok (.i2b, 1) := by decide +kernel
theorem d8 : decode yB 8 = .ok (.ireturn, 1) := by decide +kernel
def site : List Cond := []
def tab : Cond := tabOf yN yB 2 (some .byte) site
def P (d : Addr) (B : Cell) (args : Array Value) (s : State) : Prop := args = #[.ref d, .int (Int32.ofNat B.slots.size)] ∧ Arr .byte d B s
def E (r : Option Value) (s u : State) : Prop := XT.PureE (some (.int 0)) r s u
/-- an array as long as the number of chars: LATIN1 -/
theorem law (l : Launch) (d : Addr) (B : Cell) : Law l yN 2 2 0 0 yB 2 (some .byte) site (P d B) E [] 0 0 := by
  refine Law.of_walk (plainFor_of_name (by decide +kernel)) (by decide +kernel) (by decide +kernel) (by decide) (fun _ _ h => by rw [h.1]; rfl) (fun _ U U' hal hh h => ⟨h.1, h.2.mv hal hh⟩) (fun r U U' V V' h1 hal h2 h => XT.PureE.mv r U U' V V' h1 hal h2 h) ?_
  intro p e s m args below meth c s₁ X0 hexec hbytes hml hret hlk hnm hown hh0 W hP
  obtain ⟨rfl, hB⟩ := hP
  have hB0 := hB.mv X0.warmed.alike hh0
  have c1 : Steps p.tables e below (s₁.setTop (entryFrame m #[.ref d, .int (Int32.ofNat B.slots.size)] 2)) (s₁.setTop (mkF m 0 #[.val (.ref d), .val (.int (Int32.ofNat B.slots.size))] [])) := entry rfl
  have c2 : Steps p.tables e below (s₁.setTop (entryFrame m #[.ref d, .int (Int32.ofNat B.slots.size)] 2)) (s₁.setTop (mkF m 2 #[.val (.ref d), .val (.int (Int32.ofNat B.slots.size))] [.ref d, .int (Int32.ofNat B.slots.size)])) := c1.trans (by
    refine XS.iloadN X0.here hexec rfl (hb hbytes d0) rfl ?_
    refine XS.aloadN X0.here hexec rfl (hb hbytes d1) rfl rfl ?_
    exact Steps.refl _)
  have c3 : Steps p.tables e below (s₁.setTop (entryFrame m #[.ref d, .int (Int32.ofNat B.slots.size)] 2)) (s₁.setTop (mkF m 8 #[.val (.ref d), .val (.int (Int32.ofNat B.slots.size))] [.int (lo8 (ushr (Int32.ofNat B.slots.size - Int32.ofNat B.slots.size) 31))])) := c2.trans (by
    refine X0.alen hexec hB0 rfl rfl (hb hbytes d2) ?_
    refine XS.isub X0.here hexec rfl (hb hbytes d3) rfl ?_
    refine bipushV X0.here hexec rfl 31 (hb hbytes d4) (by decide) ?_
    refine iushr X0.here hexec rfl (hb hbytes d6) rfl ?_
    refine i2b X0.here hexec rfl (hb hbytes d7) rfl ?_
    exact Steps.refl _)
  have e0 : lo8 (ushr (Int32.ofNat B.slots.size - Int32.ofNat B.slots.size) 31) = 0 := by rw [Int32.sub_self]; decide
  rw [e0] at c3
  exact ⟨s₁, some (.int 0), _, _, _, X0, rfl, rfl, rfl, (fun h => by cases h), ⟨rfl, hh0⟩, fun fs hl => c3.trans (X0.ireturnOut hexec hret rfl (Or.inr (Or.inr (Or.inl rfl))) (hb hbytes d8) hl)⟩
end CodL
/-- the String at a is Latin-1 over a new byte[] (the heap's one new cell): the low bytes of the len chars of A from o on; every cell but a is kept -/
def Got (a : Addr) (D : Cell) (fV fC : Field) (A : Cell) (o len : Nat) (r : Option Value) (s u : State) : Prop := r = none ∧ ∃ D' V : Cell, Blank "java/lang/String" a D' u ∧ Same D D' [fV.slot, fC.slot] ∧ D'.slots[fV.slot]? = some (.ref s.heap.size) ∧ D'.slots[fC.slot]? = some (.int 0) ∧ Arr .byte s.heap.size V u ∧ V.vm = .none ∧ u.vm.findClass "[B" = some V.cls ∧ V.slots.size = len ∧ (∀ j, j < len → V.slots[j]? = some (.int (lo8 (cv A (o + j))))) ∧ (∀ (y : Addr) (c : Cell), y ≠ a → s.heap[y]? = some c → u.heap[y]? = some c) ∧ u.heap.size = s.heap.size + 1
theorem Got.mv {a : Addr} {D A : Cell} {fV fC : Field} {o len : Nat} : ∀ r (U U' V V' : State), U'.heap = U.heap → V.vm.Alike V'.vm → V'.heap = V.heap → Got a D fV fC A o len r U V → Got a D fV fC A o len r U' V' :=
  fun r U U' V V' h1 hal h2 ⟨e0, D', X, a1, a2, a3, a4, a5, a6, a7, a8, a9, a10, a11⟩ => ⟨e0, D', X, a1.mv hal h2, a2, by rw [h1]; exact a3, a4, by rw [h1]; exact a5.mv hal h2, a6, by rw [hal.findClass]; exact a7, a8, a9, by rw [h1, h2]; exact a10, by rw [h1, h2]; exact a11⟩
namespace New4
def yN : MethodName := ⟨"java/lang/String", "<init>", "([CIILjava/lang/Void;)V"⟩
abbrev yB : ByteArray := jdk_42_method_149_code
theorem d0 : decode yB 0 = .ok (.aload_n 0, 1) := by decide +kernel
theorem d1 : decode yB 1 = .ok (.invokespecial 1, 3) := by decide +kernel
theorem d4 : decode yB 4 = .ok (.iload_n 3, 1) := by decide +kernel
theorem d5 : decode yB 5 = .ok (.ifCond (.ne) 22, 3) := by decide +kernel
theorem d27 : decode yB 27 = .ok (.getstatic 38, 3) := by decide +kernel
theorem d30 : decode yB 30 = .ok (.ifCond (.eq) 28, 3) := by decide +kernel
theorem d33 : decode yB 33 = .ok (.aload_n 1, 1) := by decide +kernel
theorem d34 : decode yB 34 = .ok (.iload_n 2, 1) := by decide +kernel
theorem d35 : decode yB 35 = .ok (.iload_n 3, 1) := by decide +kernel
theorem d36 : decode yB 36 = .ok (.invokestatic 177, 3) := by decide +kernel
theorem d39 : decode yB 39 = .ok (.astore 5, 2) := by decide +kernel
theorem d41 : decode yB 41 = .ok (.aload_n 0, 1) := by decide +kernel
theorem d42 : decode yB 42 = .ok (.aload 5, 2) := by decide +kernel
theorem d44 : decode yB 44 = .ok (.iload_n 3, 1) := by decide +kernel
theorem d45 : decode yB 45 = .ok (.invokestatic 47, 3) := by decide +kernel
theorem d48 : decode yB 48 = .ok (.putfield 15, 3) := by decide +kernel
theorem d51 : decode yB 51 = .ok (.aload_n 0, 1) := by decide +kernel
theorem d52 : decode yB 52 = .ok (.aload 5, 2) := by decide +kernel
theorem d54 : decode yB 54 = .ok (.putfield 9, 3) := by decide +kernel
theorem d57 : decode yB 57 = .ok (.return_, 1) := by decide +kernel
def site : List Cond := [.fieldLink "java/lang/String" 38 "java/lang/String" "COMPACT_STRINGS" "Z", Cmp3.tab, CodL.tab, .laysFinal "java/lang/String" "java/lang/String" "value" "[B", .fieldLink "java/lang/String" 9 "java/lang/String" "value" "[B", .laysFinal "java/lang/String" "java/lang/String" "coder" "B", .fieldLink "java/lang/String" 15 "java/lang/String" "coder" "B"] ++ objW "java/lang/String" 1 ++ staticW "java/lang/String" 177 Cmp3.yN ++ staticW "java/lang/String" 47 CodL.yN
def tab : Cond := tabOf yN yB 6 none site
def P (a : Addr) (D : Cell) (fV fC : Field) (b : Addr) (A : Cell) (z : Int32) (o len : Nat) (args : Array Value) (s : State) : Prop := args = #[.ref a, .ref b, .int (Int32.ofNat o), .int (Int32.ofNat len), .null] ∧ Blank "java/lang/String" a D s ∧ Found "java/lang/String" "value" "[B" fV s ∧ Found "java/lang/String" "coder" "B" fC s ∧ Ch b A s ∧ StaticIs s "java/lang/String" "COMPACT_STRINGS" "Z" (.int z) ∧ ¬ z = 0 ∧ 0 < len ∧ o + len ≤ A.slots.size ∧ len ≤ 536870912 ∧ ∀ i, i < len → ¬ 255 < cv A (o + i)
def E (a : Addr) (D : Cell) (fV fC : Field) (A : Cell) (o len : Nat) (r : Option Value) (s u : State) : Prop := Got a D fV fC A o len r s u
/-- len > 0, no char of the range above 255: a Latin-1 String of their low bytes -/
theorem law (l : Launch) (a : Addr) (D : Cell) (fV fC : Field) (b : Addr) (A : Cell) (z : Int32) (o len : Nat) : Law l yN 5 4 2 35 yB 6 none site (P a D fV fC b A z o len) (E a D fV fC A o len) [⟨a, fC.slot⟩, ⟨a, fV.slot⟩] 1 len := by
  refine Law.of_walk (plainFor_of_name (by decide +kernel)) (by decide +kernel) (by decide +kernel) (by decide) (fun _ _ h => by rw [h.1]; rfl) (fun _ U U' hal hh h => ⟨h.1, h.2.1.mv hal hh, h.2.2.1.al hal, h.2.2.2.1.al hal, h.2.2.2.2.1.mv hal hh, h.2.2.2.2.2.1.there hal hh, h.2.2.2.2.2.2⟩) (fun r U U' V V' h1 hal h2 h => Got.mv r U U' V V' h1 hal h2 h) ?_
  intro p e s m args below meth c s₁ X0 hexec hbytes hml hret hlk hnm hown hh0 W hP
  obtain ⟨rfl, hB, f1, f2, hA, s1, hz, l0, l1, l2, hp⟩ := hP
  have a31 := hA.1.2.2.2
  have c1 : Steps p.tables e below (s₁.setTop (entryFrame m #[.ref a, .ref b, .int (Int32.ofNat o), .int (Int32.ofNat len), .null] 6)) (s₁.setTop (mkF m 0 #[.val (.ref a), .val (.ref b), .val (.int (Int32.ofNat o)), .val (.int (Int32.ofNat len)), .val .null, .unset] [])) := entry rfl
  have c2 : Steps p.tables e below (s₁.setTop (entryFrame m #[.ref a, .ref b, .int (Int32.ofNat o), .int (Int32.ofNat len), .null] 6)) (s₁.setTop (mkF m 1 #[.val (.ref a), .val (.ref b), .val (.int (Int32.ofNat o)), .val (.int (Int32.ofNat len)), .val .null, .unset] [.ref a])) := c1.trans (by
    refine XS.aloadN X0.here hexec rfl (hb hbytes d0) rfl rfl ?_
    exact Steps.refl _)
  obtain ⟨T3, X3, q3, st3⟩ := X0.oinit hexec hown (wks W (objW "java/lang/String" 1)) (g := (mkF m 1 #[.val (.ref a), .val (.ref b), .val (.int (Int32.ofNat o)), .val (.int (Int32.ofNat len)), .val .null, .unset] [.ref a])) rfl (by rw [hml]; rfl) (rest := []) rfl (hb hbytes d1) (W := 0) (by show 2 * 0 + 0 ≤ _; decide) (Nat.le_of_ble_eq_true rfl) (Nat.le_of_ble_eq_true rfl)
  have hh3 := q3.trans hh0
  have c4 : Steps p.tables e below (s₁.setTop (entryFrame m #[.ref a, .ref b, .int (Int32.ofNat o), .int (Int32.ofNat len), .null] 6)) (T3.setTop (mkF m 27 #[.val (.ref a), .val (.ref b), .val (.int (Int32.ofNat o)), .val (.int (Int32.ofNat len)), .val .null, .unset] [])) := (c2.trans (st3 _ (Steps.refl _))).trans (by
    refine XS.iloadN X3.here hexec rfl (hb hbytes d4) rfl ?_
    refine XS.ifYes X3.here hexec rfl (pc0 := 5) rfl (hb hbytes d5) rfl (i0_ne_t (nz32 (by omega) l0)) (by decide) rfl ?_
    exact Steps.refl _)
  obtain ⟨T5, X5, q5, st5⟩ := X3.sget hexec hown (wk W (.fieldLink "java/lang/String" 38 "java/lang/String" "COMPACT_STRINGS" "Z")) s1 (fun _ _ h => by rw [hh3]; exact h) (g := (mkF m 27 #[.val (.ref a), .val (.ref b), .val (.int (Int32.ofNat o)), .val (.int (Int32.ofNat len)), .val .null, .unset] [])) rfl (hb hbytes d27)
  have hh5 := q5.trans hh3
  have c6 : Steps p.tables e below (s₁.setTop (entryFrame m #[.ref a, .ref b, .int (Int32.ofNat o), .int (Int32.ofNat len), .null] 6)) (T5.setTop (mkF m 30 #[.val (.ref a), .val (.ref b), .val (.int (Int32.ofNat o)), .val (.int (Int32.ofNat len)), .val .null, .unset] [.int z])) := c4.trans (st5 _ (Steps.refl _))
  have c7 : Steps p.tables e below (s₁.setTop (entryFrame m #[.ref a, .ref b, .int (Int32.ofNat o), .int (Int32.ofNat len), .null] 6)) (T5.setTop (mkF m 36 #[.val (.ref a), .val (.ref b), .val (.int (Int32.ofNat o)), .val (.int (Int32.ofNat len)), .val .null, .unset] [.int (Int32.ofNat len), .int (Int32.ofNat o), .ref b])) := c6.trans (by
    refine XS.ifNo X5.here hexec rfl (hb hbytes d30) rfl (i0_eq_f hz) ?_
    refine XS.aloadN X5.here hexec rfl (hb hbytes d33) rfl rfl ?_
    refine XS.iloadN X5.here hexec rfl (hb hbytes d34) rfl ?_
    refine XS.iloadN X5.here hexec rfl (hb hbytes d35) rfl ?_
    exact Steps.refl _)
  obtain ⟨v8, T8, X8, E8, g8⟩ := X5.callS hexec (Cmp3.law l b A o len) hown (wks W (staticW "java/lang/String" 177 Cmp3.yN)) (wk W Cmp3.tab) (W := 0) (Nat.le_of_ble_eq_true rfl) (Nat.le_of_ble_eq_true rfl) (Nat.le_refl _) (by show 0 + len ≤ len; omega) (g := (mkF m 36 #[.val (.ref a), .val (.ref b), .val (.int (Int32.ofNat o)), .val (.int (Int32.ofNat len)), .val .null, .unset] [.int (Int32.ofNat len), .int (Int32.ofNat o), .ref b])) rfl (by rw [hml]; rfl) c7 (argsL := [.ref b, .int (Int32.ofNat o), .int (Int32.ofNat len)]) (rest := []) rfl rfl (by show 2 * 0 + 0 ≤ _; decide) (hb hbytes d36) (⟨rfl, hA.mv X5.warmed.alike hh5, l1, l2, hp⟩)
  obtain ⟨e8, z8⟩ := E8
  obtain ⟨rfl, N, n1, n2, n3, n4, n5, n6⟩ := NewArr.mv _ T5 s _ _ hh5.symm (Vm.Alike.refl _) rfl e8
  rw [hh5] at z8
  have hB1 := hB.keep X8.warmed.alike (n6 _ _ hB.1)
  have hne : s.heap.size ≠ a := (Nat.ne_of_lt (Array.getElem?_eq_some_iff.mp hB.1).1).symm
  have c9 : Steps p.tables e below (s₁.setTop (entryFrame m #[.ref a, .ref b, .int (Int32.ofNat o), .int (Int32.ofNat len), .null] 6)) (T8.setTop (mkF m 39 #[.val (.ref a), .val (.ref b), .val (.int (Int32.ofNat o)), .val (.int (Int32.ofNat len)), .val .null, .unset] [.ref s.heap.size])) := g8
  have c10 : Steps p.tables e below (s₁.setTop (entryFrame m #[.ref a, .ref b, .int (Int32.ofNat o), .int (Int32.ofNat len), .null] 6)) (T8.setTop (mkF m 45 #[.val (.ref a), .val (.ref b), .val (.int (Int32.ofNat o)), .val (.int (Int32.ofNat len)), .val .null, .val (.ref s.heap.size)] [.int (Int32.ofNat N.slots.size), .ref s.heap.size, .ref a])) := by
    have hc : Steps p.tables e below (s₁.setTop (entryFrame m #[.ref a, .ref b, .int (Int32.ofNat o), .int (Int32.ofNat len), .null] 6)) (T8.setTop (mkF m 45 #[.val (.ref a), .val (.ref b), .val (.int (Int32.ofNat o)), .val (.int (Int32.ofNat len)), .val .null, .val (.ref s.heap.size)] [.int (Int32.ofNat len), .ref s.heap.size, .ref a])) := c9.trans (by
      refine XS.astore X8.here hexec rfl (hb hbytes d39) rfl rfl rfl ?_
      refine XS.aloadN X8.here hexec rfl (hb hbytes d41) rfl rfl ?_
      refine XS.aload X8.here hexec rfl (hb hbytes d42) rfl rfl ?_
      refine XS.iloadN X8.here hexec rfl (hb hbytes d44) rfl ?_
      exact Steps.refl _)
    rw [n4]; exact hc
  obtain ⟨v11, T11, X11, E11, g11⟩ := X8.callS hexec (CodL.law l s.heap.size N) hown (wks W (staticW "java/lang/String" 47 CodL.yN)) (wk W CodL.tab) (W := 1) (Nat.le_of_ble_eq_true rfl) (Nat.le_of_ble_eq_true rfl) (Nat.le_refl _) (by show 0 + len + 0 ≤ len; omega) (g := (mkF m 45 #[.val (.ref a), .val (.ref b), .val (.int (Int32.ofNat o)), .val (.int (Int32.ofNat len)), .val .null, .val (.ref s.heap.size)] [.int (Int32.ofNat N.slots.size), .ref s.heap.size, .ref a])) rfl (by rw [hml]; rfl) c10 (argsL := [.ref s.heap.size, .int (Int32.ofNat N.slots.size)]) (rest := [.ref a]) rfl rfl (by show 2 * 0 + (1 + 0) ≤ _; decide) (hb hbytes d45) (⟨rfl, n1⟩)
  obtain ⟨rfl, q11⟩ := E11
  have hB11 := hB1.mv (X8.warmed.alike.symm.trans X11.warmed.alike) q11
  have c12 : Steps p.tables e below (s₁.setTop (entryFrame m #[.ref a, .ref b, .int (Int32.ofNat o), .int (Int32.ofNat len), .null] 6)) (T11.setTop (mkF m 48 #[.val (.ref a), .val (.ref b), .val (.int (Int32.ofNat o)), .val (.int (Int32.ofNat len)), .val .null, .val (.ref s.heap.size)] [.int 0, .ref a])) := g11
  obtain ⟨T13, X13, p13, bl13, sl13, st13⟩ := X11.finit hexec hown (wk W (.fieldLink "java/lang/String" 15 "java/lang/String" "coder" "B")) (Or.inr ⟨_, (wk W (.laysFinal "java/lang/String" "java/lang/String" "coder" "B"))⟩) (Or.inl ⟨rfl, hnm⟩) f2 (Or.inl rfl) hB11 (t := .byte) (by decide +kernel) rfl (g := (mkF m 48 #[.val (.ref a), .val (.ref b), .val (.int (Int32.ofNat o)), .val (.int (Int32.ofNat len)), .val .null, .val (.ref s.heap.size)] [.int 0, .ref a])) rfl (rest := []) rfl (hb hbytes d48)
  have c14 : Steps p.tables e below (s₁.setTop (entryFrame m #[.ref a, .ref b, .int (Int32.ofNat o), .int (Int32.ofNat len), .null] 6)) (T13.setTop (mkF m 54 #[.val (.ref a), .val (.ref b), .val (.int (Int32.ofNat o)), .val (.int (Int32.ofNat len)), .val .null, .val (.ref s.heap.size)] [.ref s.heap.size, .ref a])) := (c12.trans (st13 _ (Steps.refl _))).trans (by
    refine XS.aloadN X13.here hexec rfl (hb hbytes d51) rfl rfl ?_
    refine XS.aload X13.here hexec rfl (hb hbytes d52) rfl rfl ?_
    exact Steps.refl _)
  obtain ⟨T15, X15, p15, bl15, sl15, st15⟩ := X13.finit hexec hown (wk W (.fieldLink "java/lang/String" 9 "java/lang/String" "value" "[B")) (Or.inr ⟨_, (wk W (.laysFinal "java/lang/String" "java/lang/String" "value" "[B"))⟩) (Or.inl ⟨rfl, hnm⟩) f1 (Or.inl rfl) bl13 (t := (.array .byte)) (by decide +kernel) rfl (g := (mkF m 54 #[.val (.ref a), .val (.ref b), .val (.int (Int32.ofNat o)), .val (.int (Int32.ofNat len)), .val .null, .val (.ref s.heap.size)] [.ref s.heap.size, .ref a])) rfl (rest := []) rfl (hb hbytes d54)
  have c16 : Steps p.tables e below (s₁.setTop (entryFrame m #[.ref a, .ref b, .int (Int32.ofNat o), .int (Int32.ofNat len), .null] 6)) (T15.setTop (mkF m 57 #[.val (.ref a), .val (.ref b), .val (.int (Int32.ofNat o)), .val (.int (Int32.ofNat len)), .val .null, .val (.ref s.heap.size)] [])) := c14.trans (st15 _ (Steps.refl _))
  have ap := apart (Or.inr ⟨_, (wk W (.laysFinal "java/lang/String" "java/lang/String" "value" "[B"))⟩) (Or.inr ⟨_, (wk W (.laysFinal "java/lang/String" "java/lang/String" "coder" "B"))⟩) f1 f2 (t₁ := .array .byte) (t₂ := .byte) (by decide +kernel) (by decide +kernel) (by decide)
  have al := X8.warmed.alike.symm.trans X15.warmed.alike
  have n7 : T11.heap[s.heap.size]? = some N := by rw [q11]; exact n1.1
  exact ⟨T15, none, _, _, _, X15, by simp, rfl, by omega, (fun _ => rfl), ⟨rfl, _, N, bl15, ((Same.refl D _).set _ (by simp)).set _ (by simp), sl15, (Cell.slots_setSlot_ne _ ap).trans sl13, n1.keep al (p15.other hne (p13.other hne n7)), n2, by rw [al.findClass]; exact n3, n4, n5, fun y c h1 h2 => p15.other h1 (p13.other h1 (by rw [q11]; exact n6 y c h2)), by rw [p15.2.2, p13.2.2, q11]; exact z8⟩, fun fs hl => c16.trans (X15.returnOut hexec hret (hb hbytes d57) hl)⟩
end New4
namespace New1
def yN : MethodName := ⟨"java/lang/String", "<init>", "([C)V"⟩
abbrev yB : ByteArray := jdk_42_method_3_code
theorem d0 : decode yB 0 = .ok (.aload_n 0, 1) := by decide +kernel
theorem d1 : decode yB 1 = .ok (.aload_n 1, 1) := by decide +kernel
theorem d2 : decode yB 2 = .ok (.iconst 0, 1) := by decide +kernel
theorem d3 : decode yB 3 = .ok (.aload_n 1, 1) := by decide +kernel
theorem d4 : decode yB 4 = .ok (.arraylength, 1) := by decide +kernel
theorem d5 : decode yB 5 = .ok (.aconst_null, 1) := by decide +kernel
theorem d6 : decode yB 6 = .ok (.invokespecial 27, 3) := by decide +kernel
theorem d9 : decode yB 9 = .ok (.return_, 1) := by decide +kernel
def site : List Cond := [New4.tab] ++ initW "java/lang/String" 27 New4.yN
def tab : Cond := tabOf yN yB 2 none site
def P (a : Addr) (D : Cell) (fV fC : Field) (b : Addr) (A : Cell) (z : Int32) (args : Array Value) (s : State) : Prop := args = #[.ref a, .ref b] ∧ Blank "java/lang/String" a D s ∧ Found "java/lang/String" "value" "[B" fV s ∧ Found "java/lang/String" "coder" "B" fC s ∧ Ch b A s ∧ StaticIs s "java/lang/String" "COMPACT_STRINGS" "Z" (.int z) ∧ ¬ z = 0 ∧ 0 < A.slots.size ∧ A.slots.size ≤ 536870912 ∧ ∀ i, i < A.slots.size → ¬ 255 < cv A i
def E (a : Addr) (D : Cell) (fV fC : Field) (A : Cell) (r : Option Value) (s u : State) : Prop := Got a D fV fC A 0 A.slots.size r s u
/-- new String(chars), not empty, no char above 255: a Latin-1 String of their low bytes -/
theorem law (l : Launch) (a : Addr) (D : Cell) (fV fC : Field) (b : Addr) (A : Cell) (z : Int32) : Law l yN 2 1 3 52 yB 2 none site (P a D fV fC b A z) (E a D fV fC A) [⟨a, fC.slot⟩, ⟨a, fV.slot⟩] 1 A.slots.size := by
  refine Law.of_walk (plainFor_of_name (by decide +kernel)) (by decide +kernel) (by decide +kernel) (by decide) (fun _ _ h => by rw [h.1]; rfl) (fun _ U U' hal hh h => ⟨h.1, h.2.1.mv hal hh, h.2.2.1.al hal, h.2.2.2.1.al hal, h.2.2.2.2.1.mv hal hh, h.2.2.2.2.2.1.there hal hh, h.2.2.2.2.2.2⟩) (fun r U U' V V' h1 hal h2 h => Got.mv r U U' V V' h1 hal h2 h) ?_
  intro p e s m args below meth c s₁ X0 hexec hbytes hml hret hlk hnm hown hh0 W hP
  obtain ⟨rfl, hB, f1, f2, hA, s1, hz, l0, l2, hp⟩ := hP
  have c1 : Steps p.tables e below (s₁.setTop (entryFrame m #[.ref a, .ref b] 2)) (s₁.setTop (mkF m 0 #[.val (.ref a), .val (.ref b)] [])) := entry rfl
  have c2 : Steps p.tables e below (s₁.setTop (entryFrame m #[.ref a, .ref b] 2)) (s₁.setTop (mkF m 6 #[.val (.ref a), .val (.ref b)] [.null, .int (Int32.ofNat A.slots.size), .int 0, .ref b, .ref a])) := c1.trans (by
    refine XS.aloadN X0.here hexec rfl (hb hbytes d0) rfl rfl ?_
    refine XS.aloadN X0.here hexec rfl (hb hbytes d1) rfl rfl ?_
    refine iconstV X0.here hexec rfl 0 (hb hbytes d2) (by decide) ?_
    refine XS.aloadN X0.here hexec rfl (hb hbytes d3) rfl rfl ?_
    refine X0.alen hexec (hA.1.mv X0.warmed.alike hh0) rfl rfl (hb hbytes d4) ?_
    refine XS.aconstNull X0.here hexec rfl (hb hbytes d5) ?_
    exact Steps.refl _)
  obtain ⟨v3, T3, X3, E3, g3⟩ := X0.callN hexec (New4.law l a D fV fC b A z 0 A.slots.size) rfl hown (wks W (initW "java/lang/String" 27 New4.yN)) (W New4.tab (by simp only [site, List.mem_cons, List.mem_append, true_or, or_true])) (W := 0) (Nat.le_of_ble_eq_true rfl) (Nat.le_of_ble_eq_true rfl) (Nat.le_refl _) (by show 0 + A.slots.size ≤ A.slots.size; omega) (g := (mkF m 6 #[.val (.ref a), .val (.ref b)] [.null, .int (Int32.ofNat A.slots.size), .int (Int32.ofNat 0), .ref b, .ref a])) rfl (by rw [hml]; rfl) c2 (argsL := [.ref b, .int (Int32.ofNat 0), .int (Int32.ofNat A.slots.size), .null]) (rest := []) rfl rfl (by show 2 * 0 + 0 ≤ _; decide) (hb hbytes d6) (⟨rfl, hB.mv X0.warmed.alike hh0, f1.al X0.warmed.alike, f2.al X0.warmed.alike, hA.mv X0.warmed.alike hh0, s1.there X0.warmed.alike hh0, hz, l0, by omega, l2, fun i hi => by rw [Nat.zero_add]; exact hp i hi⟩)
  have e0 := Got.mv _ s₁ s _ _ hh0.symm (Vm.Alike.refl _) rfl E3
  obtain rfl := e0.1
  have c4 : Steps p.tables e below (s₁.setTop (entryFrame m #[.ref a, .ref b] 2)) (T3.setTop (mkF m 9 #[.val (.ref a), .val (.ref b)] [])) := g3
  exact ⟨T3, none, _, _, _, X3, by simp, rfl, by omega, (fun _ => rfl), e0, fun fs hl => c4.trans (X3.returnOut hexec hret (hb hbytes d9) hl)⟩
theorem pays {l : Launch} {R : Room} {p : Program} {e : Env} {below : List Frame} {s : State} {sargs : Array Value} {len W : Nat} (a : Addr) (D : Cell) (fV fC : Field) (b : Addr) (A : Cell) (z : Int32) (htab : tab.before sargs s = true) (hfr : 4 ≤ R.frames) (hlo : W + 65 ≤ R.locals) :
    Back l R p e below s sargs yN len W (fun A₁ a₁ => A₁.cells + 1 ≤ R.cells ∧ A₁.slots + A.slots.size ≤ R.slots ∧ P a D fV fC b A z a₁ A₁.U) (fun A₁ _ v₁ B₁ => E a D fV fC A v₁ A₁.U B₁.U ∧ B₁.locs = A₁.locs ++ [⟨a, fC.slot⟩, ⟨a, fV.slot⟩] ∧ B₁.cells = A₁.cells + 1 ∧ B₁.slots = A₁.slots + A.slots.size) :=
  (law l a D fV fC b A z).pays htab hfr (by omega)
end New1
end StrChars
namespace StrChars.Road
open Jvm Sem ClassFile Op Lib Jvm.Stand Jvm.Free Jvm.Free.XT
open Jvm.Lib.Cold (StaticIs)
abbrev ST : String := "java/lang/String"
/-- every table word that New1's law asks, flat -/
abbrev words : List Jvm.Cond := [.code New1.yN New1.yB 2 none, .initialized ST, .methodLink ST 27 New4.yN, .instanceMethod New4.yN,
  .code New4.yN New4.yB 6 none, .fieldLink ST 38 ST "COMPACT_STRINGS" "Z", .laysFinal ST ST "value" "[B", .fieldLink ST 9 ST "value" "[B", .laysFinal ST ST "coder" "B", .fieldLink ST 15 ST "coder" "B",
  .methodLink ST 1 Lib.objectInit, .instanceMethod Lib.objectInit, .code Lib.objectInit ⟨#[0xb1]⟩ 1 none, .methodLink ST 177 Cmp3.yN, .static Cmp3.yN, .methodLink ST 47 CodL.yN, .static CodL.yN,
  .code Cmp3.yN Cmp3.yB 6 (some (.array .byte)), .initialized U16, .arrayClass .byte, .methodLink U16 115 Cmp5.yN, .static Cmp5.yN, .code Cmp5.yN Cmp5.yB 7 (some .int), .code CodL.yN CodL.yB 2 (some .byte)]
theorem tab_of {a : Array Value} {s : State} (h : ∀ w ∈ words, w.before a s = true) : New1.tab.before a s = true := by
  have h5 : Cmp5.tab.before a s = true := unparts (wk h (.code Cmp5.yN Cmp5.yB 7 (some .int))) (wks h (.initialized Cmp5.yN.cls :: Cmp5.site))
  have hc : CodL.tab.before a s = true := unparts (wk h (.code CodL.yN CodL.yB 2 (some .byte))) (wks h (.initialized CodL.yN.cls :: CodL.site))
  have q5 : ∀ w ∈ Cmp5.tab :: words, w.before a s = true := fun w hw => (List.mem_cons.mp hw).elim (fun e => e ▸ h5) (h w)
  have h3 : Cmp3.tab.before a s = true := unparts (wk q5 (.code Cmp3.yN Cmp3.yB 6 (some (.array .byte)))) (wks q5 (.initialized Cmp3.yN.cls :: Cmp3.site))
  have q3 : ∀ w ∈ Cmp3.tab :: CodL.tab :: words, w.before a s = true := fun w hw => (List.mem_cons.mp hw).elim (fun e => e ▸ h3) fun hw => (List.mem_cons.mp hw).elim (fun e => e ▸ hc) (h w)
  have h4 : New4.tab.before a s = true := unparts (wk q3 (.code New4.yN New4.yB 6 none)) (wks q3 (.initialized New4.yN.cls :: New4.site))
  have q4 : ∀ w ∈ New4.tab :: words, w.before a s = true := fun w hw => (List.mem_cons.mp hw).elim (fun e => e ▸ h4) (h w)
  exact unparts (wk q4 (.code New1.yN New1.yB 2 none)) (wks q4 (.initialized New1.yN.cls :: New1.site))
/-- the words ride from the start Z to the walk's own state -/
theorem moved {Z s : State} {a0 args : Array Value} (hZ : Z.Warmed39 s.vm) (hw : ∀ d ∈ words, d.before a0 Z = true) : ∀ d ∈ words, d.before args s = true := fun d hd => by
  have q := hw d hd
  have t : ∀ d ∈ words, d = .arrayClass .byte ∨ (d.onTables && d.keepsFace) = true := by decide +kernel
  rcases t d hd with rfl | t
  · exact RoadKit.mvA hZ q
  · exact RoadKit.mv hZ q t
/-- WHAT COMES BACK, over the tables of the start Z: h the heap at the call, h' behind it -/
def Q (Z : State) (x : Addr) (A : Cell) (h : Heap) (v : Option Value) (h' : Heap) (L : List Loc) : Prop := v = none ∧ (∀ y ∈ L, y.base = x) ∧ RoadKit.Keep h h' [x] ∧ h'.size = h.size + 1 ∧ RoadKit.Exa Z h' x ST ∧ RoadKit.Fld Z h' x ST "value" "[B" (.ref h.size) ∧ RoadKit.Fld Z h' x ST "coder" "B" (.int 0) ∧
  (∃ V : Cell, RoadKit.Arr Z h' h.size V .byte ∧ V.vm = .none ∧ Z.vm.findClass "[B" = some V.cls ∧ V.slots.size = A.slots.size ∧ ∀ j, j < A.slots.size → V.slots[j]? = some (.int (lo8 (cv A j)))) ∧
  ∀ (O n d : String) (w : Value), RoadKit.Fld Z h x O n d w → RoadKit.slotOf Z O n d ≠ RoadKit.slotOf Z ST "value" "[B" → RoadKit.slotOf Z O n d ≠ RoadKit.slotOf Z ST "coder" "B" → RoadKit.Fld Z h' x O n d w
/-- **new String(chars) AT A CALL, IN THE ROAD'S FORM**: for specialBack behind newO: x the fresh String, b the char[] with the cell A -/
theorem back {p : Program} {l : Launch} {e : Env} {R : Room} {s : State} {args : Array Value} {below : List Frame} {len W : Nat} {Z : State} {a0 : Array Value} {h : Heap} (hZ : Z.Warmed39 s.vm) (hw : ∀ d ∈ words, d.before a0 Z = true) {kI : Nat} (wi : (Jvm.Cond.instantiable ST kI).before a0 Z = true)
    {x b : Addr} {A : Cell} {z : Int32} {v0 c0 : Value} (E : RoadKit.Exa Z h x ST) (V : RoadKit.Fld Z h x ST "value" "[B" v0) (C : RoadKit.Fld Z h x ST "coder" "B" c0) (K : RoadKit.Arr Z h b A .char) (hty : Typed .char A) (S : RoadKit.Sta Z h ST "COMPACT_STRINGS" "Z" (.int z)) (hz : ¬ z = 0)
    (l0 : 0 < A.slots.size) (l2 : A.slots.size ≤ 536870912) (hp : ∀ i, i < A.slots.size → ¬ 255 < cv A i) (hfr : 4 ≤ R.frames) (hlo : W + 65 ≤ R.locals) :
    Back l R p e below s args New1.yN len W (fun P a => a = #[.ref x, .ref b] ∧ P.U.heap = h ∧ P.cells + 1 ≤ R.cells ∧ P.slots + A.slots.size ≤ R.slots)
      (fun P _ v B => ∃ L, Q Z x A h v B.U.heap L ∧ B.locs = P.locs ++ L ∧ B.cells = P.cells + 1 ∧ B.slots = P.slots + A.slots.size) := by
  intro m meth c P g ig mk a X hg hsize hdg hW hn hp'
  obtain ⟨rfl, rfl, r1, r2⟩ := hp'
  have al : Z.vm.Alike P.U.vm := hZ.alike.trans X.warmed.alike
  obtain ⟨D, cfV, kV, iV, fV, hD, gV, stV, knV, obV, asV, slV⟩ := id V
  obtain ⟨D', cfC, kC, iC, fC, hD', gC, stC, -, -, asC, slC⟩ := id C
  cases hD.symm.trans hD'
  obtain ⟨D2, kD, e1, e2, e3, e4, e5⟩ := id E
  cases hD.symm.trans e1
  obtain ⟨c2, k2, i1, i2, i3, -⟩ := Cond.instantiable_spec wi
  cases e2.symm.trans i1
  cases e3.symm.trans i2
  obtain ⟨kU, u1, u2⟩ := al.2.2 _ _ e3
  have hB : Blank ST x D P.U := ⟨hD, ⟨knV, fun q hq => by rw [hq] at obV; cases obV⟩, by rw [al.findClass]; exact e2, kU, u1, by rw [u2]; exact i3, by rw [u2]; exact e5 i3⟩
  have F1 : Found ST "value" "[B" fV P.U := ⟨SBG.found_only al ⟨cfV, kV, iV, gV⟩, stV⟩
  have F2 : Found ST "coder" "B" fC P.U := ⟨SBG.found_only al ⟨cfC, kC, iC, gC⟩, stC⟩
  have hA : Ch b A P.U := ⟨⟨K.1, State.isArrayOf_alike al K.2.1, K.2.2, by omega⟩, hty⟩
  have hS : StaticIs P.U ST "COMPACT_STRINGS" "Z" (.int z) := by
    obtain ⟨cfS, iS, kS, fS, st, cS, t1, t2, t3, t4, t5, t6, t7⟩ := S
    exact StaticIs.there (s := { Z with heap := P.U.heap }) ⟨cfS, iS, kS, fS, st, cS, t1, t2, t3, t4, t5, (fun q => by rw [q] at t6; cases t6), t7⟩ al rfl
  obtain ⟨v, B, X', ⟨⟨hv, E', V', q1, q2, q3, q4, q5, q6, q7, q8, q9, q10, q11⟩, hl, hc, hs⟩, st⟩ := New1.pays x D fV fC b A z (tab_of (moved hZ hw)) hfr hlo m meth c P g ig mk _ X hg hsize hdg hW hn ⟨r1, r2, rfl, hB, F1, F2, hA, hS, hz, l0, l2, hp⟩
  have al' : Z.vm.Alike B.U.vm := hZ.alike.trans X'.warmed.alike
  have hsz : E'.slots.size = D.slots.size := by
    obtain ⟨-, -, -, kB, w1, w2, w3⟩ := q1
    obtain ⟨kB', y1, y2⟩ := al'.2.2 _ _ e3
    rw [q2.2.1] at w1
    cases w1.symm.trans y1
    rw [w3, e5 i3, y2]
  refine ⟨v, B, X', ⟨_, ⟨hv, ?_, ⟨by omega, fun y cy hy hn' => q10 y cy (by simpa using hn') hy, fun y cy hy => ?_⟩, q11, ⟨E', _, q1.1, by rw [q2.2.1]; exact e2, by rw [q2.2.1]; exact e3, by rw [q2.1]; exact obV, fun _ => by rw [hsz]; exact e5 i3⟩,
    ⟨E', cfV, kV, iV, fV, q1.1, gV, stV, by rw [q2.1]; exact knV, by rw [q2.1]; exact obV, by rw [q2.2.1]; exact asV, q3⟩, ⟨E', cfC, kC, iC, fC, q1.1, gC, stC, by rw [q2.1]; exact knV, by rw [q2.1]; exact obV, by rw [q2.2.1]; exact asC, q4⟩,
    ⟨V', ⟨q5.1, State.isArrayOf_alike al'.symm q5.2.1, q5.2.2.1⟩, q6, by rw [← al'.findClass]; exact q7, q8, fun j hj => by have := q9 j hj; rwa [Nat.zero_add] at this⟩, fun O n d w F n1 n2 => ?_⟩, hl, hc, hs⟩, st⟩
  · intro y hy
    simp only [List.mem_cons, List.not_mem_nil, or_false] at hy
    rcases hy with rfl | rfl <;> rfl
  · by_cases q : y = x
    · subst q
      cases hD.symm.trans hy
      exact ⟨E', q1.1, q2.2.1, q2.1, hsz⟩
    · exact ⟨cy, q10 y cy q hy, rfl, rfl, rfl⟩
  · obtain ⟨D3, cf, k, i, f, g1, g2, g3, g4, g5, g6, g7⟩ := F
    cases hD.symm.trans g1
    simp only [RoadKit.slotOf, g2, gV, gC, Option.map_some, Option.getD_some] at n1 n2
    exact ⟨E', cf, k, i, f, q1.1, g2, g3, by rw [q2.1]; exact g4, by rw [q2.1]; exact g5, by rw [q2.2.1]; exact g6, by rw [q2.2.2 f.slot (by simp [n1, n2])]; exact g7⟩
end StrChars.Road
namespace StrChars.Road
open Jvm Sem ClassFile Op Lib Jvm.Stand Jvm.Free Jvm.Free.XT
/-- WHAT COMES BACK, the byte[] as a list of values -/
def QA (Z : State) (x : Addr) (zn : Int32) (cs : List Int32) (h : Heap) (v : Option Value) (h' : Heap) (L : List Loc) : Prop := v = none ∧ (∀ y ∈ L, y.base = x) ∧ RoadKit.Keep h h' [x] ∧ h'.size = h.size + 1 ∧ RoadKit.Exa Z h' x ST ∧ RoadKit.Fld Z h' x ST "value" "[B" (.ref h.size) ∧ RoadKit.Fld Z h' x ST "coder" "B" (.int 0) ∧
  (∃ kb, Z.vm.findClass "[B" = some kb ∧ RoadKit.Arv Z h' h.size kb .byte zn (cs.map fun c => .int (lo8 c)) (.int 0)) ∧
  ∀ (O n d : String) (w : Value), RoadKit.Fld Z h x O n d w → RoadKit.slotOf Z O n d ≠ RoadKit.slotOf Z ST "value" "[B" → RoadKit.slotOf Z O n d ≠ RoadKit.slotOf Z ST "coder" "B" → RoadKit.Fld Z h' x O n d w
/-- **new String(chars) AT A CALL, THE ARRAYS AS LISTS**: the char[] at b holds cs, not empty, no char above 255 -/
theorem backArv {p : Program} {l : Launch} {e : Env} {R : Room} {s : State} {args : Array Value} {below : List Frame} {len W : Nat} {Z : State} {a0 : Array Value} {h : Heap} (hZ : Z.Warmed39 s.vm) (hw : ∀ d ∈ words, d.before a0 Z = true) {kI : Nat} (wi : (Jvm.Cond.instantiable ST kI).before a0 Z = true)
    {x b : Addr} {k : ClassId} {zn z : Int32} {cs : List Int32} {dv v0 c0 : Value} (E : RoadKit.Exa Z h x ST) (V : RoadKit.Fld Z h x ST "value" "[B" v0) (C : RoadKit.Fld Z h x ST "coder" "B" c0) (K : RoadKit.Arv Z h b k .char zn (cs.map Value.int) dv) (S : RoadKit.Sta Z h ST "COMPACT_STRINGS" "Z" (.int z)) (hz : ¬ z = 0)
    (hlen : zn.toNatClampNeg = cs.length) (h0 : 0 < cs.length) (hbig : cs.length ≤ 536870912) (hall : ∀ c ∈ cs, ¬ 255 < c) (hfr : 4 ≤ R.frames) (hlo : W + 65 ≤ R.locals) :
    Back l R p e below s args New1.yN len W (fun P a => a = #[.ref x, .ref b] ∧ P.U.heap = h ∧ P.cells + 1 ≤ R.cells ∧ P.slots + cs.length ≤ R.slots)
      (fun P _ v B => ∃ L, QA Z x zn cs h v B.U.heap L ∧ B.locs = P.locs ++ L ∧ B.cells = P.cells + 1 ∧ B.slots = P.slots + cs.length) := by
  obtain ⟨A, K1, K2, K3, K4, K5, K6⟩ := K
  have e : A.slots.size = cs.length := K3.trans hlen
  have hat : ∀ (i : Nat) (hi : i < cs.length), A.slots[i]? = some (.int cs[i]) := fun i hi => by rw [K5 i (by omega)]; simp [List.getD_eq_getElem?_getD, hi]
  have hcv : ∀ (i : Nat) (hi : i < cs.length), cv A i = cs[i] := fun i hi => by unfold cv; rw [hat i hi]
  have hty : Typed .char A := fun i v hv => by
    have hi : i < A.slots.size := (Array.getElem?_eq_some_iff.mp hv).1
    have q := K5 i hi
    rw [hv] at q
    rw [Option.some.inj q]
    exact K6 i hi
  refine Back.mono (back hZ hw wi E V C K1 hty S hz (by omega) (by omega) (fun i hi => by rw [hcv i (by omega)]; exact hall _ (List.getElem_mem _)) hfr hlo) (fun P a hp => ⟨hp.1, hp.2.1, hp.2.2.1, by rw [e]; exact hp.2.2.2⟩) (fun P a v B hp hq => ?_)
  obtain ⟨L, ⟨q1, q2, q3, q4, q5, q6, q7, ⟨V', v1, v2, v3, v4, v5⟩, q9⟩, hl, hc, hs⟩ := hq
  refine ⟨L, ⟨q1, q2, q3, q4, q5, q6, q7, ⟨V'.cls, v3, V', v1, rfl, by rw [v4, e, hlen], K4, fun i hi => ?_, fun i hi => ?_⟩, q9⟩, hl, hc, by rw [hs, e]⟩
  · have hi' : i < cs.length := by omega
    rw [v5 i (by omega), hcv i hi']; simp [List.getD_eq_getElem?_getD, hi']
  · have hi' : i < cs.length := by omega
    simp only [List.getD_eq_getElem?_getD, List.getElem?_map, List.getElem?_eq_getElem hi', Option.map_some, Option.getD_some]
    exact fits_lo8 _
end StrChars.Road
namespace StrChars.Road
open Jvm Sem ClassFile Op Lib Jvm.Stand Jvm.Free Jvm.Free.XT
/-- WHAT COMES BACK, in the writer's own shape -/
def QV (Z : State) (x : Addr) (N : Int32) (bs : List Int32) (h : Heap) (n0 : Nat) (v : Option Value) (h' : Heap) (L : List Loc) : Prop := v = none ∧ RoadKit.Fr n0 L ∧ RoadKit.Keep h h' [x] ∧ RoadKit.Exa Z h' x ST ∧ RoadKit.Fld Z h' x ST "coder" "B" (.int 0) ∧
  ∃ (t : Addr) (kb : ClassId), n0 ≤ t ∧ h.size ≤ t ∧ ¬ t = x ∧ RoadKit.Fld Z h' x ST "value" "[B" (.ref t) ∧ RoadKit.Arv Z h' t kb .byte N (bs.map Value.int) (.int 0)
/-- **new String(chars) AT A CALL, FOR THE WRITER**: a char[] of n known ints, each 0 to 255 -/
theorem backV {p : Program} {l : Launch} {e : Env} {R : Room} {s : State} {args : Array Value} {below : List Frame} {len W : Nat} {Z : State} {a0 : Array Value} {h : Heap} (hZ : Z.Warmed39 s.vm) (hw : ∀ d ∈ words, d.before a0 Z = true) {kI : Nat} (wi : (Jvm.Cond.instantiable ST kI).before a0 Z = true)
    {x b : Addr} {kC : ClassId} {cs bs : List Int32} {d v0 c0 : Value} {z N : Int32} {n n0 : Nat} (hx0 : n0 ≤ x) (hh0 : n0 ≤ h.size) (E : RoadKit.Exa Z h x ST) (V : RoadKit.Fld Z h x ST "value" "[B" v0) (C : RoadKit.Fld Z h x ST "coder" "B" c0) (K : RoadKit.Arv Z h b kC .char N (cs.map Value.int) d) (S : RoadKit.Sta Z h ST "COMPACT_STRINGS" "Z" (.int z)) (hz : ¬ z = 0)
    (hn : cs.length = n) (hN : N = Int32.ofNat n) (l0 : 0 < n) (l2 : n ≤ 4000) (hp : ∀ c ∈ cs, ¬ c < 0 ∧ ¬ (255 : Int32) < c) (hb : bs = cs.map (fun c => c.toInt8.toInt32)) (hfr : 4 ≤ R.frames) (hlo : W + 65 ≤ R.locals) :
    Back l R p e below s args (⟨"java/lang/String", "<init>", "([C)V"⟩ : MethodName) len W (fun P a => a = #[.ref x, .ref b] ∧ P.U.heap = h ∧ P.cells + 1 ≤ R.cells ∧ P.slots + n ≤ R.slots)
      (fun P _ v B => ∃ L, QV Z x N bs h n0 v B.U.heap L ∧ B.locs = P.locs ++ L ∧ B.cells = P.cells + 1 ∧ B.slots = P.slots + n) := by
  subst hn hN hb
  refine Back.mono (backArv hZ hw wi E V C K S hz (n32 (by omega)) l0 (by omega) (fun c hc => (hp c hc).2) hfr hlo) (fun P a hp => hp) (fun P a v B hp hq => ?_)
  obtain ⟨L, ⟨q1, q2, q3, q4, q5, q6, q7, ⟨kb, v1, v2⟩, q9⟩, hl, hc, hs⟩ := hq
  exact ⟨L, ⟨q1, fun y hy => by rw [q2 y hy]; exact hx0, q3, q5, q7, h.size, kb, hh0, Nat.le_refl _, Nat.ne_of_gt E.lt, q6, by rw [List.map_map]; exact v2⟩, hl, hc, hs⟩
end StrChars.Road
namespace StrChars
open Jvm Sem ClassFile Op Lib Jvm.Stand Jvm.Free.XT Jvm.Free.ALB Jvm.Free.JM Jvm.Free
open Jvm.Lib.Cold (StaticIs)
def hi8 (x : Int32) : Int32 := lo8 (x >>> ((8 : Int32) &&& 31))
end StrChars
namespace StrChars
open Jvm Sem ClassFile Op Lib Jvm.Stand Jvm.Free.XT Jvm.Free.ALB Jvm.Free.JM Jvm.Free
open Jvm.Lib.Cold (StaticIs)
/-- the array's cell V codes the n chars f 0 .. f (n - 1) by the coder cd, as the JDK does: coder 1 just where some char is above 255 -/
def Cod (cd : Int32) (n : Nat) (f : Nat → Int32) (V : Cell) : Prop := (cd = 0 ∧ V.slots.size = n ∧ ∀ j, j < n → V.slots[j]? = some (.int (lo8 (f j))) ∧ ¬ 255 < f j) ∨ (cd = 1 ∧ V.slots.size = 2 * n ∧ (∀ j, j < n → V.slots[2 * j]? = some (.int (lo8 (f j))) ∧ V.slots[2 * j + 1]? = some (.int (hi8 (f j)))) ∧ ∃ j, j < n ∧ 255 < f j)
/-- **x is a String of the n chars f 0 .. f (n - 1)**, Latin-1 or UTF-16; its array at t has the cell V -/
def Txt (x t : Addr) (V : Cell) (cd : Int32) (n : Nat) (f : Nat → Int32) (U : State) : Prop := Exact "java/lang/String" x U ∧ Has x "java/lang/String" "value" "[B" (.ref t) U ∧ Has x "java/lang/String" "coder" "B" (.int cd) U ∧ XT.Arr .byte t V U ∧ Cod cd n f V ∧ ∀ j, j < n → ¬ f j < 0 ∧ ¬ 65535 < f j
theorem Txt.mv {x t : Addr} {V : Cell} {cd : Int32} {n : Nat} {f : Nat → Int32} {U U' : State} (h : Txt x t V cd n f U) (hal : U.vm.Alike U'.vm) (hh : U'.heap = U.heap) : Txt x t V cd n f U' := ⟨h.1.mv hal hh, h.2.1.mv hal hh, h.2.2.1.mv hal hh, h.2.2.2.1.mv hal hh, h.2.2.2.2⟩
end StrChars
namespace StrChars.Road
open Jvm Sem ClassFile Op Lib Jvm.Stand Jvm.Free Jvm.Free.XT
open Jvm.Lib.Cold (StaticIs)
/-- the bytes of the chars cs, low before high -/
def wideBytes : List Int32 → List Value
  | [] => []
  | c :: cs => .int (lo8 c) :: .int (hi8 c) :: wideBytes cs
theorem wide_lo (d : Value) : ∀ (cs : List Int32) (j : Nat), j < cs.length → (wideBytes cs).getD (2 * j) d = .int (lo8 (cs.getD j 0))
  | [], j, h => absurd h (Nat.not_lt_zero j)
  | c :: cs, 0, _ => rfl
  | c :: cs, j + 1, h => by
    have q := wide_lo d cs j (by simpa using h)
    rw [show 2 * (j + 1) = 2 * j + 1 + 1 from by omega]
    simpa [wideBytes] using q
theorem wide_hi (d : Value) : ∀ (cs : List Int32) (j : Nat), j < cs.length → (wideBytes cs).getD (2 * j + 1) d = .int (hi8 (cs.getD j 0))
  | [], j, h => absurd h (Nat.not_lt_zero j)
  | c :: cs, 0, _ => rfl
  | c :: cs, j + 1, h => by
    have q := wide_hi d cs j (by simpa using h)
    rw [show 2 * (j + 1) + 1 = 2 * j + 1 + 1 + 1 from by omega]
    simpa [wideBytes] using q
theorem low_at (d : Value) (cs : List Int32) (j : Nat) (h : j < cs.length) : (cs.map fun c => Value.int (lo8 c)).getD j d = .int (lo8 (cs.getD j 0)) := by
  simp [List.getD_eq_getElem?_getD, h]
/-- an array of N2 bytes vs codes the chars cs by the coder cd -/
def CodA (cs : List Int32) (cd N2 : Int32) (vs : List Value) : Prop := (cd = 0 ∧ N2 = Int32.ofNat cs.length ∧ vs = (cs.map fun c => Value.int (lo8 c)) ∧ ∀ c ∈ cs, ¬ 255 < c) ∨ (cd = 1 ∧ N2 = Int32.ofNat (2 * cs.length) ∧ vs = wideBytes cs ∧ ∃ c ∈ cs, 255 < c)
theorem CodA.cod {cs : List Int32} {cd N2 : Int32} {vs : List Value} {V : Cell} (h : CodA cs cd N2 vs) (hn : 2 * cs.length < 2 ^ 31) (hs : V.slots.size = N2.toNatClampNeg) (hv : RoadKit.Has V vs (.int 0)) : Cod cd cs.length (fun j => cs.getD j 0) V := by
  rcases h with ⟨rfl, rfl, rfl, h⟩ | ⟨rfl, rfl, rfl, c, hc, hw⟩
  · rw [n32 (by omega)] at hs
    exact Or.inl ⟨rfl, hs, fun j hj => ⟨by rw [hv j (by omega), low_at _ _ _ hj], by
      have e : cs.getD j 0 = cs[j] := by simp [List.getD_eq_getElem?_getD, hj]
      show ¬ 255 < cs.getD j 0
      rw [e]; exact h _ (List.getElem_mem _)⟩⟩
  · rw [n32 (by omega)] at hs
    obtain ⟨j, hj, rfl⟩ := List.getElem_of_mem hc
    exact Or.inr ⟨rfl, hs, fun j hj => ⟨by rw [hv _ (by omega), wide_lo _ _ _ hj], by rw [hv _ (by omega), wide_hi _ _ _ hj]⟩, j, hj, by
      have e : cs.getD j 0 = cs[j] := by simp [List.getD_eq_getElem?_getD, hj]
      show 255 < cs.getD j 0
      rw [e]; exact hw⟩
/-- an object of exactly java/lang/String, its two fields found: as the laws ask it -/
theorem strObj {Z U : State} {a0 : Array Value} {kI : Nat} (wi : (Jvm.Cond.instantiable ST kI).before a0 Z = true) (al : Z.vm.Alike U.vm) {x : Addr} {v0 c0 : Value} (E : RoadKit.Exa Z U.heap x ST) (V : RoadKit.Fld Z U.heap x ST "value" "[B" v0) (C : RoadKit.Fld Z U.heap x ST "coder" "B" c0) :
    ∃ (D : Cell) (fV fC : Field), Blank ST x D U ∧ Found ST "value" "[B" fV U ∧ Found ST "coder" "B" fC U ∧ D.slots[fV.slot]? = some v0 ∧ D.slots[fC.slot]? = some c0 ∧ RoadKit.slotOf Z ST "value" "[B" = fV.slot ∧ RoadKit.slotOf Z ST "coder" "B" = fC.slot := by
  obtain ⟨D, cfV, kV, iV, fV, hD, gV, stV, knV, obV, asV, slV⟩ := V
  obtain ⟨D', cfC, kC, iC, fC, hD', gC, stC, -, -, asC, slC⟩ := C
  cases hD.symm.trans hD'
  obtain ⟨D2, kD, e1, e2, e3, e4, e5⟩ := E
  cases hD.symm.trans e1
  obtain ⟨c2, k2, i1, i2, i3, -⟩ := Cond.instantiable_spec wi
  cases e2.symm.trans i1
  cases e3.symm.trans i2
  obtain ⟨kU, u1, u2⟩ := al.2.2 _ _ e3
  exact ⟨D, fV, fC, ⟨hD, ⟨knV, fun q hq => by rw [hq] at obV; cases obV⟩, by rw [al.findClass]; exact e2, kU, u1, by rw [u2]; exact i3, by rw [u2]; exact e5 i3⟩, ⟨SBG.found_only al ⟨cfV, kV, iV, gV⟩, stV⟩, ⟨SBG.found_only al ⟨cfC, kC, iC, gC⟩, stC⟩, slV, slC, by simp [RoadKit.slotOf, gV], by simp [RoadKit.slotOf, gC]⟩
end StrChars.Road
namespace StrChars
open Jvm Sem ClassFile Op Lib Jvm.Stand Jvm.Free.XT Jvm.Free.ALB Jvm.Free.JM Jvm.Free
open Jvm.Lib.Cold (StaticIs)
namespace Emp
def yN : MethodName := ⟨"java/lang/String", "isEmpty", "()Z"⟩
abbrev yB : ByteArray := jdk_42_method_55_code
theorem d0 : decode yB 0 = .ok (.aload_n 0, 1) := by decide +kernel
theorem d1 : decode yB 1 = .ok (.getfield 9, 3) := by decide +kernel
theorem d4 : decode yB 4 = .ok (.arraylength, 1) := by decide +kernel
theorem d5 : decode yB 5 = .ok (.ifCond (.ne) 7, 3) := by decide +kernel
theorem d8 : decode yB 8 = .ok (.iconst 1, 1) := by decide +kernel
theorem d9 : decode yB 9 = .ok (.goto 4, 3) := by decide +kernel
theorem d12 : decode yB 12 = .ok (.iconst 0, 1) := by decide +kernel
theorem d13 : decode yB 13 = .ok (.ireturn, 1) := by decide +kernel
def site : List Cond := [.fieldLink "java/lang/String" 9 "java/lang/String" "value" "[B"]
def tab : Cond := tabOf yN yB 1 (some .boolean) site
def P (x t : Addr) (V : Cell) (cd : Int32) (n : Nat) (f : Nat → Int32) (args : Array Value) (s : State) : Prop := args = #[.ref x] ∧ Txt x t V cd n f s
def E (n : Nat) (r : Option Value) (s u : State) : Prop := XT.PureE (some (.int (if n = 0 then 1 else 0))) r s u
/-- isEmpty() of a String of n chars -/
theorem law (l : Launch) (x t : Addr) (V : Cell) (cd : Int32) (n : Nat) (f : Nat → Int32) : Law l yN 1 0 0 0 yB 1 (some .boolean) site (P x t V cd n f) (E n) [] 0 0 := by
  refine Law.of_walk (plainFor_of_name (by decide +kernel)) (by decide +kernel) (by decide +kernel) (by decide) (fun _ _ h => by rw [h.1]; rfl) (fun _ U U' hal hh h => ⟨h.1, h.2.mv hal hh⟩) (fun r U U' V V' h1 hal h2 h => XT.PureE.mv r U U' V V' h1 hal h2 h) ?_
  intro p e s m args below meth c s₁ X0 hexec hbytes hml hret hlk hnm hown hh0 W hP
  obtain ⟨rfl, hx⟩ := hP
  have v31 := hx.2.2.2.1.2.2.2
  have c1 : Steps p.tables e below (s₁.setTop (entryFrame m #[.ref x] 1)) (s₁.setTop (mkF m 1 #[.val (.ref x)] [.ref x])) := Steps.trans (entry rfl) (by
    show Steps p.tables e below (s₁.setTop (mkF m 0 #[.val (.ref x)] [])) _
    refine XS.aloadN X0.here hexec rfl (hb hbytes d0) rfl rfl ?_
    exact Steps.refl _)
  obtain ⟨T2, X2, q2, st2⟩ := X0.hget hexec hown (wk W (.fieldLink "java/lang/String" 9 "java/lang/String" "value" "[B")) (hx.mv X0.warmed.alike hh0).2.1 (g := (mkF m 1 #[.val (.ref x)] [.ref x])) rfl (rest := []) rfl (hb hbytes d1)
  have hh2 := q2.trans hh0
  have hx2 := hx.mv X2.warmed.alike hh2
  have c3 : Steps p.tables e below (s₁.setTop (entryFrame m #[.ref x] 1)) (T2.setTop (mkF m 5 #[.val (.ref x)] [.int (Int32.ofNat V.slots.size)])) := (c1.trans (st2 _ (Steps.refl _))).trans (by
    refine X2.alen hexec hx2.2.2.2.1 rfl rfl (hb hbytes d4) ?_
    exact Steps.refl _)
  have hz : V.slots.size = 0 ↔ n = 0 := by
    rcases hx.2.2.2.2.1 with ⟨-, q, -⟩ | ⟨-, q, -⟩ <;> omega
  by_cases h0 : n = 0
  · have c4 : Steps p.tables e below (s₁.setTop (entryFrame m #[.ref x] 1)) (T2.setTop (mkF m 13 #[.val (.ref x)] [.int 1])) := c3.trans (by
      refine XS.ifNo X2.here hexec rfl (hb hbytes d5) rfl (i0_ne_f (by rw [hz.mpr h0]; rfl)) ?_
      refine iconstV X2.here hexec rfl 1 (hb hbytes d8) (by decide) ?_
      refine XS.goto X2.here hexec rfl (pc0 := 9) rfl (hb hbytes d9) (by decide) rfl ?_
      exact Steps.refl _)
    exact ⟨T2, some (.int 1), _, _, _, X2, rfl, rfl, rfl, (fun h => by cases h), ⟨by rw [if_pos h0], hh2⟩, fun fs hl => c4.trans (X2.ireturnOut hexec hret rfl (Or.inr (Or.inl rfl)) (hb hbytes d13) hl)⟩
  · have c4 : Steps p.tables e below (s₁.setTop (entryFrame m #[.ref x] 1)) (T2.setTop (mkF m 13 #[.val (.ref x)] [.int 0])) := c3.trans (by
      refine XS.ifYes X2.here hexec rfl (pc0 := 5) rfl (hb hbytes d5) rfl (i0_ne_t (nz32 v31 (by omega))) (by decide) rfl ?_
      refine iconstV X2.here hexec rfl 0 (hb hbytes d12) (by decide) ?_
      exact Steps.refl _)
    exact ⟨T2, some (.int 0), _, _, _, X2, rfl, rfl, rfl, (fun h => by cases h), ⟨by rw [if_neg h0], hh2⟩, fun fs hl => c4.trans (X2.ireturnOut hexec hret rfl (Or.inr (Or.inl rfl)) (hb hbytes d13) hl)⟩
theorem pays {l : Launch} {R : Room} {p : Program} {e : Env} {below : List Frame} {s : State} {sargs : Array Value} {len W : Nat} (x t : Addr) (V : Cell) (cd : Int32) (n : Nat) (f : Nat → Int32) (htab : tab.before sargs s = true) (hfr : 1 ≤ R.frames) (hlo : W + 12 ≤ R.locals) :
    Back l R p e below s sargs yN len W (fun A₁ a₁ => A₁.cells + 0 ≤ R.cells ∧ A₁.slots + 0 ≤ R.slots ∧ P x t V cd n f a₁ A₁.U) (fun A₁ _ v₁ B₁ => E n v₁ A₁.U B₁.U ∧ B₁.locs = A₁.locs ++ [] ∧ B₁.cells = A₁.cells + 0 ∧ B₁.slots = A₁.slots + 0) :=
  (law l x t V cd n f).pays htab hfr (by omega)
end Emp
end StrChars
namespace StrChars.Road
open Jvm Sem ClassFile Op Lib Jvm.Stand Jvm.Free Jvm.Free.XT
open Jvm.Lib.Cold (StaticIs)
/-- the words of String.isEmpty() -/
abbrev wordsEmp : List Jvm.Cond := [.code Emp.yN Emp.yB 1 (some .boolean), .initialized ST, .fieldLink ST 9 ST "value" "[B"]
theorem tabEmp_of {a : Array Value} {s : State} (h : ∀ w ∈ wordsEmp, w.before a s = true) : Emp.tab.before a s = true := unparts (wk h (.code Emp.yN Emp.yB 1 (some .boolean))) (wks h (.initialized Emp.yN.cls :: Emp.site))
theorem movedEmp {Z s : State} {a0 args : Array Value} (hZ : Z.Warmed39 s.vm) (hw : ∀ d ∈ wordsEmp, d.before a0 Z = true) : ∀ d ∈ wordsEmp, d.before args s = true := fun d hd => by
  have t : ∀ d ∈ wordsEmp, (d.onTables && d.keepsFace) = true := by decide +kernel
  exact RoadKit.mv hZ (hw d hd) (t d hd)
/-- the road's facts of a String, as the laws ask it -/
theorem txt_of {Z U : State} {a0 : Array Value} {kI : Nat} (wi : (Jvm.Cond.instantiable ST kI).before a0 Z = true) (al : Z.vm.Alike U.vm) {x t : Addr} {kb : ClassId} {cs : List Int32} {cd N2 : Int32} {vs : List Value} (E : RoadKit.Exa Z U.heap x ST) (V : RoadKit.Fld Z U.heap x ST "value" "[B" (.ref t)) (C : RoadKit.Fld Z U.heap x ST "coder" "B" (.int cd)) (K : RoadKit.Arv Z U.heap t kb .byte N2 vs (.int 0)) (hc : CodA cs cd N2 vs) (hb : ∀ c ∈ cs, ¬ c < 0 ∧ ¬ (65535 : Int32) < c) (l2 : cs.length ≤ 4000) :
    ∃ A, Txt x t A cd cs.length (fun j => cs.getD j 0) U := by
  obtain ⟨A, K1, K2, K3, K4, K5, K6⟩ := K
  have hcod := hc.cod (by omega) K3 K5
  obtain ⟨D, fV, fC, hB, F1, F2, g1, g2, -, -⟩ := strObj wi al E V C
  exact ⟨A, ⟨_, hB.2.2.1, D, hB.1, rfl, by cases q : D.vm <;> first | rfl | exact absurd q (hB.2.1.2 _)⟩, Has.of hB F1 g1, Has.of hB F2 g2, ⟨K1.1, State.isArrayOf_alike al K1.2.1, K1.2.2, by rcases hcod with ⟨-, q, -⟩ | ⟨-, q, -⟩ <;> omega⟩, hcod, fun j hj => by
    have e : cs.getD j 0 = cs[j] := by simp [List.getD_eq_getElem?_getD, hj]
    show ¬ cs.getD j 0 < 0 ∧ ¬ 65535 < cs.getD j 0
    rw [e]; exact hb _ (List.getElem_mem _)⟩
/-- **isEmpty() OF SUCH A STRING** -/
theorem empW {p : Program} {l : Launch} {e : Env} {R : Room} {s : State} {args : Array Value} {below : List Frame} {len W : Nat} {Z : State} {a0 : Array Value} {h : Heap} (hZ : Z.Warmed39 s.vm) (hw : ∀ d ∈ wordsEmp, d.before a0 Z = true) {kI : Nat} (wi : (Jvm.Cond.instantiable ST kI).before a0 Z = true)
    {x t : Addr} {kb : ClassId} {cs : List Int32} {cd N2 : Int32} {vs : List Value} (E : RoadKit.Exa Z h x ST) (V : RoadKit.Fld Z h x ST "value" "[B" (.ref t)) (C : RoadKit.Fld Z h x ST "coder" "B" (.int cd)) (K : RoadKit.Arv Z h t kb .byte N2 vs (.int 0)) (hc : CodA cs cd N2 vs) (hb : ∀ c ∈ cs, ¬ c < 0 ∧ ¬ (65535 : Int32) < c) (l2 : cs.length ≤ 4000) (hfr : 1 ≤ R.frames) (hlo : W + 12 ≤ R.locals) :
    Back l R p e below s args (⟨"java/lang/String", "isEmpty", "()Z"⟩ : MethodName) len W (fun P a => a = #[.ref x] ∧ P.U.heap = h ∧ P.cells + 0 ≤ R.cells ∧ P.slots + 0 ≤ R.slots)
      (fun P _ v B => ∃ L, (v = some (.int (if cs.length = 0 then 1 else 0)) ∧ L = [] ∧ B.U.heap = h) ∧ B.locs = P.locs ++ L ∧ B.cells = P.cells + 0 ∧ B.slots = P.slots + 0) := by
  intro m meth c P g ig mk a X hg hsize hdg hW hn hp'
  obtain ⟨rfl, rfl, r1, r2⟩ := hp'
  have al : Z.vm.Alike P.U.vm := hZ.alike.trans X.warmed.alike
  obtain ⟨A, hx⟩ := txt_of wi al E V C K hc hb l2
  obtain ⟨v, B, X', ⟨⟨hv, hh⟩, hl, hk, hs⟩, st⟩ := Emp.pays x t A cd cs.length (fun j => cs.getD j 0) (tabEmp_of (movedEmp hZ hw)) hfr hlo m meth c P g ig mk _ X hg hsize hdg hW hn ⟨r1, r2, rfl, hx⟩
  exact ⟨v, B, X', ⟨[], ⟨hv, rfl, hh⟩, hl, hk, hs⟩, st⟩
end StrChars.Road
namespace StrChars.Road
open Jvm Sem ClassFile Op Lib Jvm.Stand Jvm.Free Jvm.Free.XT
open Jvm.Lib.Cold (StaticIs)
/-- what backV says of its String, as the contracts of this text ask it: cs's low bytes, coder 0 -/
theorem codOf {cs : List Int32} {n : Nat} (hn : cs.length = n) (hb : ∀ c ∈ cs, ¬ 255 < c) : CodA cs 0 (Int32.ofNat n) ((cs.map lo8).map Value.int) := Or.inl ⟨rfl, by rw [hn], by simp [List.map_map, Function.comp_def], hb⟩
end StrChars.Road
end Jvm.Pilot.@@N@@
namespace Jvm.Pilot.@@N@@
open Jvm Jvm.ClassFile Sem Op Lib Jvm.Free Jvm.Stand Jvm.LawKit Jvm.RoadKit Bundle Jvm.Pilot.@@N@@.Jvm.D
/-- the goal of a walk: from S the run comes to an end that P tells of -/
def Gl (p : Program) (e : Env) (below : List Frame) (P : Outcome → State → Prop) (S : State) : Prop := ∃ (t : State) (o : Outcome), Steps p.tables e below S t ∧ t.status = .running ∧ Ended t below o ∧ P o t
theorem Gl.st {p : Program} {e : Env} {below : List Frame} {P : Outcome → State → Prop} {S S' : State} (k : ∀ target, Steps p.tables e below S' target → Steps p.tables e below S target) (g : Gl p e below P S') : Gl p e below P S := by
  obtain ⟨t, o, h, r⟩ := g; exact ⟨t, o, k t h, r⟩
theorem Gl.tr {p : Program} {e : Env} {below : List Frame} {P : Outcome → State → Prop} {S S' : State} (k : Steps p.tables e below S S') (g : Gl p e below P S') : Gl p e below P S := by
  obtain ⟨t, o, h, r⟩ := g; exact ⟨t, o, k.trans h, r⟩
theorem Gl.gen {p : Program} {e : Env} {below : List Frame} {P : Outcome → State → Prop} {S : State} (h : ∀ P' : Outcome → State → Prop, (∀ o t, P o t → P' o t) → Gl p e below P' S) : Gl p e below P S := h P fun _ _ q => q
theorem own_cat {v : Value} (h : v.isRef = true) : v.category = 1 := by rcases ref_cases h with rfl | ⟨x, rfl⟩ <;> rfl
theorem own_narR {v : Value} (h : v.isRef = true) (C : String) : narrow (.object C) v = v := by rcases ref_cases h with rfl | ⟨x, rfl⟩ <;> rfl
theorem own_fitR {v : Value} (h : v.isRef = true) (C : String) : fits (.object C) v = true := by rcases ref_cases h with rfl | ⟨x, rfl⟩ <;> rfl
theorem own_four (x : Int32) : x &&& (3 : Int32) = (0 : Int32) ∨ x &&& (3 : Int32) = (1 : Int32) ∨ x &&& (3 : Int32) = (2 : Int32) ∨ x &&& (3 : Int32) = (3 : Int32) := by
  have t : ∀ k : Fin 4, Int32.ofNat k.val = (0 : Int32) ∨ Int32.ofNat k.val = (1 : Int32) ∨ Int32.ofNat k.val = (2 : Int32) ∨ Int32.ofNat k.val = (3 : Int32) := by decide +kernel
  have h : (x &&& (3 : Int32)).toBitVec.toNat < 4 := by
    simp only [Int32.toBitVec_and, BitVec.toNat_and]
    exact Nat.lt_succ_of_le Nat.and_le_right
  have e : (x &&& (3 : Int32)) = Int32.ofNat (x &&& (3 : Int32)).toBitVec.toNat := by
    apply Int32.toBitVec_inj.mp
    show _ = BitVec.ofNat 32 _
    rw [BitVec.ofNat_toNat]; simp
  rw [e]
  exact t ⟨_, h⟩
theorem own_four_lo (x : Int32) : ¬ x &&& (3 : Int32) < (0 : Int32) := by rcases own_four x with h | h | h | h <;> rw [h] <;> decide
theorem own_four_hi (x : Int32) : x &&& (3 : Int32) < (4 : Int32) := by rcases own_four x with h | h | h | h <;> rw [h] <;> decide
theorem own_and255 (x : Int32) : ¬ nar .char ((x &&& (255 : Int32)).toUInt32.toUInt16.toUInt32.toInt32) < 0 ∧ ¬ (255 : Int32) < nar .char ((x &&& (255 : Int32)).toUInt32.toUInt16.toUInt32.toInt32) := by
  have t : ∀ k : Fin 256, ¬ nar .char ((Int32.ofNat k.val).toUInt32.toUInt16.toUInt32.toInt32) < 0 ∧ ¬ (255 : Int32) < nar .char ((Int32.ofNat k.val).toUInt32.toUInt16.toUInt32.toInt32) := by decide +kernel
  have h : (x &&& 255).toBitVec.toNat < 256 := by
    simp only [Int32.toBitVec_and, BitVec.toNat_and]
    exact Nat.lt_succ_of_le Nat.and_le_right
  have e : (x &&& 255) = Int32.ofNat (x &&& 255).toBitVec.toNat := by
    apply Int32.toBitVec_inj.mp
    show _ = BitVec.ofNat 32 _
    rw [BitVec.ofNat_toNat]; simp
  rw [e]
  exact t ⟨_, h⟩
theorem own_and255d (x : Int32) : ¬ (255 : Int32) < ((x &&& (255 : Int32)).toUInt32.toUInt16.toUInt32.toInt32) := by
  have t : ∀ k : Fin 256, ¬ (255 : Int32) < ((Int32.ofNat k.val).toUInt32.toUInt16.toUInt32.toInt32) := by decide +kernel
  have h : (x &&& 255).toBitVec.toNat < 256 := by
    simp only [Int32.toBitVec_and, BitVec.toNat_and]
    exact Nat.lt_succ_of_le Nat.and_le_right
  have e : (x &&& 255) = Int32.ofNat (x &&& 255).toBitVec.toNat := by
    apply Int32.toBitVec_inj.mp
    show _ = BitVec.ofNat 32 _
    rw [BitVec.ofNat_toNat]; simp
  rw [e]
  exact t ⟨_, h⟩
theorem own_hp0 : ∀ c ∈ ([] : List Int32), ¬ c < 0 ∧ ¬ (255 : Int32) < c := fun _ h => nomatch h
theorem own_hpS {a : Int32} {l : List Int32} (h : ¬ a < 0 ∧ ¬ (255 : Int32) < a) (t : ∀ c ∈ l, ¬ c < 0 ∧ ¬ (255 : Int32) < c) : ∀ c ∈ a :: l, ¬ c < 0 ∧ ¬ (255 : Int32) < c := fun c hc => (List.mem_cons.mp hc).elim (fun q => q ▸ h) (t c)
theorem own_up (cs : List Int32) (h : ∀ c ∈ cs, ¬ c < 0 ∧ ¬ (255 : Int32) < c) : ∀ c ∈ cs, ¬ c < 0 ∧ ¬ (65535 : Int32) < c := fun c hc => ⟨(h c hc).1, fun q => (h c hc).2 (by rw [Int32.lt_iff_toInt_lt] at q ⊢; have e1 : (65535 : Int32).toInt = 65535 := rfl; have e2 : (255 : Int32).toInt = 255 := rfl; omega)⟩
open Jvm.Free.SB Jvm.Free.SBG in
/-- a String whose value is null is no booked one -/
theorem own_blank {Z : State} {EL : List (String × Nat)} {vm : Vm} {h : Heap} {x : Addr} (hal : Z.vm.Alike vm) (E : Exa Z h x "java/lang/String") (N : Fld Z h x "java/lang/String" "value" "[B" .null) : Safe Z EL vm h x := fun B => by
  obtain ⟨p, -, u, a, -, q, -, F, rfl | rfl⟩ := B
  · obtain ⟨cell, cf, k, i, f, n1, n2, -, -, -, -, n7⟩ := N
    cases (show h[q.sa]? = some q.sC from F.ha).symm.trans n1
    obtain ⟨cS, ⟨⟨-, -, -, ⟨c1, k1, i1, f1, -⟩, -, -, -, v1, -⟩, -⟩, -⟩ := F
    obtain ⟨k3, e3, -⟩ := State.fieldFound?_setVm (s := Z) hal n2
    have e4 := (show (Wst Z vm h).fieldFound? _ _ _ = _ from e3).symm.trans f1
    simp only [Option.some.injEq, Prod.mk.injEq] at e4
    rw [← e4.2.2.2, n7] at v1
    simp at v1
  · obtain ⟨cell, k, e1, e2, e3, -, -⟩ := E
    cases (show h[q.sd]? = some q.SA from F.hd).symm.trans e1
    obtain ⟨cS, -, -, f, -⟩ := F
    have f' : vm.findClass "[B" = some q.SA.cls := f
    rw [hal.findClass] at f'
    obtain ⟨k1, q1, q2⟩ := Vm.findClass_spec f'
    obtain ⟨k2, q3, q4⟩ := Vm.findClass_spec e2
    cases q1.symm.trans q3
    exact absurd (q2.symm.trans q4) (by decide)
theorem own_i8 (x : Int32) : nar .byte (x.toInt8.toInt32) = x.toInt8.toInt32 := by
  apply Int32.toInt_inj.mp
  have h1 := c_i2b (x.toInt8.toInt32)
  have h2 := c_i2b x
  show (x.toInt8.toInt32).toInt8.toInt32.toInt = _
  omega
def own_Str (Z : State) (h : Heap) (x : Addr) (cs : List Int32) : Prop := (∀ c ∈ cs, ¬ c < 0 ∧ ¬ (255 : Int32) < c) ∧ cs.length ≤ 4000 ∧ ∃ (t : Addr) (kb : ClassId), Exa Z h x "java/lang/String" ∧ Fld Z h x "java/lang/String" "coder" "B" (.int (0 : Int32)) ∧ Fld Z h x "java/lang/String" "value" "[B" (.ref t) ∧ Arv Z h t kb .byte (Int32.ofNat cs.length) ((cs.map fun c => c.toInt8.toInt32).map Value.int) (.int (0 : Int32))
theorem own_Str_exa {Z : State} {h : Heap} {x : Addr} {cs : List Int32} (S : own_Str Z h x cs) : Exa Z h x "java/lang/String" := by obtain ⟨-, -, t, kb, E, -⟩ := S; exact E
theorem own_Str_ext {Z : State} {h h' : Heap} {x : Addr} {cs : List Int32} (E : Ext h h') (S : own_Str Z h x cs) : own_Str Z h' x cs := by
  obtain ⟨hp, hl, t, kb, A, B, C, D⟩ := S; exact ⟨hp, hl, t, kb, A.ext E, B.ext E, C.ext E, D.ext E⟩
theorem own_Str_keep0 {Z : State} {h h' : Heap} {x : Addr} {cs : List Int32} (K : Keep h h' []) (S : own_Str Z h x cs) : own_Str Z h' x cs := by
  obtain ⟨hp, hl, t, kb, A, B, C, D⟩ := S; exact ⟨hp, hl, t, kb, A.keep K, B.keep K nin0, C.keep K nin0, D.keep K nin0⟩
theorem own_Str_keep1 {Z : State} {h h' : Heap} {x b : Addr} {cs : List Int32} {C : String} {k : Nat} {a0 : Array Value} (K : Keep h h' [b]) (B : Exa Z h b C) (hn : C ≠ "java/lang/String") (wi : (Jvm.Cond.instantiable C k).before a0 Z = true) (S : own_Str Z h x cs) : own_Str Z h' x cs := by
  obtain ⟨hp, hl, t, kb, E, F, V, A⟩ := S
  have n1 : x ≠ b := ne_exa E B (Ne.symm hn)
  have n2 : t ≠ b := by obtain ⟨c, Ar, -⟩ := A; exact (ne_arr B wi Ar).symm
  exact ⟨hp, hl, t, kb, E.keep K, F.keep K (ninS n1 nin0), V.keep K (ninS n1 nin0), A.keep K (ninS n2 nin0)⟩
theorem own_EW {Z : State} {a0 : Array Value} (hw : ∀ d ∈ tables_1, d.before a0 Z = true) : EW Z a0 consts_1 := (EW.cons (hw _ (List.mem_of_getElem? (i := 86) rfl)) (by decide) (EW.cons (hw _ (List.mem_of_getElem? (i := 91) rfl)) (by decide) (EW.cons (hw _ (List.mem_of_getElem? (i := 94) rfl)) (by decide) (EW.cons (hw _ (List.mem_of_getElem? (i := 79) rfl)) (by decide) (EW.cons (hw _ (List.mem_of_getElem? (i := 44) rfl)) (by decide) (EW.cons (hw _ (List.mem_of_getElem? (i := 49) rfl)) (by decide) (EW.cons (hw _ (List.mem_of_getElem? (i := 57) rfl)) (by decide) (EW.cons (hw _ (List.mem_of_getElem? (i := 60) rfl)) (by decide) (EW.cons (hw _ (List.mem_of_getElem? (i := 38) rfl)) (by decide) EW.nil)))))))))
theorem own_wS {Z : State} {a0 : Array Value} (hw : ∀ d ∈ tables_1, d.before a0 Z = true) : ∀ a ∈ Bundle.stringAtoms, a.before a0 Z = true := fun a ha => hw a ((by decide +kernel : ∀ d ∈ Bundle.stringAtoms, d ∈ tables_1) a ha)
theorem own_and255e (x : Int32) : ¬ ((x &&& (255 : Int32)).toUInt32.toUInt16.toUInt32.toInt32) < 0 ∧ ¬ (255 : Int32) < ((x &&& (255 : Int32)).toUInt32.toUInt16.toUInt32.toInt32) := by
  refine ⟨?_, own_and255d x⟩
  rw [Int32.lt_iff_toInt_lt]
  have := (c_i2c (x &&& (255 : Int32))).2.1
  have e : (0 : Int32).toInt = 0 := rfl
  omega
def own_cs (x n : Int32) : List Int32 := if n = (0 : Int32) then [] else if n = (1 : Int32) then [((x &&& (255 : Int32)).toUInt32.toUInt16.toUInt32.toInt32)] else [nar .char ((x &&& (255 : Int32)).toUInt32.toUInt16.toUInt32.toInt32), nar .char ((((x.toUInt32 >>> ((8 : Int32) &&& 31).toUInt32).toInt32) &&& (255 : Int32)).toUInt32.toUInt16.toUInt32.toInt32)]
theorem d30_0 : decode jdk_43_method_3_code 0 = .ok (.iload_n 0, 1) := by decide +kernel
theorem d30_1 : decode jdk_43_method_3_code 1 = .ok (.sipush 255, 3) := by decide +kernel
theorem d30_4 : decode jdk_43_method_3_code 4 = .ok (.if_icmp .gt 7, 3) := by decide +kernel
theorem d30_7 : decode jdk_43_method_3_code 7 = .ok (.iconst 1, 1) := by decide +kernel
theorem d30_8 : decode jdk_43_method_3_code 8 = .ok (.goto 4, 3) := by decide +kernel
theorem d30_12 : decode jdk_43_method_3_code 12 = .ok (.ireturn, 1) := by decide +kernel
theorem d31_0 : decode jdk_43_method_46_code 0 = .ok (.iconst 1, 1) := by decide +kernel
theorem d31_1 : decode jdk_43_method_46_code 1 = .ok (.newarray .byte, 2) := by decide +kernel
theorem d31_3 : decode jdk_43_method_46_code 3 = .ok (.dup, 1) := by decide +kernel
theorem d31_4 : decode jdk_43_method_46_code 4 = .ok (.iconst 0, 1) := by decide +kernel
theorem d31_5 : decode jdk_43_method_46_code 5 = .ok (.iload_n 0, 1) := by decide +kernel
theorem d31_6 : decode jdk_43_method_46_code 6 = .ok (.i2b, 1) := by decide +kernel
theorem d31_7 : decode jdk_43_method_46_code 7 = .ok (.bastore, 1) := by decide +kernel
theorem d31_8 : decode jdk_43_method_46_code 8 = .ok (.areturn, 1) := by decide +kernel
theorem d32_0 : decode jdk_42_method_151_code 0 = .ok (.aload_n 0, 1) := by decide +kernel
theorem d32_1 : decode jdk_42_method_151_code 1 = .ok (.invokespecial 1, 3) := by decide +kernel
theorem d32_4 : decode jdk_42_method_151_code 4 = .ok (.aload_n 0, 1) := by decide +kernel
theorem d32_5 : decode jdk_42_method_151_code 5 = .ok (.aload_n 1, 1) := by decide +kernel
theorem d32_6 : decode jdk_42_method_151_code 6 = .ok (.putfield 9, 3) := by decide +kernel
theorem d32_9 : decode jdk_42_method_151_code 9 = .ok (.aload_n 0, 1) := by decide +kernel
theorem d32_10 : decode jdk_42_method_151_code 10 = .ok (.iload_n 2, 1) := by decide +kernel
theorem d32_11 : decode jdk_42_method_151_code 11 = .ok (.putfield 15, 3) := by decide +kernel
theorem d32_14 : decode jdk_42_method_151_code 14 = .ok (.return_, 1) := by decide +kernel
theorem d33_0 : decode jdk_42_method_139_code 0 = .ok (.getstatic 38, 3) := by decide +kernel
theorem d33_3 : decode jdk_42_method_139_code 3 = .ok (.ifCond .eq 23, 3) := by decide +kernel
theorem d33_6 : decode jdk_42_method_139_code 6 = .ok (.iload_n 0, 1) := by decide +kernel
theorem d33_7 : decode jdk_42_method_139_code 7 = .ok (.invokestatic 1015, 3) := by decide +kernel
theorem d33_10 : decode jdk_42_method_139_code 10 = .ok (.ifCond .eq 16, 3) := by decide +kernel
theorem d33_13 : decode jdk_42_method_139_code 13 = .ok (.new 10, 3) := by decide +kernel
theorem d33_16 : decode jdk_42_method_139_code 16 = .ok (.dup, 1) := by decide +kernel
theorem d33_17 : decode jdk_42_method_139_code 17 = .ok (.iload_n 0, 1) := by decide +kernel
theorem d33_18 : decode jdk_42_method_139_code 18 = .ok (.invokestatic 1018, 3) := by decide +kernel
theorem d33_21 : decode jdk_42_method_139_code 21 = .ok (.iconst 0, 1) := by decide +kernel
theorem d33_22 : decode jdk_42_method_139_code 22 = .ok (.invokespecial 209, 3) := by decide +kernel
theorem d33_25 : decode jdk_42_method_139_code 25 = .ok (.areturn, 1) := by decide +kernel
theorem d34_0 : decode jdk_42_method_149_code 0 = .ok (.aload_n 0, 1) := by decide +kernel
theorem d34_1 : decode jdk_42_method_149_code 1 = .ok (.invokespecial 1, 3) := by decide +kernel
theorem d34_4 : decode jdk_42_method_149_code 4 = .ok (.iload_n 3, 1) := by decide +kernel
theorem d34_5 : decode jdk_42_method_149_code 5 = .ok (.ifCond .ne 22, 3) := by decide +kernel
theorem d34_8 : decode jdk_42_method_149_code 8 = .ok (.aload_n 0, 1) := by decide +kernel
theorem d34_9 : decode jdk_42_method_149_code 9 = .ok (.ldc 7, 2) := by decide +kernel
theorem d34_11 : decode jdk_42_method_149_code 11 = .ok (.getfield 9, 3) := by decide +kernel
theorem d34_14 : decode jdk_42_method_149_code 14 = .ok (.putfield 9, 3) := by decide +kernel
theorem d34_17 : decode jdk_42_method_149_code 17 = .ok (.aload_n 0, 1) := by decide +kernel
theorem d34_18 : decode jdk_42_method_149_code 18 = .ok (.ldc 7, 2) := by decide +kernel
theorem d34_20 : decode jdk_42_method_149_code 20 = .ok (.getfield 15, 3) := by decide +kernel
theorem d34_23 : decode jdk_42_method_149_code 23 = .ok (.putfield 15, 3) := by decide +kernel
theorem d34_26 : decode jdk_42_method_149_code 26 = .ok (.return_, 1) := by decide +kernel
theorem d35_0 : decode jdk_42_method_3_code 0 = .ok (.aload_n 0, 1) := by decide +kernel
theorem d35_1 : decode jdk_42_method_3_code 1 = .ok (.aload_n 1, 1) := by decide +kernel
theorem d35_2 : decode jdk_42_method_3_code 2 = .ok (.iconst 0, 1) := by decide +kernel
theorem d35_3 : decode jdk_42_method_3_code 3 = .ok (.aload_n 1, 1) := by decide +kernel
theorem d35_4 : decode jdk_42_method_3_code 4 = .ok (.arraylength, 1) := by decide +kernel
theorem d35_5 : decode jdk_42_method_3_code 5 = .ok (.aconst_null, 1) := by decide +kernel
theorem d35_6 : decode jdk_42_method_3_code 6 = .ok (.invokespecial 27, 3) := by decide +kernel
theorem d35_9 : decode jdk_42_method_3_code 9 = .ok (.return_, 1) := by decide +kernel
theorem d36_0 : decode method_2_code 0 = .ok (.iload_n 0, 1) := by decide +kernel
theorem d36_1 : decode method_2_code 1 = .ok (.sipush 255, 3) := by decide +kernel
theorem d36_4 : decode method_2_code 4 = .ok (.iand, 1) := by decide +kernel
theorem d36_5 : decode method_2_code 5 = .ok (.i2c, 1) := by decide +kernel
theorem d36_6 : decode method_2_code 6 = .ok (.istore_n 2, 1) := by decide +kernel
theorem d36_7 : decode method_2_code 7 = .ok (.iload_n 0, 1) := by decide +kernel
theorem d36_8 : decode method_2_code 8 = .ok (.bipush 8, 2) := by decide +kernel
theorem d36_10 : decode method_2_code 10 = .ok (.iushr, 1) := by decide +kernel
theorem d36_11 : decode method_2_code 11 = .ok (.sipush 255, 3) := by decide +kernel
theorem d36_14 : decode method_2_code 14 = .ok (.iand, 1) := by decide +kernel
theorem d36_15 : decode method_2_code 15 = .ok (.i2c, 1) := by decide +kernel
theorem d36_16 : decode method_2_code 16 = .ok (.istore_n 3, 1) := by decide +kernel
theorem d36_17 : decode method_2_code 17 = .ok (.iload_n 1, 1) := by decide +kernel
theorem d36_18 : decode method_2_code 18 = .ok (.ifCond .ne 14, 3) := by decide +kernel
theorem d36_21 : decode method_2_code 21 = .ok (.new 7, 3) := by decide +kernel
theorem d36_24 : decode method_2_code 24 = .ok (.dup, 1) := by decide +kernel
theorem d36_25 : decode method_2_code 25 = .ok (.iconst 0, 1) := by decide +kernel
theorem d36_26 : decode method_2_code 26 = .ok (.newarray .char, 2) := by decide +kernel
theorem d36_28 : decode method_2_code 28 = .ok (.invokespecial 9, 3) := by decide +kernel
theorem d36_31 : decode method_2_code 31 = .ok (.areturn, 1) := by decide +kernel
theorem d36_32 : decode method_2_code 32 = .ok (.iload_n 1, 1) := by decide +kernel
theorem d36_33 : decode method_2_code 33 = .ok (.iconst 1, 1) := by decide +kernel
theorem d36_34 : decode method_2_code 34 = .ok (.if_icmp .ne 8, 3) := by decide +kernel
theorem d36_37 : decode method_2_code 37 = .ok (.iload_n 2, 1) := by decide +kernel
theorem d36_38 : decode method_2_code 38 = .ok (.invokestatic 12, 3) := by decide +kernel
theorem d36_41 : decode method_2_code 41 = .ok (.areturn, 1) := by decide +kernel
theorem d36_42 : decode method_2_code 42 = .ok (.new 7, 3) := by decide +kernel
theorem d36_45 : decode method_2_code 45 = .ok (.dup, 1) := by decide +kernel
theorem d36_46 : decode method_2_code 46 = .ok (.iconst 2, 1) := by decide +kernel
theorem d36_47 : decode method_2_code 47 = .ok (.newarray .char, 2) := by decide +kernel
theorem d36_49 : decode method_2_code 49 = .ok (.dup, 1) := by decide +kernel
theorem d36_50 : decode method_2_code 50 = .ok (.iconst 0, 1) := by decide +kernel
theorem d36_51 : decode method_2_code 51 = .ok (.iload_n 2, 1) := by decide +kernel
theorem d36_52 : decode method_2_code 52 = .ok (.castore, 1) := by decide +kernel
theorem d36_53 : decode method_2_code 53 = .ok (.dup, 1) := by decide +kernel
theorem d36_54 : decode method_2_code 54 = .ok (.iconst 1, 1) := by decide +kernel
theorem d36_55 : decode method_2_code 55 = .ok (.iload_n 3, 1) := by decide +kernel
theorem d36_56 : decode method_2_code 56 = .ok (.castore, 1) := by decide +kernel
theorem d36_57 : decode method_2_code 57 = .ok (.invokespecial 9, 3) := by decide +kernel
theorem d36_60 : decode method_2_code 60 = .ok (.areturn, 1) := by decide +kernel
theorem d37_0 : decode jdk_31_method_11_code 0 = .ok (.aload_n 0, 1) := by decide +kernel
theorem d37_1 : decode jdk_31_method_11_code 1 = .ok (.ifnonnull 12, 3) := by decide +kernel
theorem d37_13 : decode jdk_31_method_11_code 13 = .ok (.aload_n 0, 1) := by decide +kernel
theorem d37_14 : decode jdk_31_method_11_code 14 = .ok (.areturn, 1) := by decide +kernel
theorem d38_0 : decode prog_26_method_1_code 0 = .ok (.aload_n 0, 1) := by decide +kernel
theorem d38_1 : decode prog_26_method_1_code 1 = .ok (.invokespecial 1, 3) := by decide +kernel
theorem d38_4 : decode prog_26_method_1_code 4 = .ok (.aload_n 0, 1) := by decide +kernel
theorem d38_5 : decode prog_26_method_1_code 5 = .ok (.aload_n 1, 1) := by decide +kernel
theorem d38_6 : decode prog_26_method_1_code 6 = .ok (.ldc 7, 2) := by decide +kernel
theorem d38_8 : decode prog_26_method_1_code 8 = .ok (.invokestatic 9, 3) := by decide +kernel
theorem d38_11 : decode prog_26_method_1_code 11 = .ok (.checkcast 15, 3) := by decide +kernel
theorem d38_14 : decode prog_26_method_1_code 14 = .ok (.putfield 17, 3) := by decide +kernel
theorem d38_17 : decode prog_26_method_1_code 17 = .ok (.aload_n 0, 1) := by decide +kernel
theorem d38_18 : decode prog_26_method_1_code 18 = .ok (.aload_n 2, 1) := by decide +kernel
theorem d38_19 : decode prog_26_method_1_code 19 = .ok (.ldc 22, 2) := by decide +kernel
theorem d38_21 : decode prog_26_method_1_code 21 = .ok (.invokestatic 9, 3) := by decide +kernel
theorem d38_24 : decode prog_26_method_1_code 24 = .ok (.checkcast 15, 3) := by decide +kernel
theorem d38_27 : decode prog_26_method_1_code 27 = .ok (.putfield 24, 3) := by decide +kernel
theorem d38_30 : decode prog_26_method_1_code 30 = .ok (.aload_n 0, 1) := by decide +kernel
theorem d38_31 : decode prog_26_method_1_code 31 = .ok (.aload_n 3, 1) := by decide +kernel
theorem d38_32 : decode prog_26_method_1_code 32 = .ok (.ldc 26, 2) := by decide +kernel
theorem d38_34 : decode prog_26_method_1_code 34 = .ok (.invokestatic 9, 3) := by decide +kernel
theorem d38_37 : decode prog_26_method_1_code 37 = .ok (.checkcast 15, 3) := by decide +kernel
theorem d38_40 : decode prog_26_method_1_code 40 = .ok (.putfield 28, 3) := by decide +kernel
theorem d38_43 : decode prog_26_method_1_code 43 = .ok (.return_, 1) := by decide +kernel
theorem d39_0 : decode prog_20_method_1_code 0 = .ok (.aload_n 0, 1) := by decide +kernel
theorem d39_1 : decode prog_20_method_1_code 1 = .ok (.invokespecial 1, 3) := by decide +kernel
theorem d39_4 : decode prog_20_method_1_code 4 = .ok (.aload_n 0, 1) := by decide +kernel
theorem d39_5 : decode prog_20_method_1_code 5 = .ok (.iload_n 1, 1) := by decide +kernel
theorem d39_6 : decode prog_20_method_1_code 6 = .ok (.putfield 7, 3) := by decide +kernel
theorem d39_9 : decode prog_20_method_1_code 9 = .ok (.aload_n 0, 1) := by decide +kernel
theorem d39_10 : decode prog_20_method_1_code 10 = .ok (.aload_n 2, 1) := by decide +kernel
theorem d39_11 : decode prog_20_method_1_code 11 = .ok (.ldc 13, 2) := by decide +kernel
theorem d39_13 : decode prog_20_method_1_code 13 = .ok (.invokestatic 15, 3) := by decide +kernel
theorem d39_16 : decode prog_20_method_1_code 16 = .ok (.checkcast 21, 3) := by decide +kernel
theorem d39_19 : decode prog_20_method_1_code 19 = .ok (.putfield 23, 3) := by decide +kernel
theorem d39_22 : decode prog_20_method_1_code 22 = .ok (.aload_n 0, 1) := by decide +kernel
theorem d39_23 : decode prog_20_method_1_code 23 = .ok (.aload_n 3, 1) := by decide +kernel
theorem d39_24 : decode prog_20_method_1_code 24 = .ok (.ldc 26, 2) := by decide +kernel
theorem d39_26 : decode prog_20_method_1_code 26 = .ok (.invokestatic 15, 3) := by decide +kernel
theorem d39_29 : decode prog_20_method_1_code 29 = .ok (.checkcast 21, 3) := by decide +kernel
theorem d39_32 : decode prog_20_method_1_code 32 = .ok (.putfield 28, 3) := by decide +kernel
theorem d39_35 : decode prog_20_method_1_code 35 = .ok (.aload_n 0, 1) := by decide +kernel
theorem d39_36 : decode prog_20_method_1_code 36 = .ok (.aload 4, 2) := by decide +kernel
theorem d39_38 : decode prog_20_method_1_code 38 = .ok (.ldc 30, 2) := by decide +kernel
theorem d39_40 : decode prog_20_method_1_code 40 = .ok (.invokestatic 15, 3) := by decide +kernel
theorem d39_43 : decode prog_20_method_1_code 43 = .ok (.checkcast 21, 3) := by decide +kernel
theorem d39_46 : decode prog_20_method_1_code 46 = .ok (.putfield 32, 3) := by decide +kernel
theorem d39_49 : decode prog_20_method_1_code 49 = .ok (.return_, 1) := by decide +kernel
theorem d40_0 : decode prog_26_method_3_code 0 = .ok (.aload_n 0, 1) := by decide +kernel
theorem d40_1 : decode prog_26_method_3_code 1 = .ok (.getfield 24, 3) := by decide +kernel
theorem d40_4 : decode prog_26_method_3_code 4 = .ok (.areturn, 1) := by decide +kernel
theorem d41_0 : decode prog_26_method_4_code 0 = .ok (.aload_n 0, 1) := by decide +kernel
theorem d41_1 : decode prog_26_method_4_code 1 = .ok (.getfield 28, 3) := by decide +kernel
theorem d41_4 : decode prog_26_method_4_code 4 = .ok (.areturn, 1) := by decide +kernel
theorem d42_0 : decode prog_20_method_3_code 0 = .ok (.aload_n 0, 1) := by decide +kernel
theorem d42_1 : decode prog_20_method_3_code 1 = .ok (.getfield 7, 3) := by decide +kernel
theorem d42_4 : decode prog_20_method_3_code 4 = .ok (.ireturn, 1) := by decide +kernel
theorem d43_0 : decode prog_20_method_4_code 0 = .ok (.aload_n 0, 1) := by decide +kernel
theorem d43_1 : decode prog_20_method_4_code 1 = .ok (.getfield 23, 3) := by decide +kernel
theorem d43_4 : decode prog_20_method_4_code 4 = .ok (.areturn, 1) := by decide +kernel
theorem d44_0 : decode prog_20_method_5_code 0 = .ok (.aload_n 0, 1) := by decide +kernel
theorem d44_1 : decode prog_20_method_5_code 1 = .ok (.getfield 28, 3) := by decide +kernel
theorem d44_4 : decode prog_20_method_5_code 4 = .ok (.areturn, 1) := by decide +kernel
theorem d45_0 : decode prog_20_method_6_code 0 = .ok (.aload_n 0, 1) := by decide +kernel
theorem d45_1 : decode prog_20_method_6_code 1 = .ok (.getfield 32, 3) := by decide +kernel
theorem d45_4 : decode prog_20_method_6_code 4 = .ok (.areturn, 1) := by decide +kernel
theorem d46_0 : decode prog_20_method_2_code 0 = .ok (.new 8, 3) := by decide +kernel
theorem d46_3 : decode prog_20_method_2_code 3 = .ok (.dup, 1) := by decide +kernel
theorem d46_4 : decode prog_20_method_2_code 4 = .ok (.iload_n 0, 1) := by decide +kernel
theorem d46_5 : decode prog_20_method_2_code 5 = .ok (.aload_n 1, 1) := by decide +kernel
theorem d46_6 : decode prog_20_method_2_code 6 = .ok (.invokevirtual 34, 3) := by decide +kernel
theorem d46_9 : decode prog_20_method_2_code 9 = .ok (.aload_n 1, 1) := by decide +kernel
theorem d46_10 : decode prog_20_method_2_code 10 = .ok (.invokevirtual 39, 3) := by decide +kernel
theorem d46_13 : decode prog_20_method_2_code 13 = .ok (.ldc 42, 2) := by decide +kernel
theorem d46_15 : decode prog_20_method_2_code 15 = .ok (.invokespecial 44, 3) := by decide +kernel
theorem d46_18 : decode prog_20_method_2_code 18 = .ok (.areturn, 1) := by decide +kernel
theorem d47_0 : decode jdk_42_method_66_code 0 = .ok (.aload_n 0, 1) := by decide +kernel
theorem d47_1 : decode jdk_42_method_66_code 1 = .ok (.aload_n 1, 1) := by decide +kernel
theorem d47_2 : decode jdk_42_method_66_code 2 = .ok (.if_acmp .ne 5, 3) := by decide +kernel
theorem d47_5 : decode jdk_42_method_66_code 5 = .ok (.iconst 1, 1) := by decide +kernel
theorem d47_6 : decode jdk_42_method_66_code 6 = .ok (.ireturn, 1) := by decide +kernel
theorem pd_0 : parseMethodDescriptor "(C)Z" = some ⟨[.char], some .boolean⟩ := by decide +kernel
theorem pd_1 : parseMethodDescriptor "(C)[B" = some ⟨[.char], some (.array .byte)⟩ := by decide +kernel
theorem pd_2 : parseMethodDescriptor "([BB)V" = some ⟨[(.array .byte), .byte], none⟩ := by decide +kernel
theorem pd_3 : parseMethodDescriptor "([CIILjava/lang/Void;)V" = some ⟨[(.array .char), .int, .int, (.object "java/lang/Void")], none⟩ := by decide +kernel
theorem pd_4 : parseMethodDescriptor "([C)V" = some ⟨[(.array .char)], none⟩ := by decide +kernel
theorem pd_5 : parseMethodDescriptor "(C)Ljava/lang/String;" = some ⟨[.char], some (.object "java/lang/String")⟩ := by decide +kernel
theorem pd_6 : parseMethodDescriptor "(Ljava/lang/Object;Ljava/lang/String;)Ljava/lang/Object;" = some ⟨[(.object "java/lang/Object"), (.object "java/lang/String")], some (.object "java/lang/Object")⟩ := by decide +kernel
theorem pd_7 : parseMethodDescriptor "()Ljava/lang/String;" = some ⟨[], some (.object "java/lang/String")⟩ := by decide +kernel
theorem pd_8 : parseMethodDescriptor "(ILjava/lang/String;Ljava/lang/String;Ljava/lang/String;)V" = some ⟨[.int, (.object "java/lang/String"), (.object "java/lang/String"), (.object "java/lang/String")], none⟩ := by decide +kernel
theorem pd_9 : parseMethodDescriptor "(II)Ljava/lang/String;" = some ⟨[.int, .int], some (.object "java/lang/String")⟩ := by decide +kernel
theorem pd_10 : parseMethodDescriptor "(Ljava/lang/String;Ljava/lang/String;Ljava/lang/String;)V" = some ⟨[(.object "java/lang/String"), (.object "java/lang/String"), (.object "java/lang/String")], none⟩ := by decide +kernel
theorem pd_11 : parseMethodDescriptor "(ILcom/example/assort/assort/TrecDocument;)Lcom/example/assort/assort/Result;" = some ⟨[.int, (.object "com/example/assort/assort/TrecDocument")], some (.object "com/example/assort/assort/Result")⟩ := by decide +kernel
theorem pd_12 : parseMethodDescriptor "()I" = some ⟨[], some .int⟩ := by decide +kernel
theorem pd_13 : parseMethodDescriptor "(Ljava/lang/Object;)Z" = some ⟨[(.object "java/lang/Object")], some .boolean⟩ := by decide +kernel
theorem pd_14 : parseMethodDescriptor "()Z" = some ⟨[], some .boolean⟩ := by decide +kernel
theorem pn_30 : plainName "java/lang/StringLatin1" = true := by first | (simp [plainName, overriddenIn]; done) | decide +kernel
theorem ef_30 (m : MethodId) (x0 : Int32) : entryFrame m #[(.int x0)] 1 = mkF m 0 #[.val (.int x0)] [] := by first | (simp [entryFrame, mkF, argsToLocals, Value.category]; done) | rfl
def Q30 (Z : State) (p1 : Int32) (h0 : Heap) (n0 : Nat) (v : Option Value) (h : Heap) (L : List Loc) : Prop := v = some (.int (1 : Int32)) ∧ Fr n0 L ∧ h = h0
set_option maxRecDepth 65536 in
set_option maxHeartbeats 40000000 in
theorem rm30 (l : Launch) (Z : State) (a0 : Array Value) (hw : ∀ d ∈ tables_1, d.before a0 Z = true) (ws : List Jvm.Cond) (p1 : Int32) (h0 : Heap) (n0 : Nat) (Z0 : n0 ≤ h0.size) (hp : ¬ (255 : Int32) < p1) :
    MetFree l (⟨"java/lang/StringLatin1", "canEncode", "(C)Z"⟩ : MethodName) (head1 (Jvm.Cond.code (⟨"java/lang/StringLatin1", "canEncode", "(C)Z"⟩ : MethodName) jdk_43_method_3_code 1 (some .boolean) :: ws) ({ frames := 0, cells := 0, slots := 0, locals := 0 } : Room)) (fun a U => a = #[(.int p1)] ∧ Z.Warmed39 U.vm ∧ U.heap = h0) (fun _ _ _ _ _ => True) (fun _ U o U' => ∃ v L, o = .returned v ∧ Q30 Z p1 h0 n0 v U'.heap L ∧ FrameEnd U o U' L ({ frames := 0, cells := 0, slots := 0, locals := 0 } : Room).cells ({ frames := 0, cells := 0, slots := 0, locals := 0 } : Room).slots) := by
  refine MetFree.of_bodySF (plainFor_of_name pn_30) hisR ?_
  intro p e s m args below meth c s₁ Bd hml0 hP hK
  obtain ⟨rfl, hZ, hh⟩ := hP
  have hx := Bd.exec
  have hby := Bd.bytes
  have hml : c.maxLocals = 1 := hml0
  have hown : s.vm.findClass "java/lang/StringLatin1" = some m.cls := findClass_of_methodNamed Bd.named
  have hnm := (name_of_methodNamed Bd.named Bd.method).1
  have X0 : Stand p l e ({ frames := 0, cells := 0, slots := 0, locals := 0 } : Room) s m #[(.int p1)] below meth c s₁ [] 0 0 := Stand.of_body Bd
  have e0 : s₁.heap = h0 := by rw [← hh, Bd.state]; rfl
  have N0 := Fr.nil n0
  refine Gl.gen fun P hPost => ?_
  refine Gl.st (fun t k => castTop (ef_30 m p1 ) k) ?_
  show Gl p e below P (s₁.setTop (mkF m 0 #[.val (.int p1)] []))
  refine Gl.st (fun _ k => XS.iloadN X0.here hx rfl (hb hby d30_0) rfl k) ?_
  show Gl p e below P (s₁.setTop (mkF m 1 #[.val (.int p1)] [(.int p1)]))
  refine Gl.st (fun _ k => XS.sipush X0.here hx rfl (hb hby d30_1) k) ?_
  show Gl p e below P (s₁.setTop (mkF m 4 #[.val (.int p1)] [(.int (255 : Int32)), (.int p1)]))
  refine Gl.st (fun _ k => XS.icmpNo X0.here hx rfl (hb hby d30_4) rfl (flt (hp : ¬ ((255 : Int32) < p1))).2.2.1 k) ?_
  show Gl p e below P (s₁.setTop (mkF m 7 #[.val (.int p1)] []))
  refine Gl.st (fun _ k => XS.iconst X0.here hx rfl (hb hby d30_7) k) ?_
  show Gl p e below P (s₁.setTop (mkF m 8 #[.val (.int p1)] [(.int (1 : Int32))]))
  refine Gl.st (fun _ k => XS.goto X0.here hx rfl (pc0 := 8) (pc' := 12) rfl (hb hby d30_8) (by decide) (by decide) k) ?_
  show Gl p e below P (s₁.setTop (mkF m 12 #[.val (.int p1)] [(.int (1 : Int32))]))
  obtain ⟨fs, hr, hrun, hended, hW, hsame⟩ := X0.leave (v := some (.int (1 : Int32))) (fun h => by rw [Bd.returns] at h; cases h)
  refine ⟨_, _, retN X0 hx (t := .boolean) Bd.returns (by simp) (hb hby d30_12) hr, hrun, hended, hPost _ _ ⟨_, _, rfl, ?_, ⟨_, rfl⟩, hW, hsame.mono (by decide) (by decide)⟩⟩
  show Q30 Z p1 h0 n0 _ s₁.heap _
  rw [e0]
  exact ⟨rfl, N0, rfl⟩
theorem pn_31 : plainName "java/lang/StringLatin1" = true := by first | (simp [plainName, overriddenIn]; done) | decide +kernel
theorem ef_31 (m : MethodId) (x0 : Int32) : entryFrame m #[(.int x0)] 1 = mkF m 0 #[.val (.int x0)] [] := by first | (simp [entryFrame, mkF, argsToLocals, Value.category]; done) | rfl
def Q31 (Z : State) (p1 : Int32) (h0 : Heap) (n0 : Nat) (v : Option Value) (h : Heap) (L : List Loc) : Prop := Fr n0 L ∧ Keep h0 h [] ∧ ∃ (t : Addr) (kb : ClassId), v = some (.ref t) ∧ h0.size ≤ t ∧ n0 ≤ t ∧ Arv Z h t kb .byte (1 : Int32) [(.int (p1.toInt8.toInt32))] (.int (0 : Int32))
set_option maxRecDepth 65536 in
set_option maxHeartbeats 40000000 in
theorem rm31 (l : Launch) (Z : State) (a0 : Array Value) (hw : ∀ d ∈ tables_1, d.before a0 Z = true) (ws : List Jvm.Cond) (p1 : Int32) (h0 : Heap) (n0 : Nat) (Z0 : n0 ≤ h0.size)  :
    MetFree l (⟨"java/lang/StringLatin1", "toBytes", "(C)[B"⟩ : MethodName) (head1 (Jvm.Cond.code (⟨"java/lang/StringLatin1", "toBytes", "(C)[B"⟩ : MethodName) jdk_43_method_46_code 1 (some (.array .byte)) :: ws) ({ frames := 0, cells := 1, slots := 1, locals := 0 } : Room)) (fun a U => a = #[(.int p1)] ∧ Z.Warmed39 U.vm ∧ U.heap = h0) (fun _ _ _ _ _ => True) (fun _ U o U' => ∃ v L, o = .returned v ∧ Q31 Z p1 h0 n0 v U'.heap L ∧ FrameEnd U o U' L ({ frames := 0, cells := 1, slots := 1, locals := 0 } : Room).cells ({ frames := 0, cells := 1, slots := 1, locals := 0 } : Room).slots) := by
  refine MetFree.of_bodySF (plainFor_of_name pn_31) hisR ?_
  intro p e s m args below meth c s₁ Bd hml0 hP hK
  obtain ⟨rfl, hZ, hh⟩ := hP
  have hx := Bd.exec
  have hby := Bd.bytes
  have hml : c.maxLocals = 1 := hml0
  have hown : s.vm.findClass "java/lang/StringLatin1" = some m.cls := findClass_of_methodNamed Bd.named
  have hnm := (name_of_methodNamed Bd.named Bd.method).1
  have X0 : Stand p l e ({ frames := 0, cells := 1, slots := 1, locals := 0 } : Room) s m #[(.int p1)] below meth c s₁ [] 0 0 := Stand.of_body Bd
  have e0 : s₁.heap = h0 := by rw [← hh, Bd.state]; rfl
  have N0 := Fr.nil n0
  refine Gl.gen fun P hPost => ?_
  refine Gl.st (fun t k => castTop (ef_31 m p1 ) k) ?_
  show Gl p e below P (s₁.setTop (mkF m 0 #[.val (.int p1)] []))
  refine Gl.st (fun _ k => XS.iconst X0.here hx rfl (hb hby d31_0) k) ?_
  show Gl p e below P (s₁.setTop (mkF m 1 #[.val (.int p1)] [(.int (1 : Int32))]))
  obtain ⟨T1, h1, k1, X1, e1, E1, A1, st1⟩ := newP X0 hx hZ (hw _ (List.mem_of_getElem? (i := 18) rfl)) e0 (g := (mkF m 1 #[.val (.int p1)] [(.int (1 : Int32))])) rfl (hb hby d31_1) rfl (by decide) (cap := 1) (by decide) (by decide) (by decide) (by decide)
  obtain ⟨b1, g1⟩ : ∃ z, z = h0.size := ⟨_, rfl⟩
  rw [← g1] at A1 st1
  refine Gl.st st1 ?_
  have g_b1 : n0 ≤ b1 := Nat.le_trans Z0 (Nat.le_of_eq g1.symm)
  have sz_b1 : h0.size ≤ b1 := Nat.le_trans (Keep.refl h0 []).1 (Nat.le_of_eq g1.symm)
  have Z0_v1 : n0 ≤ h1.size := Nat.le_trans Z0 E1.1
  have f_K_v1 : Keep h0 h1 [] := (Keep.refl h0 []).ext E1
  have V_b1 : Arv Z h1 b1 k1 .byte (1 : Int32) [(.int (0 : Int32))] (.int (0 : Int32)) := (Arv.new A1 (by decide)).pad (pad_rep [] (.int (0 : Int32)) 1)
  show Gl p e below P (T1.setTop (mkF m 3 #[.val (.int p1)] [(.ref b1)]))
  refine Gl.st (fun _ k => XS.dup X1.here hx rfl (hb hby d31_3) rfl rfl k) ?_
  show Gl p e below P (T1.setTop (mkF m 4 #[.val (.int p1)] [(.ref b1), (.ref b1)]))
  refine Gl.st (fun _ k => XS.iconst X1.here hx rfl (hb hby d31_4) k) ?_
  show Gl p e below P (T1.setTop (mkF m 5 #[.val (.int p1)] [(.int (0 : Int32)), (.ref b1), (.ref b1)]))
  refine Gl.st (fun _ k => XS.iloadN X1.here hx rfl (hb hby d31_5) rfl k) ?_
  show Gl p e below P (T1.setTop (mkF m 6 #[.val (.int p1)] [(.int p1), (.int (0 : Int32)), (.ref b1), (.ref b1)]))
  refine Gl.st (fun _ k => XS.i2b X1.here hx rfl (hb hby d31_6) rfl k) ?_
  show Gl p e below P (T1.setTop (mkF m 7 #[.val (.int p1)] [(.int (p1.toInt8.toInt32)), (.int (0 : Int32)), (.ref b1), (.ref b1)]))
  obtain ⟨c2, Ar2, q2, S2, M2, H2, U2⟩ := id V_b1
  obtain ⟨T3, h3, X3, e3, W3, st3⟩ := stB X1 hx hZ e1 Ar2 (j := (0 : Int32)) (inb_of S2 ⟨(by decide : ¬ ((0 : Int32) < (0 : Int32))), (by decide : (0 : Int32) < (1 : Int32))⟩) (g := (mkF m 7 #[.val (.int p1)] [(.int (p1.toInt8.toInt32)), (.int (0 : Int32)), (.ref b1), (.ref b1)])) rfl rfl (hb hby d31_7)
  refine Gl.st st3 ?_
  have Z0_v3 : n0 ≤ h3.size := Nat.le_trans Z0_v1 (Keep.of_wr W3).1
  have f_K_v3 : Keep h0 h3 [] := f_K_v1.wr W3 (Or.inr sz_b1)
  have V_b1_3 : Arv Z h3 b1 k1 .byte (1 : Int32) [(.int (nar .byte (p1.toInt8.toInt32)))] (.int (0 : Int32)) := Arv.set Ar2 q2 S2 M2 H2 U2 (fits_nar_byte _) W3 0 rfl (Nat.le_of_ble_eq_true rfl)
  have N3 := Fr.snoc X3 N0 g_b1
  show Gl p e below P (T3.setTop (mkF m 8 #[.val (.int p1)] [(.ref b1)]))
  have VTT := V_b1_3
  rw [own_i8] at VTT
  obtain ⟨fs, hr, hrun, hended, hW, hsame⟩ := X3.leave (v := some (.ref b1)) (fun h => by rw [Bd.returns] at h; cases h)
  refine ⟨_, _, retOut X3 hx Bd.returns rfl (Or.inr (Or.inr (Or.inr (Or.inr ⟨rfl, rfl, rfl⟩)))) (hb hby d31_8) hr, hrun, hended, hPost _ _ ⟨_, _, rfl, ?_, ⟨_, rfl⟩, hW, hsame.mono (by decide) (by decide)⟩⟩
  show Q31 Z p1 h0 n0 _ T3.heap _
  rw [e3]
  exact ⟨N3, f_K_v3, _, _, rfl, sz_b1, g_b1, VTT⟩
theorem pn_32 : plainName "java/lang/String" = true := by first | (simp [plainName, overriddenIn]; done) | decide +kernel
theorem ef_32 (m : MethodId) (x0 : Addr) (x1 : Addr) (x2 : Int32) : entryFrame m #[(.ref x0), (.ref x1), (.int x2)] 3 = mkF m 0 #[.val (.ref x0), .val (.ref x1), .val (.int x2)] [] := by first | (simp [entryFrame, mkF, argsToLocals, Value.category]; done) | rfl
def Q32 (Z : State) (a1 : Addr) (t2 : Addr) (u1 : Value) (u2 : Value) (h0 : Heap) (n0 : Nat) (v : Option Value) (h : Heap) (L : List Loc) : Prop := v = none ∧ Fr n0 L ∧ Keep h0 h [a1] ∧ Exa Z h a1 "java/lang/String" ∧ Fld Z h a1 "java/lang/String" "coder" "B" (.int (0 : Int32)) ∧ Fld Z h a1 "java/lang/String" "value" "[B" (.ref t2)
set_option maxRecDepth 65536 in
set_option maxHeartbeats 40000000 in
theorem rm32 (l : Launch) (Z : State) (a0 : Array Value) (hw : ∀ d ∈ tables_1, d.before a0 Z = true) (ws : List Jvm.Cond) (a1 : Addr) (t2 : Addr) (u1 : Value) (u2 : Value) (h0 : Heap) (n0 : Nat) (Z0 : n0 ≤ h0.size) (E1 : Exa Z h0 a1 "java/lang/String") (F1 : Fld Z h0 a1 "java/lang/String" "value" "[B" u1) (F2 : Fld Z h0 a1 "java/lang/String" "coder" "B" u2) (g1 : n0 ≤ a1) :
    MetFree l (⟨"java/lang/String", "<init>", "([BB)V"⟩ : MethodName) (head1 (Jvm.Cond.code (⟨"java/lang/String", "<init>", "([BB)V"⟩ : MethodName) jdk_42_method_151_code 3 none :: ws) ({ frames := 1, cells := 0, slots := 0, locals := 12 } : Room)) (fun a U => a = #[(.ref a1), (.ref t2), (.int (0 : Int32))] ∧ Z.Warmed39 U.vm ∧ U.heap = h0) (fun _ _ _ _ _ => True) (fun _ U o U' => ∃ v L, o = .returned v ∧ Q32 Z a1 t2 u1 u2 h0 n0 v U'.heap L ∧ FrameEnd U o U' L ({ frames := 1, cells := 0, slots := 0, locals := 12 } : Room).cells ({ frames := 1, cells := 0, slots := 0, locals := 12 } : Room).slots) := by
  refine MetFree.of_bodySF (plainFor_of_name pn_32) hisR ?_
  intro p e s m args below meth c s₁ Bd hml0 hP hK
  obtain ⟨rfl, hZ, hh⟩ := hP
  have hx := Bd.exec
  have hby := Bd.bytes
  have hml : c.maxLocals = 3 := hml0
  have hown : s.vm.findClass "java/lang/String" = some m.cls := findClass_of_methodNamed Bd.named
  have hnm := (name_of_methodNamed Bd.named Bd.method).1
  have X0 : Stand p l e ({ frames := 1, cells := 0, slots := 0, locals := 12 } : Room) s m #[(.ref a1), (.ref t2), (.int (0 : Int32))] below meth c s₁ [] 0 0 := Stand.of_body Bd
  have e0 : s₁.heap = h0 := by rw [← hh, Bd.state]; rfl
  have N0 := Fr.nil n0
  refine Gl.gen fun P hPost => ?_
  refine Gl.st (fun t k => castTop (ef_32 m a1 t2 (0 : Int32) ) k) ?_
  show Gl p e below P (s₁.setTop (mkF m 0 #[.val (.ref a1), .val (.ref t2), .val (.int (0 : Int32))] []))
  refine Gl.st (fun _ k => XS.aloadN X0.here hx rfl (hb hby d32_0) rfl rfl k) ?_
  show Gl p e below P (s₁.setTop (mkF m 1 #[.val (.ref a1), .val (.ref t2), .val (.int (0 : Int32))] [(.ref a1)]))
  obtain ⟨T1, X1, e1, st1⟩ := initO X0 hx hZ hown (hw _ (List.mem_of_getElem? (i := 23) rfl)) (hw _ (List.mem_of_getElem? (i := 24) rfl)) (hw _ (List.mem_of_getElem? (i := 25) rfl)) e0 (g := (mkF m 1 #[.val (.ref a1), .val (.ref t2), .val (.int (0 : Int32))] [(.ref a1)])) rfl (by rw [hml]; rfl) rfl (hb hby d32_1) (by decide) (W := 0) (by show 2 * 0 + _ ≤ _; exact Nat.le_of_eq rfl) (by decide)
  refine Gl.st st1 ?_
  show Gl p e below P (T1.setTop (mkF m 4 #[.val (.ref a1), .val (.ref t2), .val (.int (0 : Int32))] []))
  refine Gl.st (fun _ k => XS.aloadN X1.here hx rfl (hb hby d32_4) rfl rfl k) ?_
  show Gl p e below P (T1.setTop (mkF m 5 #[.val (.ref a1), .val (.ref t2), .val (.int (0 : Int32))] [(.ref a1)]))
  refine Gl.st (fun _ k => XS.aloadN X1.here hx rfl (hb hby d32_5) rfl rfl k) ?_
  show Gl p e below P (T1.setTop (mkF m 6 #[.val (.ref a1), .val (.ref t2), .val (.int (0 : Int32))] [(.ref t2), (.ref a1)]))
  obtain ⟨T2, h2, X2, e2, W2, st2⟩ := putF X1 hx hZ hown (host := "") (Or.inl (hw _ (List.mem_of_getElem? (i := 26) rfl))) Via.refl e1 F1 E1 (Or.inr ⟨(hw _ (List.mem_of_getElem? (i := 27) rfl)), rfl, hnm⟩) (hw _ (List.mem_of_getElem? (i := 14) rfl)) (ty := (.array .byte)) (by decide) rfl rfl (g := (mkF m 6 #[.val (.ref a1), .val (.ref t2), .val (.int (0 : Int32))] [(.ref t2), (.ref a1)])) rfl rfl (hb hby d32_6)
  refine Gl.st st2 ?_
  have Z0_v2 : n0 ≤ h2.size := Nat.le_trans Z0 (Keep.of_wr W2).1
  have E1_v2 : Exa Z h2 a1 "java/lang/String" := E1.wr W2
  have F2_v2 : Fld Z h2 a1 "java/lang/String" "coder" "B" u2 := F2.other W2 (Or.inr (slot_ne (Or.inr (hw _ (List.mem_of_getElem? (i := 29) rfl))) (Or.inr (hw _ (List.mem_of_getElem? (i := 27) rfl))) (by decide) (t := .byte) (t' := (.array .byte)) (by decide) (by decide)))
  have f_K_v2 : Keep h0 h2 [a1] := (Keep.refl h0 [a1]).wr W2 (Or.inl (List.mem_of_getElem? (i := 0) rfl))
  have Fw2 : Fld Z h2 a1 "java/lang/String" "value" "[B" (.ref t2) := F1.same W2
  have N2 := Fr.snoc X2 N0 g1
  show Gl p e below P (T2.setTop (mkF m 9 #[.val (.ref a1), .val (.ref t2), .val (.int (0 : Int32))] []))
  refine Gl.st (fun _ k => XS.aloadN X2.here hx rfl (hb hby d32_9) rfl rfl k) ?_
  show Gl p e below P (T2.setTop (mkF m 10 #[.val (.ref a1), .val (.ref t2), .val (.int (0 : Int32))] [(.ref a1)]))
  refine Gl.st (fun _ k => XS.iloadN X2.here hx rfl (hb hby d32_10) rfl k) ?_
  show Gl p e below P (T2.setTop (mkF m 11 #[.val (.ref a1), .val (.ref t2), .val (.int (0 : Int32))] [(.int (0 : Int32)), (.ref a1)]))
  obtain ⟨T3, h3, X3, e3, W3, st3⟩ := putFN X2 hx hZ hown (hw _ (List.mem_of_getElem? (i := 28) rfl)) Via.refl e2 F2_v2 E1_v2 (Or.inr ⟨(hw _ (List.mem_of_getElem? (i := 29) rfl)), rfl, hnm⟩) (hw _ (List.mem_of_getElem? (i := 14) rfl)) (ty := .byte) (v' := (.int (nar .byte (0 : Int32)))) (by decide) rfl (fits_nar_byte _) (g := (mkF m 11 #[.val (.ref a1), .val (.ref t2), .val (.int (0 : Int32))] [(.int (0 : Int32)), (.ref a1)])) rfl rfl (hb hby d32_11)
  refine Gl.st st3 ?_
  have Z0_v3 : n0 ≤ h3.size := Nat.le_trans Z0_v2 (Keep.of_wr W3).1
  have E1_v3 : Exa Z h3 a1 "java/lang/String" := E1_v2.wr W3
  have f_K_v3 : Keep h0 h3 [a1] := f_K_v2.wr W3 (Or.inl (List.mem_of_getElem? (i := 0) rfl))
  have Fw2_v3 : Fld Z h3 a1 "java/lang/String" "value" "[B" (.ref t2) := Fw2.other W3 (Or.inr (slot_ne (Or.inr (hw _ (List.mem_of_getElem? (i := 27) rfl))) (Or.inr (hw _ (List.mem_of_getElem? (i := 29) rfl))) (by decide) (t := (.array .byte)) (t' := .byte) (by decide) (by decide)))
  have Fw3 : Fld Z h3 a1 "java/lang/String" "coder" "B" (.int (0 : Int32)) := F2_v2.same W3
  have N3 := Fr.snoc X3 N2 g1
  show Gl p e below P (T3.setTop (mkF m 14 #[.val (.ref a1), .val (.ref t2), .val (.int (0 : Int32))] []))
  obtain ⟨fs, hr, hrun, hended, hW, hsame⟩ := X3.leave (v := none) (fun _ => rfl)
  refine ⟨_, _, X3.returnOut hx Bd.returns (hb hby d32_14) hr, hrun, hended, hPost _ _ ⟨_, _, rfl, ?_, ⟨_, rfl⟩, hW, hsame.mono (by decide) (by decide)⟩⟩
  show Q32 Z a1 t2 u1 u2 h0 n0 _ T3.heap _
  rw [e3]
  exact ⟨rfl, N3, f_K_v3, E1_v3, Fw3, Fw2_v3⟩
theorem pn_33 : plainName "java/lang/String" = true := by first | (simp [plainName, overriddenIn]; done) | decide +kernel
theorem ef_33 (m : MethodId) (x0 : Int32) : entryFrame m #[(.int x0)] 1 = mkF m 0 #[.val (.int x0)] [] := by first | (simp [entryFrame, mkF, argsToLocals, Value.category]; done) | rfl
def Q33 (Z : State) (p1 : Int32) (G1 : Int32) (h0 : Heap) (n0 : Nat) (v : Option Value) (h : Heap) (L : List Loc) : Prop := Fr n0 L ∧ Keep h0 h [] ∧ ∃ b, v = some (.ref b) ∧ ∃ (t : Addr) (kb : ClassId), Exa Z h b "java/lang/String" ∧ Fld Z h b "java/lang/String" "coder" "B" (.int (0 : Int32)) ∧ Fld Z h b "java/lang/String" "value" "[B" (.ref t) ∧ Arv Z h t kb .byte (1 : Int32) [(.int (p1.toInt8.toInt32))] (.int (0 : Int32))
set_option maxRecDepth 65536 in
set_option maxHeartbeats 40000000 in
theorem rm33 (l : Launch) (Z : State) (a0 : Array Value) (hw : ∀ d ∈ tables_1, d.before a0 Z = true) (ws : List Jvm.Cond) (p1 : Int32) (G1 : Int32) (h0 : Heap) (n0 : Nat) (Z0 : n0 ≤ h0.size) (O2 : Sta Z Z.heap "java/lang/String" "COMPACT_STRINGS" "Z" (.int G1)) (P5 : ¬ (G1 = (0 : Int32))) (hp : ¬ (255 : Int32) < p1) (X00 : Old Z n0 h0) :
    MetFree l (⟨"java/lang/String", "valueOf", "(C)Ljava/lang/String;"⟩ : MethodName) (head1 (Jvm.Cond.code (⟨"java/lang/String", "valueOf", "(C)Ljava/lang/String;"⟩ : MethodName) jdk_42_method_139_code 1 (some (.object "java/lang/String")) :: ws) ({ frames := 2, cells := 2, slots := 5, locals := 27 } : Room)) (fun a U => a = #[(.int p1)] ∧ Z.Warmed39 U.vm ∧ U.heap = h0) (fun _ _ _ _ _ => True) (fun _ U o U' => ∃ v L, o = .returned v ∧ Q33 Z p1 G1 h0 n0 v U'.heap L ∧ FrameEnd U o U' L ({ frames := 2, cells := 2, slots := 5, locals := 27 } : Room).cells ({ frames := 2, cells := 2, slots := 5, locals := 27 } : Room).slots) := by
  refine MetFree.of_bodySF (plainFor_of_name pn_33) hisR ?_
  intro p e s m args below meth c s₁ Bd hml0 hP hK
  obtain ⟨rfl, hZ, hh⟩ := hP
  have hx := Bd.exec
  have hby := Bd.bytes
  have hml : c.maxLocals = 1 := hml0
  have hown : s.vm.findClass "java/lang/String" = some m.cls := findClass_of_methodNamed Bd.named
  have hnm := (name_of_methodNamed Bd.named Bd.method).1
  have X0 : Stand p l e ({ frames := 2, cells := 2, slots := 5, locals := 27 } : Room) s m #[(.int p1)] below meth c s₁ [] 0 0 := Stand.of_body Bd
  have e0 : s₁.heap = h0 := by rw [← hh, Bd.state]; rfl
  have N0 := Fr.nil n0
  refine Gl.gen fun P hPost => ?_
  refine Gl.st (fun t k => castTop (ef_33 m p1 ) k) ?_
  show Gl p e below P (s₁.setTop (mkF m 0 #[.val (.int p1)] []))
  obtain ⟨T1, X1, e1, st1⟩ := getS2 X0 hx hZ hown (host := "") (Or.inl (hw _ (List.mem_of_getElem? (i := 8) rfl))) Via.refl e0 (O2.ext X00.2) (g := (mkF m 0 #[.val (.int p1)] [])) rfl (hb hby d33_0)
  refine Gl.st st1 ?_
  show Gl p e below P (T1.setTop (mkF m 3 #[.val (.int p1)] [(.int G1)]))
  refine Gl.st (fun _ k => XS.ifNo X1.here hx rfl (hb hby d33_3) rfl ((if0 _ _).trans (feq (P5 : ¬ (G1 = (0 : Int32)))).1) k) ?_
  show Gl p e below P (T1.setTop (mkF m 6 #[.val (.int p1)] []))
  refine Gl.st (fun _ k => XS.iloadN X1.here hx rfl (hb hby d33_6) rfl k) ?_
  show Gl p e below P (T1.setTop (mkF m 7 #[.val (.int p1)] [(.int p1)]))
  obtain ⟨_, _, ⟨T2, L2, k2, n2⟩, -, X2, ⟨Lc2, hQ2, l2, y2, z2⟩, st2⟩ := Jvm.LawKit.callS X1 hx (y := (⟨"java/lang/StringLatin1", "canEncode", "(C)Z"⟩ : MethodName)) hown (mvT hZ (hw _ (List.mem_of_getElem? (i := 9) rfl))) (mvT hZ (hw _ (List.mem_of_getElem? (i := 10) rfl))) (mvT hZ (hw _ (List.mem_of_getElem? (i := 11) rfl))) (mvT hZ (hw _ (List.mem_of_getElem? (i := 12) rfl))) (by decide) (backOf (W := 0) (rm30 l Z a0 hw [] p1 h0 n0 Z0 hp) hZ (hw _ (List.mem_of_getElem? (i := 12) rfl)) (hw _ (List.mem_of_getElem? (i := 11) rfl)) (by decide) (by decide)) (g := (mkF m 7 #[.val (.int p1)] [(.int p1)])) rfl (by rw [hml]; rfl) (argsL := [(.int p1)]) (rest := []) (lenOf pd_0 rfl) rfl (by show 2 * 0 + _ ≤ _; exact Nat.le_of_eq rfl) (hb hby d33_7) (fun _ _ => ⟨rfl, e1, (by decide : 0 + 0 ≤ _), (by decide : 0 + 0 ≤ _)⟩)
  dsimp only [Pt.U, Pt.locs, Pt.cells, Pt.slots] at X2 l2 y2 z2 st2 hQ2
  subst l2 y2 z2
  obtain ⟨rfl, N2q, e2⟩ := hQ2
  have N2 := Fr.app N0 N2q
  refine Gl.st st2 ?_
  show Gl p e below P (T2.setTop (mkF m 10 #[.val (.int p1)] [(.int (1 : Int32))]))
  refine Gl.st (fun _ k => XS.ifNo X2.here hx rfl (hb hby d33_10) rfl ((if0 _ _).trans (feq (by decide : ¬ ((1 : Int32) = (0 : Int32)))).1) k) ?_
  show Gl p e below P (T2.setTop (mkF m 13 #[.val (.int p1)] []))
  obtain ⟨T3, h3, X3, e3, E3, A3, D3, -, st3⟩ := newO X2 hx hZ hown (hw _ (List.mem_of_getElem? (i := 13) rfl)) (hw _ (List.mem_of_getElem? (i := 14) rfl)) (hw _ (List.mem_of_getElem? (i := 6) rfl)) e2 (g := (mkF m 13 #[.val (.int p1)] [])) rfl (hb hby d33_13) (by decide) (by decide)
  obtain ⟨b3, g3⟩ : ∃ z, z = h0.size := ⟨_, rfl⟩
  rw [← g3] at A3 D3 st3
  refine Gl.st st3 ?_
  have g_b3 : n0 ≤ b3 := Nat.le_trans Z0 (Nat.le_of_eq g3.symm)
  have sz_b3 : h0.size ≤ b3 := Nat.le_trans (Keep.refl h0 []).1 (Nat.le_of_eq g3.symm)
  have Z0_v3 : n0 ≤ h3.size := Nat.le_trans Z0 E3.1
  have X00_v3 : Old Z n0 h3 := X00.ext E3
  have f_K_v3 : Keep h0 h3 [] := (Keep.refl h0 []).ext E3
  have F_value_b3 : Fld Z h3 b3 "java/lang/String" "value" "[B" .null := D3 (Or.inr (hw _ (List.mem_of_getElem? (i := 27) rfl))) (ty := (.array .byte)) (by decide)
  have F_coder_b3 : Fld Z h3 b3 "java/lang/String" "coder" "B" (.int (0 : Int32)) := D3 (Or.inr (hw _ (List.mem_of_getElem? (i := 29) rfl))) (ty := .byte) (by decide)
  show Gl p e below P (T3.setTop (mkF m 16 #[.val (.int p1)] [(.ref b3)]))
  refine Gl.st (fun _ k => XS.dup X3.here hx rfl (hb hby d33_16) rfl rfl k) ?_
  show Gl p e below P (T3.setTop (mkF m 17 #[.val (.int p1)] [(.ref b3), (.ref b3)]))
  refine Gl.st (fun _ k => XS.iloadN X3.here hx rfl (hb hby d33_17) rfl k) ?_
  show Gl p e below P (T3.setTop (mkF m 18 #[.val (.int p1)] [(.int p1), (.ref b3), (.ref b3)]))
  obtain ⟨_, _, ⟨T4, L4, k4, n4⟩, -, X4, ⟨Lc4, hQ4, l4, y4, z4⟩, st4⟩ := Jvm.LawKit.callS X3 hx (y := (⟨"java/lang/StringLatin1", "toBytes", "(C)[B"⟩ : MethodName)) hown (mvT hZ (hw _ (List.mem_of_getElem? (i := 15) rfl))) (mvT hZ (hw _ (List.mem_of_getElem? (i := 16) rfl))) (mvT hZ (hw _ (List.mem_of_getElem? (i := 11) rfl))) (mvT hZ (hw _ (List.mem_of_getElem? (i := 17) rfl))) (by decide) (backOf (W := 2) (rm31 l Z a0 hw [] p1 h3 n0 Z0_v3) hZ (hw _ (List.mem_of_getElem? (i := 17) rfl)) (hw _ (List.mem_of_getElem? (i := 11) rfl)) (by decide) (by decide)) (g := (mkF m 18 #[.val (.int p1)] [(.int p1), (.ref b3), (.ref b3)])) rfl (by rw [hml]; rfl) (argsL := [(.int p1)]) (rest := [(.ref b3), (.ref b3)]) (lenOf pd_1 rfl) rfl (by show 2 * 0 + _ ≤ _; exact Nat.le_of_eq rfl) (hb hby d33_18) (fun _ _ => ⟨rfl, e3, (by decide : 1 + 1 ≤ _), (by decide : 4 + 1 ≤ _)⟩)
  dsimp only [Pt.U, Pt.locs, Pt.cells, Pt.slots] at X4 l4 y4 z4 st4 hQ4
  subst l4 y4 z4
  obtain ⟨N4q, K4, tb, kb, rfl, szt, gt, VT⟩ := hQ4
  have ne_x_tb : b3 ≠ tb := Nat.ne_of_lt (Nat.lt_of_lt_of_le A3.lt szt)
  have N4 := Fr.app N2 N4q
  have Z0_v4 : n0 ≤ T4.heap.size := Nat.le_trans Z0_v3 K4.1
  have X00_v4 : Old Z n0 T4.heap := X00_v3.keep K4 all0
  have f_K_v4 : Keep h0 T4.heap [] := f_K_v3.trans K4 all0
  have A3_v4 : Exa Z T4.heap b3 "java/lang/String" := A3.keep K4
  have F_value_b3_v4 : Fld Z T4.heap b3 "java/lang/String" "value" "[B" .null := F_value_b3.keep K4 nin0
  have F_coder_b3_v4 : Fld Z T4.heap b3 "java/lang/String" "coder" "B" (.int (0 : Int32)) := F_coder_b3.keep K4 nin0
  refine Gl.st st4 ?_
  show Gl p e below P (T4.setTop (mkF m 21 #[.val (.int p1)] [(.ref tb), (.ref b3), (.ref b3)]))
  refine Gl.st (fun _ k => XS.iconst X4.here hx rfl (hb hby d33_21) k) ?_
  show Gl p e below P (T4.setTop (mkF m 22 #[.val (.int p1)] [(.int (0 : Int32)), (.ref tb), (.ref b3), (.ref b3)]))
  obtain ⟨_, _, ⟨T5, L5, k5, n5⟩, -, X5, ⟨Lc5, hQ5, l5, y5, z5⟩, st5⟩ := X4.specialBack hx (y := (⟨"java/lang/String", "<init>", "([BB)V"⟩ : MethodName)) rfl hown (mvT hZ (hw _ (List.mem_of_getElem? (i := 19) rfl))) (mvT hZ (hw _ (List.mem_of_getElem? (i := 20) rfl))) (mvT hZ (hw _ (List.mem_of_getElem? (i := 22) rfl))) (by decide) (backOf (W := 1) (rm32 l Z a0 hw [] b3 tb .null (.int (0 : Int32)) T4.heap n0 Z0_v4 A3_v4 F_value_b3_v4 F_coder_b3_v4 g_b3) hZ (hw _ (List.mem_of_getElem? (i := 22) rfl)) (hw _ (List.mem_of_getElem? (i := 6) rfl)) (by decide) (by decide)) (g := (mkF m 22 #[.val (.int p1)] [(.int (0 : Int32)), (.ref tb), (.ref b3), (.ref b3)])) rfl (by rw [hml]; rfl) (Steps.refl _) (a := b3) (argsL := [(.ref tb), (.int (0 : Int32))]) (rest := [(.ref b3)]) (lenOf pd_2 rfl) rfl (by show 2 * 0 + _ ≤ _; exact Nat.le_of_eq rfl) (hb hby d33_22) (fun _ _ => ⟨rfl, rfl, (by decide : 2 + 0 ≤ _), (by decide : 5 + 0 ≤ _)⟩)
  dsimp only [Pt.U, Pt.locs, Pt.cells, Pt.slots] at X5 l5 y5 z5 st5 hQ5
  subst l5 y5 z5
  obtain ⟨rfl, N5q, K5, RE, RC, RV⟩ := hQ5
  have N5 := Fr.app N4 N5q
  have Z0_v5 : n0 ≤ T5.heap.size := Nat.le_trans Z0_v4 K5.1
  have X00_v5 : Old Z n0 T5.heap := X00_v4.keep K5 (allS g_b3 all0)
  have f_K_v5 : Keep h0 T5.heap [] := f_K_v4.trans K5 (allS (Or.inr sz_b3) all0)
  have A3_v5 : Exa Z T5.heap b3 "java/lang/String" := A3_v4.keep K5
  have VT_v5 : Arv Z T5.heap tb kb .byte (1 : Int32) [(.int (p1.toInt8.toInt32))] (.int (0 : Int32)) := VT.keep K5 (ninS (Ne.symm ne_x_tb) nin0)
  refine Gl.tr st5 ?_
  show Gl p e below P (T5.setTop (mkF m 25 #[.val (.int p1)] [(.ref b3)]))
  obtain ⟨fs, hr, hrun, hended, hW, hsame⟩ := X5.leave (v := some (.ref b3)) (fun h => by rw [Bd.returns] at h; cases h)
  refine ⟨_, _, retOut X5 hx Bd.returns rfl (Or.inr (Or.inr (Or.inr (Or.inr ⟨rfl, rfl, rfl⟩)))) (hb hby d33_25) hr, hrun, hended, hPost _ _ ⟨_, _, rfl, ?_, ⟨_, rfl⟩, hW, hsame.mono (by decide) (by decide)⟩⟩
  show Q33 Z p1 G1 h0 n0 _ T5.heap _
  exact ⟨N5, f_K_v5, _, rfl, _, _, RE, RC, RV, VT_v5⟩
theorem pn_34 : plainName "java/lang/String" = true := by first | (simp [plainName, overriddenIn]; done) | decide +kernel
theorem ef_34 (m : MethodId) (x0 : Addr) (x1 : Addr) (x2 : Int32) (x3 : Int32) : entryFrame m #[(.ref x0), (.ref x1), (.int x2), (.int x3), .null] 6 = mkF m 0 #[.val (.ref x0), .val (.ref x1), .val (.int x2), .val (.int x3), .val .null, .unset] [] := by first | (simp [entryFrame, mkF, argsToLocals, Value.category]; done) | rfl
def Q34 (Z : State) (a1 : Addr) (c2 : Addr) (u2 : Value) (h0 : Heap) (n0 : Nat) (v : Option Value) (h : Heap) (L : List Loc) : Prop := v = none ∧ Fr n0 L ∧ Keep h0 h [a1] ∧ ∃ (t : Addr) (kb : ClassId), Exa Z h a1 "java/lang/String" ∧ Fld Z h a1 "java/lang/String" "coder" "B" (.int (0 : Int32)) ∧ Fld Z h a1 "java/lang/String" "value" "[B" (.ref t) ∧ Arv Z h t kb .byte (0 : Int32) [] (.int (0 : Int32))
set_option maxRecDepth 65536 in
set_option maxHeartbeats 40000000 in
theorem rm34 (l : Launch) (Z : State) (a0 : Array Value) (hw : ∀ d ∈ tables_1, d.before a0 Z = true) (ws : List Jvm.Cond) (a1 : Addr) (c2 : Addr) (u2 : Value) (h0 : Heap) (n0 : Nat) (Z0 : n0 ≤ h0.size) (E1 : Exa Z h0 a1 "java/lang/String") (F1 : Fld Z h0 a1 "java/lang/String" "value" "[B" .null) (F2 : Fld Z h0 a1 "java/lang/String" "coder" "B" u2) (g1 : n0 ≤ a1) :
    MetFree l (⟨"java/lang/String", "<init>", "([CIILjava/lang/Void;)V"⟩ : MethodName) (head1 (Jvm.Cond.code (⟨"java/lang/String", "<init>", "([CIILjava/lang/Void;)V"⟩ : MethodName) jdk_42_method_149_code 6 none :: ws) ({ frames := 1, cells := 4, slots := 8, locals := 12 } : Room)) (fun a U => a = #[(.ref a1), (.ref c2), (.int (0 : Int32)), (.int (0 : Int32)), .null] ∧ Z.Warmed39 U.vm ∧ U.heap = h0 ∧ CHv Z consts_1 U.vm h0) (fun _ _ _ _ _ => True) (fun _ U o U' => ∃ v L, o = .returned v ∧ Q34 Z a1 c2 u2 h0 n0 v U'.heap L ∧ CHr Z consts_1 U.vm U.heap U'.vm U'.heap ∧ ReturnedEndW U o U' L ({ frames := 1, cells := 4, slots := 8, locals := 12 } : Room).cells ({ frames := 1, cells := 4, slots := 8, locals := 12 } : Room).slots) := by
  refine MetFree.of_bodySF (plainFor_of_name pn_34) hisR ?_
  intro p e s m args below meth c s₁ Bd hml0 hP hK
  obtain ⟨rfl, hZ, hh, hC⟩ := hP
  have hx := Bd.exec
  have hby := Bd.bytes
  have hml : c.maxLocals = 6 := hml0
  have hown : s.vm.findClass "java/lang/String" = some m.cls := findClass_of_methodNamed Bd.named
  have hnm := (name_of_methodNamed Bd.named Bd.method).1
  have X0 : Stand p l e ({ frames := 1, cells := 4, slots := 8, locals := 12 } : Room) (s.setVm s.vm) m #[(.ref a1), (.ref c2), (.int (0 : Int32)), (.int (0 : Int32)), .null] below meth c s₁ [] 0 0 := Stand.of_body Bd
  have hS0 : s.Since s.vm 0 := (State.WarmedH.refl s).since 0
  have C0 : CHr Z consts_1 s.vm h0 s.vm h0 := CHr.refl hC
  have hZ0 : Z.Warmed39 (s.setVm s.vm).vm := hZ
  have hown0 : (s.setVm s.vm).vm.findClass "java/lang/String" = some m.cls := hown
  have hEL := own_EW hw
  have wS := own_wS hw
  have e0 : s₁.heap = h0 := by rw [← hh, Bd.state]; rfl
  have N0 := Fr.nil n0
  refine Gl.gen fun P hPost => ?_
  refine Gl.st (fun t k => castTop (ef_34 m a1 c2 (0 : Int32) (0 : Int32) ) k) ?_
  show Gl p e below P (s₁.setTop (mkF m 0 #[.val (.ref a1), .val (.ref c2), .val (.int (0 : Int32)), .val (.int (0 : Int32)), .val .null, .unset] []))
  have Sf_a1 : Safe Z consts_1 s.vm h0 a1 := own_blank hZ0.alike E1 F1
  refine Gl.st (fun _ k => XS.aloadN X0.here hx rfl (hb hby d34_0) rfl rfl k) ?_
  show Gl p e below P (s₁.setTop (mkF m 1 #[.val (.ref a1), .val (.ref c2), .val (.int (0 : Int32)), .val (.int (0 : Int32)), .val .null, .unset] [(.ref a1)]))
  obtain ⟨T1, X1, e1, st1⟩ := initO X0 hx hZ0 hown0 (hw _ (List.mem_of_getElem? (i := 23) rfl)) (hw _ (List.mem_of_getElem? (i := 24) rfl)) (hw _ (List.mem_of_getElem? (i := 25) rfl)) e0 (g := (mkF m 1 #[.val (.ref a1), .val (.ref c2), .val (.int (0 : Int32)), .val (.int (0 : Int32)), .val .null, .unset] [(.ref a1)])) rfl (by rw [hml]; rfl) rfl (hb hby d34_1) (by decide) (W := 0) (by show 2 * 0 + _ ≤ _; exact Nat.le_of_eq rfl) (by decide)
  refine Gl.st st1 ?_
  show Gl p e below P (T1.setTop (mkF m 4 #[.val (.ref a1), .val (.ref c2), .val (.int (0 : Int32)), .val (.int (0 : Int32)), .val .null, .unset] []))
  refine Gl.st (fun _ k => XS.iloadN X1.here hx rfl (hb hby d34_4) rfl k) ?_
  show Gl p e below P (T1.setTop (mkF m 5 #[.val (.ref a1), .val (.ref c2), .val (.int (0 : Int32)), .val (.int (0 : Int32)), .val .null, .unset] [(.int (0 : Int32))]))
  refine Gl.st (fun _ k => XS.ifNo X1.here hx rfl (hb hby d34_5) rfl ((if0 _ _).trans (teq (by decide : (0 : Int32) = (0 : Int32))).2) k) ?_
  show Gl p e below P (T1.setTop (mkF m 8 #[.val (.ref a1), .val (.ref c2), .val (.int (0 : Int32)), .val (.int (0 : Int32)), .val .null, .unset] []))
  refine Gl.st (fun _ k => XS.aloadN X1.here hx rfl (hb hby d34_8) rfl rfl k) ?_
  show Gl p e below P (T1.setTop (mkF m 9 #[.val (.ref a1), .val (.ref c2), .val (.int (0 : Int32)), .val (.int (0 : Int32)), .val .null, .unset] [(.ref a1)]))
  obtain ⟨la2, T2, h2, k12, lb2, lk2, X2, e2, E2, hS2, hk2, hZ2, hown2, LE2, LC2, LV2, LA2, lt2, mt2, Cn2, -, hne2, st2⟩ := ldcCH X1 hx hZ0 hown0 (hw _ (List.mem_of_getElem? (i := 38) rfl)) wS e1 hS0 (Nat.zero_le _) hEL (by decide) C0.1 (vs := []) (z := (0 : Int32)) ⟨by decide, by decide⟩ (by decide) rfl (g := (mkF m 9 #[.val (.ref a1), .val (.ref c2), .val (.int (0 : Int32)), .val (.int (0 : Int32)), .val .null, .unset] [(.ref a1)])) rfl (hb hby d34_9) (n := 0) (by decide) (by decide) (by decide) (by decide)
  have Z0_v2 : n0 ≤ h2.size := Nat.le_trans Z0 E2.1
  have f_hk_v2 : 0 ≤ h2.size := Nat.le_trans (Nat.zero_le _) E2.1
  have E1_v2 : Exa Z h2 a1 "java/lang/String" := E1.ext E2
  have F1_v2 : Fld Z h2 a1 "java/lang/String" "value" "[B" .null := F1.ext E2
  have F2_v2 : Fld Z h2 a1 "java/lang/String" "coder" "B" u2 := F2.ext E2
  have f_K_v2 : Keep h0 h2 [a1] := (Keep.refl h0 [a1]).ext E2
  have Sf_a1_w2 : Safe Z consts_1 T2.vm h2 a1 := Cn2.safe E1.lt Sf_a1
  have C_w2 : CHr Z consts_1 s.vm h0 T2.vm h2 := C0.trans Cn2
  obtain ⟨ne_a1_la2, ne_a1_lb2⟩ := hne2 a1 Sf_a1_w2
  refine Gl.st st2 ?_
  show Gl p e below P (T2.setTop (mkF m 11 #[.val (.ref a1), .val (.ref c2), .val (.int (0 : Int32)), .val (.int (0 : Int32)), .val .null, .unset] [(.ref la2), (.ref a1)]))
  obtain ⟨T3, X3, e3, st3⟩ := getF X2 hx hZ2 hown2 (host := "") (Or.inl (hw _ (List.mem_of_getElem? (i := 26) rfl))) Via.refl e2 LV2 (g := (mkF m 11 #[.val (.ref a1), .val (.ref c2), .val (.int (0 : Int32)), .val (.int (0 : Int32)), .val .null, .unset] [(.ref la2), (.ref a1)])) rfl rfl (hb hby d34_11)
  refine Gl.st st3 ?_
  show Gl p e below P (T3.setTop (mkF m 14 #[.val (.ref a1), .val (.ref c2), .val (.int (0 : Int32)), .val (.int (0 : Int32)), .val .null, .unset] [(.ref lb2), (.ref a1)]))
  obtain ⟨T4, h4, X4, e4, W4, st4⟩ := putF X3 hx hZ2 hown2 (host := "") (Or.inl (hw _ (List.mem_of_getElem? (i := 26) rfl))) Via.refl e3 F1_v2 E1_v2 (Or.inr ⟨(hw _ (List.mem_of_getElem? (i := 27) rfl)), rfl, hnm⟩) (hw _ (List.mem_of_getElem? (i := 14) rfl)) (ty := (.array .byte)) (by decide) rfl rfl (g := (mkF m 14 #[.val (.ref a1), .val (.ref c2), .val (.int (0 : Int32)), .val (.int (0 : Int32)), .val .null, .unset] [(.ref lb2), (.ref a1)])) rfl rfl (hb hby d34_14)
  refine Gl.st st4 ?_
  have Sf_a1_v4 : Safe Z consts_1 T2.vm h4 a1 := Safe.wr W4 Sf_a1_w2 C_w2.1 Sf_a1_w2
  have C_v4 : CHr Z consts_1 s.vm h0 T2.vm h4 := C_w2.trans (CHr.wr W4 Sf_a1_w2 C_w2.1)
  have Z0_v4 : n0 ≤ h4.size := Nat.le_trans Z0_v2 (Keep.of_wr W4).1
  have hk2_v4 : k12 ≤ h4.size := Nat.le_trans hk2 (Keep.of_wr W4).1
  have E1_v4 : Exa Z h4 a1 "java/lang/String" := E1_v2.wr W4
  have F2_v4 : Fld Z h4 a1 "java/lang/String" "coder" "B" u2 := F2_v2.other W4 (Or.inr (slot_ne (Or.inr (hw _ (List.mem_of_getElem? (i := 29) rfl))) (Or.inr (hw _ (List.mem_of_getElem? (i := 27) rfl))) (by decide) (t := .byte) (t' := (.array .byte)) (by decide) (by decide)))
  have f_K_v4 : Keep h0 h4 [a1] := f_K_v2.wr W4 (Or.inl (List.mem_of_getElem? (i := 0) rfl))
  have LE2_v4 : Exa Z h4 la2 "java/lang/String" := LE2.wr W4
  have LC2_v4 : Fld Z h4 la2 "java/lang/String" "coder" "B" (.int (0 : Int32)) := LC2.other W4 (Or.inl (Ne.symm ne_a1_la2))
  have LV2_v4 : Fld Z h4 la2 "java/lang/String" "value" "[B" (.ref lb2) := LV2.other W4 (Or.inl (Ne.symm ne_a1_la2))
  have LA2_v4 : Arv Z h4 lb2 lk2 .byte (0 : Int32) [] (.int (0 : Int32)) := LA2.other W4 (Ne.symm ne_a1_lb2)
  have Fw4 : Fld Z h4 a1 "java/lang/String" "value" "[B" (.ref lb2) := F1_v2.same W4
  have N4 := Fr.snoc X4 N0 g1
  show Gl p e below P (T4.setTop (mkF m 17 #[.val (.ref a1), .val (.ref c2), .val (.int (0 : Int32)), .val (.int (0 : Int32)), .val .null, .unset] []))
  refine Gl.st (fun _ k => XS.aloadN X4.here hx rfl (hb hby d34_17) rfl rfl k) ?_
  show Gl p e below P (T4.setTop (mkF m 18 #[.val (.ref a1), .val (.ref c2), .val (.int (0 : Int32)), .val (.int (0 : Int32)), .val .null, .unset] [(.ref a1)]))
  obtain ⟨la5, T5, h5, k15, lb5, lk5, X5, e5, E5, hS5, hk5, hZ5, hown5, LE5, LC5, LV5, LA5, lt5, mt5, Cn5, -, hne5, st5⟩ := ldcCH X4 hx hZ2 hown2 (hw _ (List.mem_of_getElem? (i := 38) rfl)) wS e4 hS2 hk2_v4 hEL (by decide) C_v4.1 (vs := []) (z := (0 : Int32)) ⟨by decide, by decide⟩ (by decide) rfl (g := (mkF m 18 #[.val (.ref a1), .val (.ref c2), .val (.int (0 : Int32)), .val (.int (0 : Int32)), .val .null, .unset] [(.ref a1)])) rfl (hb hby d34_18) (n := 0) (by decide) (by decide) (by decide) (by decide)
  have Z0_v5 : n0 ≤ h5.size := Nat.le_trans Z0_v4 E5.1
  have hk2_v5 : k12 ≤ h5.size := Nat.le_trans hk2_v4 E5.1
  have E1_v5 : Exa Z h5 a1 "java/lang/String" := E1_v4.ext E5
  have F2_v5 : Fld Z h5 a1 "java/lang/String" "coder" "B" u2 := F2_v4.ext E5
  have f_K_v5 : Keep h0 h5 [a1] := f_K_v4.ext E5
  have LA2_v5 : Arv Z h5 lb2 lk2 .byte (0 : Int32) [] (.int (0 : Int32)) := LA2_v4.ext E5
  have Fw4_v5 : Fld Z h5 a1 "java/lang/String" "value" "[B" (.ref lb2) := Fw4.ext E5
  have Sf_a1_w5 : Safe Z consts_1 T5.vm h5 a1 := Cn5.safe E1_v4.lt Sf_a1_v4
  have C_w5 : CHr Z consts_1 s.vm h0 T5.vm h5 := C_v4.trans Cn5
  obtain ⟨ne_a1_la5, ne_a1_lb5⟩ := hne5 a1 Sf_a1_w5
  refine Gl.st st5 ?_
  show Gl p e below P (T5.setTop (mkF m 20 #[.val (.ref a1), .val (.ref c2), .val (.int (0 : Int32)), .val (.int (0 : Int32)), .val .null, .unset] [(.ref la5), (.ref a1)]))
  obtain ⟨T6, X6, e6, st6⟩ := getF X5 hx hZ5 hown5 (host := "") (Or.inl (hw _ (List.mem_of_getElem? (i := 28) rfl))) Via.refl e5 LC5 (g := (mkF m 20 #[.val (.ref a1), .val (.ref c2), .val (.int (0 : Int32)), .val (.int (0 : Int32)), .val .null, .unset] [(.ref la5), (.ref a1)])) rfl rfl (hb hby d34_20)
  refine Gl.st st6 ?_
  show Gl p e below P (T6.setTop (mkF m 23 #[.val (.ref a1), .val (.ref c2), .val (.int (0 : Int32)), .val (.int (0 : Int32)), .val .null, .unset] [(.int (0 : Int32)), (.ref a1)]))
  obtain ⟨T7, h7, X7, e7, W7, st7⟩ := putFN X6 hx hZ5 hown5 (hw _ (List.mem_of_getElem? (i := 28) rfl)) Via.refl e6 F2_v5 E1_v5 (Or.inr ⟨(hw _ (List.mem_of_getElem? (i := 29) rfl)), rfl, hnm⟩) (hw _ (List.mem_of_getElem? (i := 14) rfl)) (ty := .byte) (v' := (.int (nar .byte (0 : Int32)))) (by decide) rfl (fits_nar_byte _) (g := (mkF m 23 #[.val (.ref a1), .val (.ref c2), .val (.int (0 : Int32)), .val (.int (0 : Int32)), .val .null, .unset] [(.int (0 : Int32)), (.ref a1)])) rfl rfl (hb hby d34_23)
  refine Gl.st st7 ?_
  have Sf_a1_v7 : Safe Z consts_1 T5.vm h7 a1 := Safe.wr W7 Sf_a1_w5 C_w5.1 Sf_a1_w5
  have C_v7 : CHr Z consts_1 s.vm h0 T5.vm h7 := C_w5.trans (CHr.wr W7 Sf_a1_w5 C_w5.1)
  have Z0_v7 : n0 ≤ h7.size := Nat.le_trans Z0_v5 (Keep.of_wr W7).1
  have hk5_v7 : k15 ≤ h7.size := Nat.le_trans hk5 (Keep.of_wr W7).1
  have E1_v7 : Exa Z h7 a1 "java/lang/String" := E1_v5.wr W7
  have f_K_v7 : Keep h0 h7 [a1] := f_K_v5.wr W7 (Or.inl (List.mem_of_getElem? (i := 0) rfl))
  have LA2_v7 : Arv Z h7 lb2 lk2 .byte (0 : Int32) [] (.int (0 : Int32)) := LA2_v5.other W7 (Ne.symm ne_a1_lb2)
  have Fw4_v7 : Fld Z h7 a1 "java/lang/String" "value" "[B" (.ref lb2) := Fw4_v5.other W7 (Or.inr (slot_ne (Or.inr (hw _ (List.mem_of_getElem? (i := 27) rfl))) (Or.inr (hw _ (List.mem_of_getElem? (i := 29) rfl))) (by decide) (t := (.array .byte)) (t' := .byte) (by decide) (by decide)))
  have LE5_v7 : Exa Z h7 la5 "java/lang/String" := LE5.wr W7
  have LC5_v7 : Fld Z h7 la5 "java/lang/String" "coder" "B" (.int (0 : Int32)) := LC5.other W7 (Or.inl (Ne.symm ne_a1_la5))
  have LV5_v7 : Fld Z h7 la5 "java/lang/String" "value" "[B" (.ref lb5) := LV5.other W7 (Or.inl (Ne.symm ne_a1_la5))
  have LA5_v7 : Arv Z h7 lb5 lk5 .byte (0 : Int32) [] (.int (0 : Int32)) := LA5.other W7 (Ne.symm ne_a1_lb5)
  have Fw7 : Fld Z h7 a1 "java/lang/String" "coder" "B" (.int (0 : Int32)) := F2_v5.same W7
  have N7 := Fr.snoc X7 N4 g1
  show Gl p e below P (T7.setTop (mkF m 26 #[.val (.ref a1), .val (.ref c2), .val (.int (0 : Int32)), .val (.int (0 : Int32)), .val .null, .unset] []))
  obtain ⟨fs, hr, hrun, hended, hRE⟩ := X7.leaveW hS5 (by rw [e7]; exact hk5_v7) (v := none) (fun _ => rfl)
  refine ⟨_, _, X7.returnOut hx Bd.returns (hb hby d34_26) hr, hrun, hended, hPost _ _ ⟨_, _, rfl, ?_, ?_, hRE.1, hRE.2.1, hRE.2.2.1, hRE.2.2.2.mono (by decide) (by decide)⟩⟩
  rotate_left
  · show CHr Z consts_1 s.vm s.heap T7.vm T7.heap
    rw [hh, e7]
    exact C_v7.trans (CHv.at X7 hZ5 hEL C_v7.1)
  show Q34 Z a1 c2 u2 h0 n0 _ T7.heap _
  rw [e7]
  exact ⟨rfl, N7, f_K_v7, _, _, E1_v7, Fw7, Fw4_v7, LA2_v7⟩
theorem pn_35 : plainName "java/lang/String" = true := by first | (simp [plainName, overriddenIn]; done) | decide +kernel
theorem ef_35 (m : MethodId) (x0 : Addr) (x1 : Addr) : entryFrame m #[(.ref x0), (.ref x1)] 2 = mkF m 0 #[.val (.ref x0), .val (.ref x1)] [] := by first | (simp [entryFrame, mkF, argsToLocals, Value.category]; done) | rfl
def Q35 (Z : State) (a1 : Addr) (c2 : Addr) (kc : ClassId) (u2 : Value) (h0 : Heap) (n0 : Nat) (v : Option Value) (h : Heap) (L : List Loc) : Prop := v = none ∧ Fr n0 L ∧ Keep h0 h [a1] ∧ ∃ (t : Addr) (kb : ClassId), Exa Z h a1 "java/lang/String" ∧ Fld Z h a1 "java/lang/String" "coder" "B" (.int (0 : Int32)) ∧ Fld Z h a1 "java/lang/String" "value" "[B" (.ref t) ∧ Arv Z h t kb .byte (0 : Int32) [] (.int (0 : Int32))
set_option maxRecDepth 65536 in
set_option maxHeartbeats 40000000 in
theorem rm35 (l : Launch) (Z : State) (a0 : Array Value) (hw : ∀ d ∈ tables_1, d.before a0 Z = true) (ws : List Jvm.Cond) (a1 : Addr) (c2 : Addr) (kc : ClassId) (u2 : Value) (h0 : Heap) (n0 : Nat) (Z0 : n0 ≤ h0.size) (E1 : Exa Z h0 a1 "java/lang/String") (F1 : Fld Z h0 a1 "java/lang/String" "value" "[B" .null) (F2 : Fld Z h0 a1 "java/lang/String" "coder" "B" u2) (g1 : n0 ≤ a1) (V2 : Arv Z h0 c2 kc .char (0 : Int32) [] (.int (0 : Int32))) :
    MetFree l (⟨"java/lang/String", "<init>", "([C)V"⟩ : MethodName) (head1 (Jvm.Cond.code (⟨"java/lang/String", "<init>", "([C)V"⟩ : MethodName) jdk_42_method_3_code 2 none :: ws) ({ frames := 2, cells := 4, slots := 8, locals := 29 } : Room)) (fun a U => a = #[(.ref a1), (.ref c2)] ∧ Z.Warmed39 U.vm ∧ U.heap = h0 ∧ CHv Z consts_1 U.vm h0) (fun _ _ _ _ _ => True) (fun _ U o U' => ∃ v L, o = .returned v ∧ Q35 Z a1 c2 kc u2 h0 n0 v U'.heap L ∧ CHr Z consts_1 U.vm U.heap U'.vm U'.heap ∧ ReturnedEndW U o U' L ({ frames := 2, cells := 4, slots := 8, locals := 29 } : Room).cells ({ frames := 2, cells := 4, slots := 8, locals := 29 } : Room).slots) := by
  refine MetFree.of_bodySF (plainFor_of_name pn_35) hisR ?_
  intro p e s m args below meth c s₁ Bd hml0 hP hK
  obtain ⟨rfl, hZ, hh, hC⟩ := hP
  have hx := Bd.exec
  have hby := Bd.bytes
  have hml : c.maxLocals = 2 := hml0
  have hown : s.vm.findClass "java/lang/String" = some m.cls := findClass_of_methodNamed Bd.named
  have hnm := (name_of_methodNamed Bd.named Bd.method).1
  have X0 : Stand p l e ({ frames := 2, cells := 4, slots := 8, locals := 29 } : Room) (s.setVm s.vm) m #[(.ref a1), (.ref c2)] below meth c s₁ [] 0 0 := Stand.of_body Bd
  have hS0 : s.Since s.vm 0 := (State.WarmedH.refl s).since 0
  have C0 : CHr Z consts_1 s.vm h0 s.vm h0 := CHr.refl hC
  have hZ0 : Z.Warmed39 (s.setVm s.vm).vm := hZ
  have hown0 : (s.setVm s.vm).vm.findClass "java/lang/String" = some m.cls := hown
  have hEL := own_EW hw
  have wS := own_wS hw
  have e0 : s₁.heap = h0 := by rw [← hh, Bd.state]; rfl
  have N0 := Fr.nil n0
  refine Gl.gen fun P hPost => ?_
  refine Gl.st (fun t k => castTop (ef_35 m a1 c2 ) k) ?_
  show Gl p e below P (s₁.setTop (mkF m 0 #[.val (.ref a1), .val (.ref c2)] []))
  refine Gl.st (fun _ k => XS.aloadN X0.here hx rfl (hb hby d35_0) rfl rfl k) ?_
  show Gl p e below P (s₁.setTop (mkF m 1 #[.val (.ref a1), .val (.ref c2)] [(.ref a1)]))
  refine Gl.st (fun _ k => XS.aloadN X0.here hx rfl (hb hby d35_1) rfl rfl k) ?_
  show Gl p e below P (s₁.setTop (mkF m 2 #[.val (.ref a1), .val (.ref c2)] [(.ref c2), (.ref a1)]))
  refine Gl.st (fun _ k => XS.iconst X0.here hx rfl (hb hby d35_2) k) ?_
  show Gl p e below P (s₁.setTop (mkF m 3 #[.val (.ref a1), .val (.ref c2)] [(.int (0 : Int32)), (.ref c2), (.ref a1)]))
  refine Gl.st (fun _ k => XS.aloadN X0.here hx rfl (hb hby d35_3) rfl rfl k) ?_
  show Gl p e below P (s₁.setTop (mkF m 4 #[.val (.ref a1), .val (.ref c2)] [(.ref c2), (.int (0 : Int32)), (.ref c2), (.ref a1)]))
  obtain ⟨c1, Ar1, q1, S1, M1, H1, U1⟩ := id V2
  refine Gl.st (X0.arraylength hx (by rw [e0]; exact Ar1.1) (State.isArrayOf_alike hZ0.alike Ar1.2.1) (g := (mkF m 4 #[.val (.ref a1), .val (.ref c2)] [(.ref c2), (.int (0 : Int32)), (.ref c2), (.ref a1)])) rfl rfl (hb hby d35_4)) ?_
  rw [len_of S1 M1]
  show Gl p e below P (s₁.setTop (mkF m 5 #[.val (.ref a1), .val (.ref c2)] [(.int (0 : Int32)), (.int (0 : Int32)), (.ref c2), (.ref a1)]))
  refine Gl.st (fun _ k => XS.aconstNull X0.here hx rfl (hb hby d35_5) k) ?_
  show Gl p e below P (s₁.setTop (mkF m 6 #[.val (.ref a1), .val (.ref c2)] [.null, (.int (0 : Int32)), (.int (0 : Int32)), (.ref c2), (.ref a1)]))
  obtain ⟨_, _, ⟨T2, L2, k2, n2⟩, -, X2, hs2, hg2, ⟨Lc2, hQ2, l2, y2, z2, Cn2⟩, st2⟩ := X0.specialBackS hx (y := (⟨"java/lang/String", "<init>", "([CIILjava/lang/Void;)V"⟩ : MethodName)) rfl hown0 (mvT hZ0 (hw _ (List.mem_of_getElem? (i := 35) rfl))) (mvT hZ0 (hw _ (List.mem_of_getElem? (i := 36) rfl))) (mvT hZ0 (hw _ (List.mem_of_getElem? (i := 37) rfl))) (by decide) (backOfSH (s := s) (W := 0) (rm34 l Z a0 hw [] a1 c2 u2 h0 n0 Z0 E1 F1 F2 g1) hZ0 (hw _ (List.mem_of_getElem? (i := 37) rfl)) (hw _ (List.mem_of_getElem? (i := 6) rfl)) (by decide) (by decide) hEL C0.1) (g := (mkF m 6 #[.val (.ref a1), .val (.ref c2)] [.null, (.int (0 : Int32)), (.int (0 : Int32)), (.ref c2), (.ref a1)])) rfl (by rw [hml]; rfl) (Steps.refl _) (a := a1) (argsL := [(.ref c2), (.int (0 : Int32)), (.int (0 : Int32)), .null]) (rest := []) (lenOf pd_3 rfl) rfl (by show 2 * 0 + _ ≤ _; exact Nat.le_of_eq rfl) (hb hby d35_6) (fun _ _ => ⟨rfl, e0, (by decide : 0 + 4 ≤ _), (by decide : 0 + 8 ≤ _)⟩)
  dsimp only [Pt.U, Pt.locs, Pt.cells, Pt.slots] at X2 hs2 hg2 l2 y2 z2 st2 hQ2 Cn2
  subst l2 y2 z2
  obtain ⟨rfl, N2q, K2, tt, kk, R1, R2, R3, R4⟩ := hQ2
  have X2 : Stand p l e ({ frames := 2, cells := 4, slots := 8, locals := 29 } : Room) (s.setVm T2.vm) m _ below meth c T2 _ _ _ := X2
  have N2 := Fr.app N0 N2q
  have Z0_v2 : n0 ≤ T2.heap.size := Nat.le_trans Z0 K2.1
  have f_hk_v2 : 0 ≤ T2.heap.size := Nat.le_trans (Nat.zero_le _) K2.1
  have hS2 : s.Since T2.vm T2.heap.size := foldS hS0 (by rw [e0]; exact (Nat.zero_le _)) hs2 hg2
  have hZ2 : Z.Warmed39 (s.setVm T2.vm).vm := State.Warmed39.trans (t := s.setVm s.vm) hZ0 hs2.1
  have hown2 : (s.setVm T2.vm).vm.findClass "java/lang/String" = some m.cls := by rw [show (s.setVm T2.vm).vm = T2.vm from rfl, hs2.1.alike.findClass]; exact hown0
  have C_w2 : CHr Z consts_1 s.vm h0 T2.vm T2.heap := C0.trans Cn2
  refine Gl.tr st2 ?_
  show Gl p e below P (T2.setTop (mkF m 9 #[.val (.ref a1), .val (.ref c2)] []))
  obtain ⟨fs, hr, hrun, hended, hRE⟩ := X2.leaveW hS2 (Nat.le_refl _) (v := none) (fun _ => rfl)
  refine ⟨_, _, X2.returnOut hx Bd.returns (hb hby d35_9) hr, hrun, hended, hPost _ _ ⟨_, _, rfl, ?_, ?_, hRE.1, hRE.2.1, hRE.2.2.1, hRE.2.2.2.mono (by decide) (by decide)⟩⟩
  rotate_left
  · show CHr Z consts_1 s.vm s.heap T2.vm T2.heap
    rw [hh]
    exact C_w2.trans (CHv.at X2 hZ2 hEL C_w2.1)
  show Q35 Z a1 c2 kc u2 h0 n0 _ T2.heap _
  exact ⟨rfl, N2, K2, tt, kk, R1, R2, R3, R4⟩
theorem pn_36 : plainName "com/example/assort/assort/ResultOfPinLaw" = true := by first | (simp [plainName, overriddenIn]; done) | decide +kernel
theorem ef_36 (m : MethodId) (x0 : Int32) (x1 : Int32) : entryFrame m #[(.int x0), (.int x1)] 4 = mkF m 0 #[.val (.int x0), .val (.int x1), .unset, .unset] [] := by first | (simp [entryFrame, mkF, argsToLocals, Value.category]; done) | rfl
def Q36 (Z : State) (x : Int32) (p2 : Int32) (G1 : Int32) (h0 : Heap) (n0 : Nat) (v : Option Value) (h : Heap) (L : List Loc) : Prop := Fr n0 L ∧ Keep h0 h [] ∧ ∃ b, v = some (.ref b) ∧ own_Str Z h b (own_cs x p2)
set_option maxRecDepth 65536 in
set_option maxHeartbeats 40000000 in
theorem rm36 (l : Launch) (Z : State) (a0 : Array Value) (hw : ∀ d ∈ tables_1, d.before a0 Z = true) (ws : List Jvm.Cond) (x : Int32) (p2 : Int32) (G1 : Int32) (h0 : Heap) (n0 : Nat) (Z0 : n0 ≤ h0.size) (O2 : Sta Z Z.heap "java/lang/String" "COMPACT_STRINGS" "Z" (.int G1)) (P5 : ¬ (G1 = (0 : Int32))) (X00 : Old Z n0 h0) :
    MetFree l (⟨"com/example/assort/assort/ResultOfPinLaw", "str", "(II)Ljava/lang/String;"⟩ : MethodName) (head1 (Jvm.Cond.code (⟨"com/example/assort/assort/ResultOfPinLaw", "str", "(II)Ljava/lang/String;"⟩ : MethodName) method_2_code 4 (some (.object "java/lang/String")) :: ws) ({ frames := 4, cells := 6, slots := 12, locals := 66 } : Room)) (fun a U => a = #[(.int x), (.int p2)] ∧ Z.Warmed39 U.vm ∧ U.heap = h0 ∧ CHv Z consts_1 U.vm h0) (fun _ _ _ _ _ => True) (fun _ U o U' => ∃ v L, o = .returned v ∧ Q36 Z x p2 G1 h0 n0 v U'.heap L ∧ CHr Z consts_1 U.vm U.heap U'.vm U'.heap ∧ ReturnedEndW U o U' L ({ frames := 4, cells := 6, slots := 12, locals := 66 } : Room).cells ({ frames := 4, cells := 6, slots := 12, locals := 66 } : Room).slots) := by
  refine MetFree.of_bodySF (plainFor_of_name pn_36) hisR ?_
  intro p e s m args below meth c s₁ Bd hml0 hP hK
  obtain ⟨rfl, hZ, hh, hC⟩ := hP
  have hx := Bd.exec
  have hby := Bd.bytes
  have hml : c.maxLocals = 4 := hml0
  have hown : s.vm.findClass "com/example/assort/assort/ResultOfPinLaw" = some m.cls := findClass_of_methodNamed Bd.named
  have hnm := (name_of_methodNamed Bd.named Bd.method).1
  have X0 : Stand p l e ({ frames := 4, cells := 6, slots := 12, locals := 66 } : Room) (s.setVm s.vm) m #[(.int x), (.int p2)] below meth c s₁ [] 0 0 := Stand.of_body Bd
  have hS0 : s.Since s.vm 0 := (State.WarmedH.refl s).since 0
  have C0 : CHr Z consts_1 s.vm h0 s.vm h0 := CHr.refl hC
  have hZ0 : Z.Warmed39 (s.setVm s.vm).vm := hZ
  have hown0 : (s.setVm s.vm).vm.findClass "com/example/assort/assort/ResultOfPinLaw" = some m.cls := hown
  have hEL := own_EW hw
  have wS := own_wS hw
  have e0 : s₁.heap = h0 := by rw [← hh, Bd.state]; rfl
  have N0 := Fr.nil n0
  refine Gl.gen fun P hPost => ?_
  refine Gl.st (fun t k => castTop (ef_36 m x p2 ) k) ?_
  show Gl p e below P (s₁.setTop (mkF m 0 #[.val (.int x), .val (.int p2), .unset, .unset] []))
  have hws : ∀ d ∈ StrChars.Road.words, d.before a0 Z = true := fun d hd => hw d ((by decide +kernel : ∀ d ∈ StrChars.Road.words, d ∈ tables_1) d hd)
  refine Gl.st (fun _ k => XS.iloadN X0.here hx rfl (hb hby d36_0) rfl k) ?_
  show Gl p e below P (s₁.setTop (mkF m 1 #[.val (.int x), .val (.int p2), .unset, .unset] [(.int x)]))
  refine Gl.st (fun _ k => XS.sipush X0.here hx rfl (hb hby d36_1) k) ?_
  show Gl p e below P (s₁.setTop (mkF m 4 #[.val (.int x), .val (.int p2), .unset, .unset] [(.int (255 : Int32)), (.int x)]))
  refine Gl.st (fun _ k => XS.iand X0.here hx rfl (hb hby d36_4) rfl k) ?_
  show Gl p e below P (s₁.setTop (mkF m 5 #[.val (.int x), .val (.int p2), .unset, .unset] [(.int (x &&& (255 : Int32)))]))
  refine Gl.st (fun _ k => XS.i2c X0.here hx rfl (hb hby d36_5) rfl k) ?_
  show Gl p e below P (s₁.setTop (mkF m 6 #[.val (.int x), .val (.int p2), .unset, .unset] [(.int ((x &&& (255 : Int32)).toUInt32.toUInt16.toUInt32.toInt32))]))
  refine Gl.st (fun _ k => XS.istoreN X0.here hx rfl (hb hby d36_6) rfl (l' := #[.val (.int x), .val (.int p2), .val (.int ((x &&& (255 : Int32)).toUInt32.toUInt16.toUInt32.toInt32)), .unset]) rfl k) ?_
  show Gl p e below P (s₁.setTop (mkF m 7 #[.val (.int x), .val (.int p2), .val (.int ((x &&& (255 : Int32)).toUInt32.toUInt16.toUInt32.toInt32)), .unset] []))
  refine Gl.st (fun _ k => XS.iloadN X0.here hx rfl (hb hby d36_7) rfl k) ?_
  show Gl p e below P (s₁.setTop (mkF m 8 #[.val (.int x), .val (.int p2), .val (.int ((x &&& (255 : Int32)).toUInt32.toUInt16.toUInt32.toInt32)), .unset] [(.int x)]))
  refine Gl.st (fun _ k => XS.bipush X0.here hx rfl (hb hby d36_8) k) ?_
  show Gl p e below P (s₁.setTop (mkF m 10 #[.val (.int x), .val (.int p2), .val (.int ((x &&& (255 : Int32)).toUInt32.toUInt16.toUInt32.toInt32)), .unset] [(.int (8 : Int32)), (.int x)]))
  refine Gl.st (fun _ k => XS.iushr X0.here hx rfl (hb hby d36_10) rfl k) ?_
  show Gl p e below P (s₁.setTop (mkF m 11 #[.val (.int x), .val (.int p2), .val (.int ((x &&& (255 : Int32)).toUInt32.toUInt16.toUInt32.toInt32)), .unset] [(.int ((x.toUInt32 >>> ((8 : Int32) &&& 31).toUInt32).toInt32))]))
  refine Gl.st (fun _ k => XS.sipush X0.here hx rfl (hb hby d36_11) k) ?_
  show Gl p e below P (s₁.setTop (mkF m 14 #[.val (.int x), .val (.int p2), .val (.int ((x &&& (255 : Int32)).toUInt32.toUInt16.toUInt32.toInt32)), .unset] [(.int (255 : Int32)), (.int ((x.toUInt32 >>> ((8 : Int32) &&& 31).toUInt32).toInt32))]))
  refine Gl.st (fun _ k => XS.iand X0.here hx rfl (hb hby d36_14) rfl k) ?_
  show Gl p e below P (s₁.setTop (mkF m 15 #[.val (.int x), .val (.int p2), .val (.int ((x &&& (255 : Int32)).toUInt32.toUInt16.toUInt32.toInt32)), .unset] [(.int (((x.toUInt32 >>> ((8 : Int32) &&& 31).toUInt32).toInt32) &&& (255 : Int32)))]))
  refine Gl.st (fun _ k => XS.i2c X0.here hx rfl (hb hby d36_15) rfl k) ?_
  show Gl p e below P (s₁.setTop (mkF m 16 #[.val (.int x), .val (.int p2), .val (.int ((x &&& (255 : Int32)).toUInt32.toUInt16.toUInt32.toInt32)), .unset] [(.int ((((x.toUInt32 >>> ((8 : Int32) &&& 31).toUInt32).toInt32) &&& (255 : Int32)).toUInt32.toUInt16.toUInt32.toInt32))]))
  refine Gl.st (fun _ k => XS.istoreN X0.here hx rfl (hb hby d36_16) rfl (l' := #[.val (.int x), .val (.int p2), .val (.int ((x &&& (255 : Int32)).toUInt32.toUInt16.toUInt32.toInt32)), .val (.int ((((x.toUInt32 >>> ((8 : Int32) &&& 31).toUInt32).toInt32) &&& (255 : Int32)).toUInt32.toUInt16.toUInt32.toInt32))]) rfl k) ?_
  show Gl p e below P (s₁.setTop (mkF m 17 #[.val (.int x), .val (.int p2), .val (.int ((x &&& (255 : Int32)).toUInt32.toUInt16.toUInt32.toInt32)), .val (.int ((((x.toUInt32 >>> ((8 : Int32) &&& 31).toUInt32).toInt32) &&& (255 : Int32)).toUInt32.toUInt16.toUInt32.toInt32))] []))
  refine Gl.st (fun _ k => XS.iloadN X0.here hx rfl (hb hby d36_17) rfl k) ?_
  show Gl p e below P (s₁.setTop (mkF m 18 #[.val (.int x), .val (.int p2), .val (.int ((x &&& (255 : Int32)).toUInt32.toUInt16.toUInt32.toInt32)), .val (.int ((((x.toUInt32 >>> ((8 : Int32) &&& 31).toUInt32).toInt32) &&& (255 : Int32)).toUInt32.toUInt16.toUInt32.toInt32))] [(.int p2)]))
  by_cases hA : p2 = (0 : Int32)
  · refine Gl.st (fun _ k => XS.ifNo X0.here hx rfl (hb hby d36_18) rfl ((if0 _ _).trans (teq (hA : p2 = (0 : Int32))).2) k) ?_
    show Gl p e below P (s₁.setTop (mkF m 21 #[.val (.int x), .val (.int p2), .val (.int ((x &&& (255 : Int32)).toUInt32.toUInt16.toUInt32.toInt32)), .val (.int ((((x.toUInt32 >>> ((8 : Int32) &&& 31).toUInt32).toInt32) &&& (255 : Int32)).toUInt32.toUInt16.toUInt32.toInt32))] []))
    obtain ⟨T1, h1, X1, e1, E1, A1, D1, -, st1⟩ := newO X0 hx hZ0 hown0 (hw _ (List.mem_of_getElem? (i := 30) rfl)) (hw _ (List.mem_of_getElem? (i := 14) rfl)) (hw _ (List.mem_of_getElem? (i := 6) rfl)) e0 (g := (mkF m 21 #[.val (.int x), .val (.int p2), .val (.int ((x &&& (255 : Int32)).toUInt32.toUInt16.toUInt32.toInt32)), .val (.int ((((x.toUInt32 >>> ((8 : Int32) &&& 31).toUInt32).toInt32) &&& (255 : Int32)).toUInt32.toUInt16.toUInt32.toInt32))] [])) rfl (hb hby d36_21) (by decide) (by decide)
    obtain ⟨b1, g1⟩ : ∃ z, z = h0.size := ⟨_, rfl⟩
    rw [← g1] at A1 D1 st1
    refine Gl.st st1 ?_
    have g_b1 : n0 ≤ b1 := Nat.le_trans Z0 (Nat.le_of_eq g1.symm)
    have sz_b1 : h0.size ≤ b1 := Nat.le_trans (Keep.refl h0 []).1 (Nat.le_of_eq g1.symm)
    have Sf_b1 : Safe Z consts_1 s.vm h0 b1 := Safe.new (Nat.le_of_eq g1.symm)
    have Sf_b1_v1 : Safe Z consts_1 s.vm h1 b1 := Safe.ext E1 C0.1 Sf_b1
    have C_v1 : CHr Z consts_1 s.vm h0 s.vm h1 := C0.trans (CHr.ext E1 C0.1)
    have Z0_v1 : n0 ≤ h1.size := Nat.le_trans Z0 E1.1
    have f_hk_v1 : 0 ≤ h1.size := Nat.le_trans (Nat.zero_le _) E1.1
    have X00_v1 : Old Z n0 h1 := X00.ext E1
    have f_K_v1 : Keep h0 h1 [] := (Keep.refl h0 []).ext E1
    have F_value_b1 : Fld Z h1 b1 "java/lang/String" "value" "[B" .null := D1 (Or.inr (hw _ (List.mem_of_getElem? (i := 27) rfl))) (ty := (.array .byte)) (by decide)
    have F_coder_b1 : Fld Z h1 b1 "java/lang/String" "coder" "B" (.int (0 : Int32)) := D1 (Or.inr (hw _ (List.mem_of_getElem? (i := 29) rfl))) (ty := .byte) (by decide)
    show Gl p e below P (T1.setTop (mkF m 24 #[.val (.int x), .val (.int p2), .val (.int ((x &&& (255 : Int32)).toUInt32.toUInt16.toUInt32.toInt32)), .val (.int ((((x.toUInt32 >>> ((8 : Int32) &&& 31).toUInt32).toInt32) &&& (255 : Int32)).toUInt32.toUInt16.toUInt32.toInt32))] [(.ref b1)]))
    refine Gl.st (fun _ k => XS.dup X1.here hx rfl (hb hby d36_24) rfl rfl k) ?_
    show Gl p e below P (T1.setTop (mkF m 25 #[.val (.int x), .val (.int p2), .val (.int ((x &&& (255 : Int32)).toUInt32.toUInt16.toUInt32.toInt32)), .val (.int ((((x.toUInt32 >>> ((8 : Int32) &&& 31).toUInt32).toInt32) &&& (255 : Int32)).toUInt32.toUInt16.toUInt32.toInt32))] [(.ref b1), (.ref b1)]))
    refine Gl.st (fun _ k => XS.iconst X1.here hx rfl (hb hby d36_25) k) ?_
    show Gl p e below P (T1.setTop (mkF m 26 #[.val (.int x), .val (.int p2), .val (.int ((x &&& (255 : Int32)).toUInt32.toUInt16.toUInt32.toInt32)), .val (.int ((((x.toUInt32 >>> ((8 : Int32) &&& 31).toUInt32).toInt32) &&& (255 : Int32)).toUInt32.toUInt16.toUInt32.toInt32))] [(.int (0 : Int32)), (.ref b1), (.ref b1)]))
    obtain ⟨T2, h2, k2, X2, e2, E2, A2, st2⟩ := newP X1 hx hZ0 (hw _ (List.mem_of_getElem? (i := 31) rfl)) e1 (g := (mkF m 26 #[.val (.int x), .val (.int p2), .val (.int ((x &&& (255 : Int32)).toUInt32.toUInt16.toUInt32.toInt32)), .val (.int ((((x.toUInt32 >>> ((8 : Int32) &&& 31).toUInt32).toInt32) &&& (255 : Int32)).toUInt32.toUInt16.toUInt32.toInt32))] [(.int (0 : Int32)), (.ref b1), (.ref b1)])) rfl (hb hby d36_26) rfl (by decide) (cap := 0) (by decide) (by decide) (by decide) (by decide)
    obtain ⟨b2, g2⟩ : ∃ z, z = h1.size := ⟨_, rfl⟩
    rw [← g2] at A2 st2
    refine Gl.st st2 ?_
    have g_b2 : n0 ≤ b2 := Nat.le_trans Z0_v1 (Nat.le_of_eq g2.symm)
    have sz_b2 : h0.size ≤ b2 := Nat.le_trans f_K_v1.1 (Nat.le_of_eq g2.symm)
    have ne_b1_b2 : b1 ≠ b2 := Nat.ne_of_lt (Nat.lt_of_lt_of_le A1.lt (Nat.le_of_eq g2.symm))
    have Sf_b1_v2 : Safe Z consts_1 s.vm h2 b1 := Safe.ext E2 C_v1.1 Sf_b1_v1
    have C_v2 : CHr Z consts_1 s.vm h0 s.vm h2 := C_v1.trans (CHr.ext E2 C_v1.1)
    have Z0_v2 : n0 ≤ h2.size := Nat.le_trans Z0_v1 E2.1
    have f_hk_v2 : 0 ≤ h2.size := Nat.le_trans f_hk_v1 E2.1
    have X00_v2 : Old Z n0 h2 := X00_v1.ext E2
    have f_K_v2 : Keep h0 h2 [] := f_K_v1.ext E2
    have A1_v2 : Exa Z h2 b1 "java/lang/String" := A1.ext E2
    have F_value_b1_v2 : Fld Z h2 b1 "java/lang/String" "value" "[B" .null := F_value_b1.ext E2
    have F_coder_b1_v2 : Fld Z h2 b1 "java/lang/String" "coder" "B" (.int (0 : Int32)) := F_coder_b1.ext E2
    have V_b2 : Arv Z h2 b2 k2 .char (0 : Int32) [] (.int (0 : Int32)) := (Arv.new A2 (by decide)).pad (pad_rep [] (.int (0 : Int32)) 0)
    show Gl p e below P (T2.setTop (mkF m 28 #[.val (.int x), .val (.int p2), .val (.int ((x &&& (255 : Int32)).toUInt32.toUInt16.toUInt32.toInt32)), .val (.int ((((x.toUInt32 >>> ((8 : Int32) &&& 31).toUInt32).toInt32) &&& (255 : Int32)).toUInt32.toUInt16.toUInt32.toInt32))] [(.ref b2), (.ref b1), (.ref b1)]))
    obtain ⟨_, _, ⟨T3, L3, k3, n3⟩, -, X3, hs3, hg3, ⟨Lc3, hQ3, l3, y3, z3, Cn3⟩, st3⟩ := X2.specialBackS hx (y := (⟨"java/lang/String", "<init>", "([C)V"⟩ : MethodName)) rfl hown0 (mvT hZ0 (hw _ (List.mem_of_getElem? (i := 32) rfl))) (mvT hZ0 (hw _ (List.mem_of_getElem? (i := 33) rfl))) (mvT hZ0 (hw _ (List.mem_of_getElem? (i := 34) rfl))) (by decide) (backOfSH (s := s) (W := 1) (rm35 l Z a0 hw [] b1 b2 k2 (.int (0 : Int32)) h2 n0 Z0_v2 A1_v2 F_value_b1_v2 F_coder_b1_v2 g_b1 V_b2) hZ0 (hw _ (List.mem_of_getElem? (i := 34) rfl)) (hw _ (List.mem_of_getElem? (i := 6) rfl)) (by decide) (by decide) hEL C_v2.1) (g := (mkF m 28 #[.val (.int x), .val (.int p2), .val (.int ((x &&& (255 : Int32)).toUInt32.toUInt16.toUInt32.toInt32)), .val (.int ((((x.toUInt32 >>> ((8 : Int32) &&& 31).toUInt32).toInt32) &&& (255 : Int32)).toUInt32.toUInt16.toUInt32.toInt32))] [(.ref b2), (.ref b1), (.ref b1)])) rfl (by rw [hml]; rfl) (Steps.refl _) (a := b1) (argsL := [(.ref b2)]) (rest := [(.ref b1)]) (lenOf pd_4 rfl) rfl (by show 2 * 0 + _ ≤ _; exact Nat.le_of_eq rfl) (hb hby d36_28) (fun _ _ => ⟨rfl, e2, (by decide : 2 + 4 ≤ _), (by decide : 4 + 8 ≤ _)⟩)
    dsimp only [Pt.U, Pt.locs, Pt.cells, Pt.slots] at X3 hs3 hg3 l3 y3 z3 st3 hQ3 Cn3
    subst l3 y3 z3
    obtain ⟨rfl, N3q, K3, tt3, kk3, R3a, R3b, R3c, R3d⟩ := hQ3
    have X3 : Stand p l e ({ frames := 4, cells := 6, slots := 12, locals := 66 } : Room) (s.setVm T3.vm) m _ below meth c T3 _ _ _ := X3
    have N3 := Fr.app N0 N3q
    have Z0_v3 : n0 ≤ T3.heap.size := Nat.le_trans Z0_v2 K3.1
    have f_hk_v3 : 0 ≤ T3.heap.size := Nat.le_trans f_hk_v2 K3.1
    have X00_v3 : Old Z n0 T3.heap := X00_v2.keep K3 (allS g_b1 all0)
    have f_K_v3 : Keep h0 T3.heap [] := f_K_v2.trans K3 (allS (Or.inr sz_b1) all0)
    have A1_v3 : Exa Z T3.heap b1 "java/lang/String" := A1_v2.keep K3
    have V_b2_v3 : Arv Z T3.heap b2 k2 .char (0 : Int32) [] (.int (0 : Int32)) := V_b2.keep K3 (ninS (Ne.symm ne_b1_b2) nin0)
    have hS3 : s.Since T3.vm T3.heap.size := foldS hS0 (by rw [e2]; exact f_hk_v2) hs3 hg3
    have hZ3 : Z.Warmed39 (s.setVm T3.vm).vm := State.Warmed39.trans (t := s.setVm s.vm) hZ0 hs3.1
    have hown3 : (s.setVm T3.vm).vm.findClass "com/example/assort/assort/ResultOfPinLaw" = some m.cls := by rw [show (s.setVm T3.vm).vm = T3.vm from rfl, hs3.1.alike.findClass]; exact hown0
    have Sf_b1_w3 : Safe Z consts_1 T3.vm T3.heap b1 := Cn3.safe A1_v2.lt Sf_b1_v2
    have C_w3 : CHr Z consts_1 s.vm h0 T3.vm T3.heap := C_v2.trans Cn3
    refine Gl.tr st3 ?_
    show Gl p e below P (T3.setTop (mkF m 31 #[.val (.int x), .val (.int p2), .val (.int ((x &&& (255 : Int32)).toUInt32.toUInt16.toUInt32.toInt32)), .val (.int ((((x.toUInt32 >>> ((8 : Int32) &&& 31).toUInt32).toInt32) &&& (255 : Int32)).toUInt32.toUInt16.toUInt32.toInt32))] [(.ref b1)]))
    have hcs : own_cs x p2 = ([] : List Int32) := by simp [own_cs, hA]
    obtain ⟨fs, hr, hrun, hended, hRE⟩ := X3.leaveW hS3 (Nat.le_refl _) (v := some (.ref b1)) (fun h => by rw [Bd.returns] at h; cases h)
    refine ⟨_, _, retOut X3 hx Bd.returns rfl (Or.inr (Or.inr (Or.inr (Or.inr ⟨rfl, rfl, rfl⟩)))) (hb hby d36_31) hr, hrun, hended, hPost _ _ ⟨_, _, rfl, ?_, ?_, hRE.1, hRE.2.1, hRE.2.2.1, hRE.2.2.2.mono (by decide) (by decide)⟩⟩
    rotate_left
    · show CHr Z consts_1 s.vm s.heap T3.vm T3.heap
      rw [hh]
      exact C_w3.trans (CHv.at X3 hZ3 hEL C_w3.1)
    show Q36 Z x p2 G1 h0 n0 _ T3.heap _
    exact ⟨N3, f_K_v3, _, rfl, by rw [hcs]; exact ⟨own_hp0, Nat.le_of_ble_eq_true rfl, tt3, kk3, R3a, R3b, R3c, R3d⟩⟩
  · refine Gl.st (fun _ k => XS.ifYes X0.here hx rfl (pc0 := 18) (pc' := 32) rfl (hb hby d36_18) rfl ((if0 _ _).trans (feq (hA : ¬ (p2 = (0 : Int32)))).2) (by decide) (by decide) k) ?_
    show Gl p e below P (s₁.setTop (mkF m 32 #[.val (.int x), .val (.int p2), .val (.int ((x &&& (255 : Int32)).toUInt32.toUInt16.toUInt32.toInt32)), .val (.int ((((x.toUInt32 >>> ((8 : Int32) &&& 31).toUInt32).toInt32) &&& (255 : Int32)).toUInt32.toUInt16.toUInt32.toInt32))] []))
    refine Gl.st (fun _ k => XS.iloadN X0.here hx rfl (hb hby d36_32) rfl k) ?_
    show Gl p e below P (s₁.setTop (mkF m 33 #[.val (.int x), .val (.int p2), .val (.int ((x &&& (255 : Int32)).toUInt32.toUInt16.toUInt32.toInt32)), .val (.int ((((x.toUInt32 >>> ((8 : Int32) &&& 31).toUInt32).toInt32) &&& (255 : Int32)).toUInt32.toUInt16.toUInt32.toInt32))] [(.int p2)]))
    refine Gl.st (fun _ k => XS.iconst X0.here hx rfl (hb hby d36_33) k) ?_
    show Gl p e below P (s₁.setTop (mkF m 34 #[.val (.int x), .val (.int p2), .val (.int ((x &&& (255 : Int32)).toUInt32.toUInt16.toUInt32.toInt32)), .val (.int ((((x.toUInt32 >>> ((8 : Int32) &&& 31).toUInt32).toInt32) &&& (255 : Int32)).toUInt32.toUInt16.toUInt32.toInt32))] [(.int (1 : Int32)), (.int p2)]))
    by_cases hB : p2 = (1 : Int32)
    · refine Gl.st (fun _ k => XS.icmpNo X0.here hx rfl (hb hby d36_34) rfl (teq (hB : p2 = (1 : Int32))).2 k) ?_
      show Gl p e below P (s₁.setTop (mkF m 37 #[.val (.int x), .val (.int p2), .val (.int ((x &&& (255 : Int32)).toUInt32.toUInt16.toUInt32.toInt32)), .val (.int ((((x.toUInt32 >>> ((8 : Int32) &&& 31).toUInt32).toInt32) &&& (255 : Int32)).toUInt32.toUInt16.toUInt32.toInt32))] []))
      refine Gl.st (fun _ k => XS.iloadN X0.here hx rfl (hb hby d36_37) rfl k) ?_
      show Gl p e below P (s₁.setTop (mkF m 38 #[.val (.int x), .val (.int p2), .val (.int ((x &&& (255 : Int32)).toUInt32.toUInt16.toUInt32.toInt32)), .val (.int ((((x.toUInt32 >>> ((8 : Int32) &&& 31).toUInt32).toInt32) &&& (255 : Int32)).toUInt32.toUInt16.toUInt32.toInt32))] [(.int ((x &&& (255 : Int32)).toUInt32.toUInt16.toUInt32.toInt32))]))
      obtain ⟨_, _, ⟨T4, L4, k4, n4⟩, -, X4, ⟨Lc4, hQ4, l4, y4, z4⟩, st4⟩ := Jvm.LawKit.callS X0 hx (y := (⟨"java/lang/String", "valueOf", "(C)Ljava/lang/String;"⟩ : MethodName)) hown0 (mvT hZ0 (hw _ (List.mem_of_getElem? (i := 4) rfl))) (mvT hZ0 (hw _ (List.mem_of_getElem? (i := 5) rfl))) (mvT hZ0 (hw _ (List.mem_of_getElem? (i := 6) rfl))) (mvT hZ0 (hw _ (List.mem_of_getElem? (i := 7) rfl))) (by decide) (backOf (W := 0) (rm33 l Z a0 hw [] ((x &&& (255 : Int32)).toUInt32.toUInt16.toUInt32.toInt32) G1 h0 n0 Z0 O2 P5 (own_and255d x) X00) hZ0 (hw _ (List.mem_of_getElem? (i := 7) rfl)) (hw _ (List.mem_of_getElem? (i := 6) rfl)) (by decide) (by decide)) (g := (mkF m 38 #[.val (.int x), .val (.int p2), .val (.int ((x &&& (255 : Int32)).toUInt32.toUInt16.toUInt32.toInt32)), .val (.int ((((x.toUInt32 >>> ((8 : Int32) &&& 31).toUInt32).toInt32) &&& (255 : Int32)).toUInt32.toUInt16.toUInt32.toInt32))] [(.int ((x &&& (255 : Int32)).toUInt32.toUInt16.toUInt32.toInt32))])) rfl (by rw [hml]; rfl) (argsL := [(.int ((x &&& (255 : Int32)).toUInt32.toUInt16.toUInt32.toInt32))]) (rest := []) (lenOf pd_5 rfl) rfl (by show 2 * 0 + _ ≤ _; exact Nat.le_of_eq rfl) (hb hby d36_38) (fun _ _ => ⟨rfl, e0, (by decide : 0 + 2 ≤ _), (by decide : 0 + 5 ≤ _)⟩)
      dsimp only [Pt.U, Pt.locs, Pt.cells, Pt.slots] at X4 l4 y4 z4 st4 hQ4
      subst l4 y4 z4
      obtain ⟨N4q, K4, b4, rfl, t4, kb4, R4a, R4b, R4c, R4d⟩ := hQ4
      have N4 := Fr.app N0 N4q
      have C_v4 : CHr Z consts_1 s.vm h0 s.vm T4.heap := C0.trans (CHr.keep K4 sf0 C0.1)
      have Z0_v4 : n0 ≤ T4.heap.size := Nat.le_trans Z0 K4.1
      have f_hk_v4 : 0 ≤ T4.heap.size := Nat.le_trans (Nat.zero_le _) K4.1
      have X00_v4 : Old Z n0 T4.heap := X00.keep K4 all0
      have f_K_v4 : Keep h0 T4.heap [] := (Keep.refl h0 []).trans K4 all0
      refine Gl.st st4 ?_
      show Gl p e below P (T4.setTop (mkF m 41 #[.val (.int x), .val (.int p2), .val (.int ((x &&& (255 : Int32)).toUInt32.toUInt16.toUInt32.toInt32)), .val (.int ((((x.toUInt32 >>> ((8 : Int32) &&& 31).toUInt32).toInt32) &&& (255 : Int32)).toUInt32.toUInt16.toUInt32.toInt32))] [(.ref b4)]))
      have hcs : own_cs x p2 = ([((x &&& (255 : Int32)).toUInt32.toUInt16.toUInt32.toInt32)] : List Int32) := by simp [own_cs, hA, hB]
      obtain ⟨fs, hr, hrun, hended, hRE⟩ := X4.leaveW hS0 f_hk_v4 (v := some (.ref b4)) (fun h => by rw [Bd.returns] at h; cases h)
      refine ⟨_, _, retOut X4 hx Bd.returns rfl (Or.inr (Or.inr (Or.inr (Or.inr ⟨rfl, rfl, rfl⟩)))) (hb hby d36_41) hr, hrun, hended, hPost _ _ ⟨_, _, rfl, ?_, ?_, hRE.1, hRE.2.1, hRE.2.2.1, hRE.2.2.2.mono (by decide) (by decide)⟩⟩
      rotate_left
      · show CHr Z consts_1 s.vm s.heap T4.vm T4.heap
        rw [hh]
        exact C_v4.trans (CHv.at X4 hZ0 hEL C_v4.1)
      show Q36 Z x p2 G1 h0 n0 _ T4.heap _
      exact ⟨N4, f_K_v4, _, rfl, by rw [hcs]; exact ⟨(own_hpS (own_and255e x) own_hp0), Nat.le_of_ble_eq_true rfl, t4, kb4, R4a, R4b, R4c, R4d⟩⟩
    · refine Gl.st (fun _ k => XS.icmpYes X0.here hx rfl (pc0 := 34) (pc' := 42) rfl (hb hby d36_34) rfl (feq (hB : ¬ (p2 = (1 : Int32)))).2 (by decide) (by decide) k) ?_
      show Gl p e below P (s₁.setTop (mkF m 42 #[.val (.int x), .val (.int p2), .val (.int ((x &&& (255 : Int32)).toUInt32.toUInt16.toUInt32.toInt32)), .val (.int ((((x.toUInt32 >>> ((8 : Int32) &&& 31).toUInt32).toInt32) &&& (255 : Int32)).toUInt32.toUInt16.toUInt32.toInt32))] []))
      obtain ⟨T5, h5, X5, e5, E5, A5, D5, -, st5⟩ := newO X0 hx hZ0 hown0 (hw _ (List.mem_of_getElem? (i := 30) rfl)) (hw _ (List.mem_of_getElem? (i := 14) rfl)) (hw _ (List.mem_of_getElem? (i := 6) rfl)) e0 (g := (mkF m 42 #[.val (.int x), .val (.int p2), .val (.int ((x &&& (255 : Int32)).toUInt32.toUInt16.toUInt32.toInt32)), .val (.int ((((x.toUInt32 >>> ((8 : Int32) &&& 31).toUInt32).toInt32) &&& (255 : Int32)).toUInt32.toUInt16.toUInt32.toInt32))] [])) rfl (hb hby d36_42) (by decide) (by decide)
      obtain ⟨b5, g5⟩ : ∃ z, z = h0.size := ⟨_, rfl⟩
      rw [← g5] at A5 D5 st5
      refine Gl.st st5 ?_
      have g_b5 : n0 ≤ b5 := Nat.le_trans Z0 (Nat.le_of_eq g5.symm)
      have sz_b5 : h0.size ≤ b5 := Nat.le_trans (Keep.refl h0 []).1 (Nat.le_of_eq g5.symm)
      have Sf_b5 : Safe Z consts_1 s.vm h0 b5 := Safe.new (Nat.le_of_eq g5.symm)
      have Sf_b5_v5 : Safe Z consts_1 s.vm h5 b5 := Safe.ext E5 C0.1 Sf_b5
      have C_v5 : CHr Z consts_1 s.vm h0 s.vm h5 := C0.trans (CHr.ext E5 C0.1)
      have Z0_v5 : n0 ≤ h5.size := Nat.le_trans Z0 E5.1
      have f_hk_v5 : 0 ≤ h5.size := Nat.le_trans (Nat.zero_le _) E5.1
      have X00_v5 : Old Z n0 h5 := X00.ext E5
      have f_K_v5 : Keep h0 h5 [] := (Keep.refl h0 []).ext E5
      have F_value_b5 : Fld Z h5 b5 "java/lang/String" "value" "[B" .null := D5 (Or.inr (hw _ (List.mem_of_getElem? (i := 27) rfl))) (ty := (.array .byte)) (by decide)
      have F_coder_b5 : Fld Z h5 b5 "java/lang/String" "coder" "B" (.int (0 : Int32)) := D5 (Or.inr (hw _ (List.mem_of_getElem? (i := 29) rfl))) (ty := .byte) (by decide)
      show Gl p e below P (T5.setTop (mkF m 45 #[.val (.int x), .val (.int p2), .val (.int ((x &&& (255 : Int32)).toUInt32.toUInt16.toUInt32.toInt32)), .val (.int ((((x.toUInt32 >>> ((8 : Int32) &&& 31).toUInt32).toInt32) &&& (255 : Int32)).toUInt32.toUInt16.toUInt32.toInt32))] [(.ref b5)]))
      refine Gl.st (fun _ k => XS.dup X5.here hx rfl (hb hby d36_45) rfl rfl k) ?_
      show Gl p e below P (T5.setTop (mkF m 46 #[.val (.int x), .val (.int p2), .val (.int ((x &&& (255 : Int32)).toUInt32.toUInt16.toUInt32.toInt32)), .val (.int ((((x.toUInt32 >>> ((8 : Int32) &&& 31).toUInt32).toInt32) &&& (255 : Int32)).toUInt32.toUInt16.toUInt32.toInt32))] [(.ref b5), (.ref b5)]))
      refine Gl.st (fun _ k => XS.iconst X5.here hx rfl (hb hby d36_46) k) ?_
      show Gl p e below P (T5.setTop (mkF m 47 #[.val (.int x), .val (.int p2), .val (.int ((x &&& (255 : Int32)).toUInt32.toUInt16.toUInt32.toInt32)), .val (.int ((((x.toUInt32 >>> ((8 : Int32) &&& 31).toUInt32).toInt32) &&& (255 : Int32)).toUInt32.toUInt16.toUInt32.toInt32))] [(.int (2 : Int32)), (.ref b5), (.ref b5)]))
      obtain ⟨T6, h6, k6, X6, e6, E6, A6, st6⟩ := newP X5 hx hZ0 (hw _ (List.mem_of_getElem? (i := 31) rfl)) e5 (g := (mkF m 47 #[.val (.int x), .val (.int p2), .val (.int ((x &&& (255 : Int32)).toUInt32.toUInt16.toUInt32.toInt32)), .val (.int ((((x.toUInt32 >>> ((8 : Int32) &&& 31).toUInt32).toInt32) &&& (255 : Int32)).toUInt32.toUInt16.toUInt32.toInt32))] [(.int (2 : Int32)), (.ref b5), (.ref b5)])) rfl (hb hby d36_47) rfl (by decide) (cap := 2) (by decide) (by decide) (by decide) (by decide)
      obtain ⟨b6, g6⟩ : ∃ z, z = h5.size := ⟨_, rfl⟩
      rw [← g6] at A6 st6
      refine Gl.st st6 ?_
      have g_b6 : n0 ≤ b6 := Nat.le_trans Z0_v5 (Nat.le_of_eq g6.symm)
      have sz_b6 : h0.size ≤ b6 := Nat.le_trans f_K_v5.1 (Nat.le_of_eq g6.symm)
      have ne_b5_b6 : b5 ≠ b6 := Nat.ne_of_lt (Nat.lt_of_lt_of_le A5.lt (Nat.le_of_eq g6.symm))
      have Sf_b5_v6 : Safe Z consts_1 s.vm h6 b5 := Safe.ext E6 C_v5.1 Sf_b5_v5
      have C_v6 : CHr Z consts_1 s.vm h0 s.vm h6 := C_v5.trans (CHr.ext E6 C_v5.1)
      have Z0_v6 : n0 ≤ h6.size := Nat.le_trans Z0_v5 E6.1
      have f_hk_v6 : 0 ≤ h6.size := Nat.le_trans f_hk_v5 E6.1
      have X00_v6 : Old Z n0 h6 := X00_v5.ext E6
      have f_K_v6 : Keep h0 h6 [] := f_K_v5.ext E6
      have A5_v6 : Exa Z h6 b5 "java/lang/String" := A5.ext E6
      have F_value_b5_v6 : Fld Z h6 b5 "java/lang/String" "value" "[B" .null := F_value_b5.ext E6
      have F_coder_b5_v6 : Fld Z h6 b5 "java/lang/String" "coder" "B" (.int (0 : Int32)) := F_coder_b5.ext E6
      have V_b6 : Arv Z h6 b6 k6 .char (2 : Int32) [(.int (0 : Int32)), (.int (0 : Int32))] (.int (0 : Int32)) := (Arv.new A6 (by decide)).pad (pad_rep [] (.int (0 : Int32)) 2)
      show Gl p e below P (T6.setTop (mkF m 49 #[.val (.int x), .val (.int p2), .val (.int ((x &&& (255 : Int32)).toUInt32.toUInt16.toUInt32.toInt32)), .val (.int ((((x.toUInt32 >>> ((8 : Int32) &&& 31).toUInt32).toInt32) &&& (255 : Int32)).toUInt32.toUInt16.toUInt32.toInt32))] [(.ref b6), (.ref b5), (.ref b5)]))
      refine Gl.st (fun _ k => XS.dup X6.here hx rfl (hb hby d36_49) rfl rfl k) ?_
      show Gl p e below P (T6.setTop (mkF m 50 #[.val (.int x), .val (.int p2), .val (.int ((x &&& (255 : Int32)).toUInt32.toUInt16.toUInt32.toInt32)), .val (.int ((((x.toUInt32 >>> ((8 : Int32) &&& 31).toUInt32).toInt32) &&& (255 : Int32)).toUInt32.toUInt16.toUInt32.toInt32))] [(.ref b6), (.ref b6), (.ref b5), (.ref b5)]))
      refine Gl.st (fun _ k => XS.iconst X6.here hx rfl (hb hby d36_50) k) ?_
      show Gl p e below P (T6.setTop (mkF m 51 #[.val (.int x), .val (.int p2), .val (.int ((x &&& (255 : Int32)).toUInt32.toUInt16.toUInt32.toInt32)), .val (.int ((((x.toUInt32 >>> ((8 : Int32) &&& 31).toUInt32).toInt32) &&& (255 : Int32)).toUInt32.toUInt16.toUInt32.toInt32))] [(.int (0 : Int32)), (.ref b6), (.ref b6), (.ref b5), (.ref b5)]))
      refine Gl.st (fun _ k => XS.iloadN X6.here hx rfl (hb hby d36_51) rfl k) ?_
      show Gl p e below P (T6.setTop (mkF m 52 #[.val (.int x), .val (.int p2), .val (.int ((x &&& (255 : Int32)).toUInt32.toUInt16.toUInt32.toInt32)), .val (.int ((((x.toUInt32 >>> ((8 : Int32) &&& 31).toUInt32).toInt32) &&& (255 : Int32)).toUInt32.toUInt16.toUInt32.toInt32))] [(.int ((x &&& (255 : Int32)).toUInt32.toUInt16.toUInt32.toInt32)), (.int (0 : Int32)), (.ref b6), (.ref b6), (.ref b5), (.ref b5)]))
      obtain ⟨c7, Ar7, q7, S7, M7, H7, U7⟩ := id V_b6
      obtain ⟨T8, h8, X8, e8, W8, st8⟩ := stC X6 hx hZ0 e6 Ar7 (j := (0 : Int32)) (inb_of S7 ⟨(by decide : ¬ ((0 : Int32) < (0 : Int32))), (by decide : (0 : Int32) < (2 : Int32))⟩) (g := (mkF m 52 #[.val (.int x), .val (.int p2), .val (.int ((x &&& (255 : Int32)).toUInt32.toUInt16.toUInt32.toInt32)), .val (.int ((((x.toUInt32 >>> ((8 : Int32) &&& 31).toUInt32).toInt32) &&& (255 : Int32)).toUInt32.toUInt16.toUInt32.toInt32))] [(.int ((x &&& (255 : Int32)).toUInt32.toUInt16.toUInt32.toInt32)), (.int (0 : Int32)), (.ref b6), (.ref b6), (.ref b5), (.ref b5)])) rfl rfl (hb hby d36_52)
      refine Gl.st st8 ?_
      have Sf_b5_v8 : Safe Z consts_1 s.vm h8 b5 := Safe.wr W8 (Safe.arv hZ0.alike V_b6 (by decide)) C_v6.1 Sf_b5_v6
      have C_v8 : CHr Z consts_1 s.vm h0 s.vm h8 := C_v6.trans (CHr.wr W8 (Safe.arv hZ0.alike V_b6 (by decide)) C_v6.1)
      have Z0_v8 : n0 ≤ h8.size := Nat.le_trans Z0_v6 (Keep.of_wr W8).1
      have f_hk_v8 : 0 ≤ h8.size := Nat.le_trans f_hk_v6 (Keep.of_wr W8).1
      have X00_v8 : Old Z n0 h8 := X00_v6.wr W8 g_b6
      have f_K_v8 : Keep h0 h8 [] := f_K_v6.wr W8 (Or.inr sz_b6)
      have A5_v8 : Exa Z h8 b5 "java/lang/String" := A5_v6.wr W8
      have F_value_b5_v8 : Fld Z h8 b5 "java/lang/String" "value" "[B" .null := F_value_b5_v6.other W8 (Or.inl ne_b5_b6)
      have F_coder_b5_v8 : Fld Z h8 b5 "java/lang/String" "coder" "B" (.int (0 : Int32)) := F_coder_b5_v6.other W8 (Or.inl ne_b5_b6)
      have V_b6_8 : Arv Z h8 b6 k6 .char (2 : Int32) [(.int (nar .char ((x &&& (255 : Int32)).toUInt32.toUInt16.toUInt32.toInt32))), (.int (0 : Int32))] (.int (0 : Int32)) := Arv.set Ar7 q7 S7 M7 H7 U7 (fits_nar_char _) W8 0 rfl (Nat.le_of_ble_eq_true rfl)
      have N8 := Fr.snoc X8 N0 g_b6
      show Gl p e below P (T8.setTop (mkF m 53 #[.val (.int x), .val (.int p2), .val (.int ((x &&& (255 : Int32)).toUInt32.toUInt16.toUInt32.toInt32)), .val (.int ((((x.toUInt32 >>> ((8 : Int32) &&& 31).toUInt32).toInt32) &&& (255 : Int32)).toUInt32.toUInt16.toUInt32.toInt32))] [(.ref b6), (.ref b5), (.ref b5)]))
      refine Gl.st (fun _ k => XS.dup X8.here hx rfl (hb hby d36_53) rfl rfl k) ?_
      show Gl p e below P (T8.setTop (mkF m 54 #[.val (.int x), .val (.int p2), .val (.int ((x &&& (255 : Int32)).toUInt32.toUInt16.toUInt32.toInt32)), .val (.int ((((x.toUInt32 >>> ((8 : Int32) &&& 31).toUInt32).toInt32) &&& (255 : Int32)).toUInt32.toUInt16.toUInt32.toInt32))] [(.ref b6), (.ref b6), (.ref b5), (.ref b5)]))
      refine Gl.st (fun _ k => XS.iconst X8.here hx rfl (hb hby d36_54) k) ?_
      show Gl p e below P (T8.setTop (mkF m 55 #[.val (.int x), .val (.int p2), .val (.int ((x &&& (255 : Int32)).toUInt32.toUInt16.toUInt32.toInt32)), .val (.int ((((x.toUInt32 >>> ((8 : Int32) &&& 31).toUInt32).toInt32) &&& (255 : Int32)).toUInt32.toUInt16.toUInt32.toInt32))] [(.int (1 : Int32)), (.ref b6), (.ref b6), (.ref b5), (.ref b5)]))
      refine Gl.st (fun _ k => XS.iloadN X8.here hx rfl (hb hby d36_55) rfl k) ?_
      show Gl p e below P (T8.setTop (mkF m 56 #[.val (.int x), .val (.int p2), .val (.int ((x &&& (255 : Int32)).toUInt32.toUInt16.toUInt32.toInt32)), .val (.int ((((x.toUInt32 >>> ((8 : Int32) &&& 31).toUInt32).toInt32) &&& (255 : Int32)).toUInt32.toUInt16.toUInt32.toInt32))] [(.int ((((x.toUInt32 >>> ((8 : Int32) &&& 31).toUInt32).toInt32) &&& (255 : Int32)).toUInt32.toUInt16.toUInt32.toInt32)), (.int (1 : Int32)), (.ref b6), (.ref b6), (.ref b5), (.ref b5)]))
      obtain ⟨c9, Ar9, q9, S9, M9, H9, U9⟩ := id V_b6_8
      obtain ⟨T10, h10, X10, e10, W10, st10⟩ := stC X8 hx hZ0 e8 Ar9 (j := (1 : Int32)) (inb_of S9 ⟨(by decide : ¬ ((1 : Int32) < (0 : Int32))), (by decide : (1 : Int32) < (2 : Int32))⟩) (g := (mkF m 56 #[.val (.int x), .val (.int p2), .val (.int ((x &&& (255 : Int32)).toUInt32.toUInt16.toUInt32.toInt32)), .val (.int ((((x.toUInt32 >>> ((8 : Int32) &&& 31).toUInt32).toInt32) &&& (255 : Int32)).toUInt32.toUInt16.toUInt32.toInt32))] [(.int ((((x.toUInt32 >>> ((8 : Int32) &&& 31).toUInt32).toInt32) &&& (255 : Int32)).toUInt32.toUInt16.toUInt32.toInt32)), (.int (1 : Int32)), (.ref b6), (.ref b6), (.ref b5), (.ref b5)])) rfl rfl (hb hby d36_56)
      refine Gl.st st10 ?_
      have Sf_b5_v10 : Safe Z consts_1 s.vm h10 b5 := Safe.wr W10 (Safe.arv hZ0.alike V_b6_8 (by decide)) C_v8.1 Sf_b5_v8
      have C_v10 : CHr Z consts_1 s.vm h0 s.vm h10 := C_v8.trans (CHr.wr W10 (Safe.arv hZ0.alike V_b6_8 (by decide)) C_v8.1)
      have Z0_v10 : n0 ≤ h10.size := Nat.le_trans Z0_v8 (Keep.of_wr W10).1
      have f_hk_v10 : 0 ≤ h10.size := Nat.le_trans f_hk_v8 (Keep.of_wr W10).1
      have X00_v10 : Old Z n0 h10 := X00_v8.wr W10 g_b6
      have f_K_v10 : Keep h0 h10 [] := f_K_v8.wr W10 (Or.inr sz_b6)
      have A5_v10 : Exa Z h10 b5 "java/lang/String" := A5_v8.wr W10
      have F_value_b5_v10 : Fld Z h10 b5 "java/lang/String" "value" "[B" .null := F_value_b5_v8.other W10 (Or.inl ne_b5_b6)
      have F_coder_b5_v10 : Fld Z h10 b5 "java/lang/String" "coder" "B" (.int (0 : Int32)) := F_coder_b5_v8.other W10 (Or.inl ne_b5_b6)
      have V_b6_10 : Arv Z h10 b6 k6 .char (2 : Int32) [(.int (nar .char ((x &&& (255 : Int32)).toUInt32.toUInt16.toUInt32.toInt32))), (.int (nar .char ((((x.toUInt32 >>> ((8 : Int32) &&& 31).toUInt32).toInt32) &&& (255 : Int32)).toUInt32.toUInt16.toUInt32.toInt32)))] (.int (0 : Int32)) := Arv.set Ar9 q9 S9 M9 H9 U9 (fits_nar_char _) W10 1 rfl (Nat.le_of_ble_eq_true rfl)
      have N10 := Fr.snoc X10 N8 g_b6
      show Gl p e below P (T10.setTop (mkF m 57 #[.val (.int x), .val (.int p2), .val (.int ((x &&& (255 : Int32)).toUInt32.toUInt16.toUInt32.toInt32)), .val (.int ((((x.toUInt32 >>> ((8 : Int32) &&& 31).toUInt32).toInt32) &&& (255 : Int32)).toUInt32.toUInt16.toUInt32.toInt32))] [(.ref b6), (.ref b5), (.ref b5)]))
      obtain ⟨_, _, ⟨T11, L11, k11, n11⟩, -, X11, ⟨Lc11, hQ11, l11, y11, z11⟩, st11⟩ := X10.specialBack hx (y := (⟨"java/lang/String", "<init>", "([C)V"⟩ : MethodName)) rfl hown0 (mvT hZ0 (hw _ (List.mem_of_getElem? (i := 32) rfl))) (mvT hZ0 (hw _ (List.mem_of_getElem? (i := 33) rfl))) (mvT hZ0 (hw _ (List.mem_of_getElem? (i := 34) rfl))) (by decide) (StrChars.Road.backV (W := 1) hZ0 hws (kI := 4) (hw _ (List.mem_of_getElem? (i := 14) rfl)) (cs := ([(nar .char ((x &&& (255 : Int32)).toUInt32.toUInt16.toUInt32.toInt32)), (nar .char ((((x.toUInt32 >>> ((8 : Int32) &&& 31).toUInt32).toInt32) &&& (255 : Int32)).toUInt32.toUInt16.toUInt32.toInt32))] : List Int32)) (bs := (([(nar .char ((x &&& (255 : Int32)).toUInt32.toUInt16.toUInt32.toInt32)), (nar .char ((((x.toUInt32 >>> ((8 : Int32) &&& 31).toUInt32).toInt32) &&& (255 : Int32)).toUInt32.toUInt16.toUInt32.toInt32))] : List Int32)).map (fun c => c.toInt8.toInt32)) (n := 2) g_b5 Z0_v10 A5_v10 F_value_b5_v10 F_coder_b5_v10 V_b6_10 (O2.ext X00_v10.2) P5 rfl rfl (by decide) (by decide) (own_hpS (own_and255 _) (own_hpS (own_and255 _) own_hp0)) rfl (by decide) (by decide)) (g := (mkF m 57 #[.val (.int x), .val (.int p2), .val (.int ((x &&& (255 : Int32)).toUInt32.toUInt16.toUInt32.toInt32)), .val (.int ((((x.toUInt32 >>> ((8 : Int32) &&& 31).toUInt32).toInt32) &&& (255 : Int32)).toUInt32.toUInt16.toUInt32.toInt32))] [(.ref b6), (.ref b5), (.ref b5)])) rfl (by rw [hml]; rfl) (Steps.refl _) (a := b5) (argsL := [(.ref b6)]) (rest := [(.ref b5)]) (lenOf pd_4 rfl) rfl (by show 2 * 0 + _ ≤ _; exact Nat.le_of_eq rfl) (hb hby d36_57) (fun _ _ => ⟨rfl, e10, (by decide : 2 + 1 ≤ _), (by decide : 6 + 2 ≤ _)⟩)
      dsimp only [Pt.U, Pt.locs, Pt.cells, Pt.slots] at X11 l11 y11 z11 st11 hQ11
      subst l11 y11 z11
      obtain ⟨rfl, N11q, K11, E11x, C11x, t11, kb11, u11, v11, w11, V11x, A11x⟩ := hQ11
      have N11 := Fr.app N10 N11q
      have Sf_b5_v11 : Safe Z consts_1 s.vm T11.heap b5 := Safe.keep K11 (sfS Sf_b5_v10 sf0) C_v10.1 Sf_b5_v10
      have C_v11 : CHr Z consts_1 s.vm h0 s.vm T11.heap := C_v10.trans (CHr.keep K11 (sfS Sf_b5_v10 sf0) C_v10.1)
      have Z0_v11 : n0 ≤ T11.heap.size := Nat.le_trans Z0_v10 K11.1
      have f_hk_v11 : 0 ≤ T11.heap.size := Nat.le_trans f_hk_v10 K11.1
      have X00_v11 : Old Z n0 T11.heap := X00_v10.keep K11 (allS g_b5 all0)
      have f_K_v11 : Keep h0 T11.heap [] := f_K_v10.trans K11 (allS (Or.inr sz_b5) all0)
      have A5_v11 : Exa Z T11.heap b5 "java/lang/String" := A5_v10.keep K11
      have V_b6_10_v11 : Arv Z T11.heap b6 k6 .char (2 : Int32) [(.int (nar .char ((x &&& (255 : Int32)).toUInt32.toUInt16.toUInt32.toInt32))), (.int (nar .char ((((x.toUInt32 >>> ((8 : Int32) &&& 31).toUInt32).toInt32) &&& (255 : Int32)).toUInt32.toUInt16.toUInt32.toInt32)))] (.int (0 : Int32)) := V_b6_10.keep K11 (ninS (Ne.symm ne_b5_b6) nin0)
      refine Gl.tr st11 ?_
      show Gl p e below P (T11.setTop (mkF m 60 #[.val (.int x), .val (.int p2), .val (.int ((x &&& (255 : Int32)).toUInt32.toUInt16.toUInt32.toInt32)), .val (.int ((((x.toUInt32 >>> ((8 : Int32) &&& 31).toUInt32).toInt32) &&& (255 : Int32)).toUInt32.toUInt16.toUInt32.toInt32))] [(.ref b5)]))
      have hcs : own_cs x p2 = ([nar .char ((x &&& (255 : Int32)).toUInt32.toUInt16.toUInt32.toInt32), nar .char ((((x.toUInt32 >>> ((8 : Int32) &&& 31).toUInt32).toInt32) &&& (255 : Int32)).toUInt32.toUInt16.toUInt32.toInt32)] : List Int32) := by simp [own_cs, hA, hB]
      obtain ⟨fs, hr, hrun, hended, hRE⟩ := X11.leaveW hS0 f_hk_v11 (v := some (.ref b5)) (fun h => by rw [Bd.returns] at h; cases h)
      refine ⟨_, _, retOut X11 hx Bd.returns rfl (Or.inr (Or.inr (Or.inr (Or.inr ⟨rfl, rfl, rfl⟩)))) (hb hby d36_60) hr, hrun, hended, hPost _ _ ⟨_, _, rfl, ?_, ?_, hRE.1, hRE.2.1, hRE.2.2.1, hRE.2.2.2.mono (by decide) (by decide)⟩⟩
      rotate_left
      · show CHr Z consts_1 s.vm s.heap T11.vm T11.heap
        rw [hh]
        exact C_v11.trans (CHv.at X11 hZ0 hEL C_v11.1)
      show Q36 Z x p2 G1 h0 n0 _ T11.heap _
      exact ⟨N11, f_K_v11, _, rfl, by rw [hcs]; exact ⟨(own_hpS (own_and255 _) (own_hpS (own_and255 _) own_hp0)), Nat.le_of_ble_eq_true rfl, t11, kb11, E11x, C11x, V11x, A11x⟩⟩
theorem pn_37 : plainName "java/util/Objects" = true := by first | (simp [plainName, overriddenIn]; done) | decide +kernel
theorem ef_37 (m : MethodId) (x0 : Addr) (x1 : Addr) : entryFrame m #[(.ref x0), (.ref x1)] 2 = mkF m 0 #[.val (.ref x0), .val (.ref x1)] [] := by first | (simp [entryFrame, mkF, argsToLocals, Value.category]; done) | rfl
def Q37 (Z : State) (a1 : Addr) (a2 : Addr) (h0 : Heap) (n0 : Nat) (v : Option Value) (h : Heap) (L : List Loc) : Prop := v = some (.ref a1) ∧ Fr n0 L ∧ h = h0
set_option maxRecDepth 65536 in
set_option maxHeartbeats 40000000 in
theorem rm37 (l : Launch) (Z : State) (a0 : Array Value) (hw : ∀ d ∈ tables_1, d.before a0 Z = true) (ws : List Jvm.Cond) (a1 : Addr) (a2 : Addr) (h0 : Heap) (n0 : Nat) (Z0 : n0 ≤ h0.size)  :
    MetFree l (⟨"java/util/Objects", "requireNonNull", "(Ljava/lang/Object;Ljava/lang/String;)Ljava/lang/Object;"⟩ : MethodName) (head1 (Jvm.Cond.code (⟨"java/util/Objects", "requireNonNull", "(Ljava/lang/Object;Ljava/lang/String;)Ljava/lang/Object;"⟩ : MethodName) jdk_31_method_11_code 2 (some (.object "java/lang/Object")) :: ws) ({ frames := 0, cells := 0, slots := 0, locals := 0 } : Room)) (fun a U => a = #[(.ref a1), (.ref a2)] ∧ Z.Warmed39 U.vm ∧ U.heap = h0) (fun _ _ _ _ _ => True) (fun _ U o U' => ∃ v L, o = .returned v ∧ Q37 Z a1 a2 h0 n0 v U'.heap L ∧ FrameEnd U o U' L ({ frames := 0, cells := 0, slots := 0, locals := 0 } : Room).cells ({ frames := 0, cells := 0, slots := 0, locals := 0 } : Room).slots) := by
  refine MetFree.of_bodySF (plainFor_of_name pn_37) hisR ?_
  intro p e s m args below meth c s₁ Bd hml0 hP hK
  obtain ⟨rfl, hZ, hh⟩ := hP
  have hx := Bd.exec
  have hby := Bd.bytes
  have hml : c.maxLocals = 2 := hml0
  have hown : s.vm.findClass "java/util/Objects" = some m.cls := findClass_of_methodNamed Bd.named
  have hnm := (name_of_methodNamed Bd.named Bd.method).1
  have X0 : Stand p l e ({ frames := 0, cells := 0, slots := 0, locals := 0 } : Room) s m #[(.ref a1), (.ref a2)] below meth c s₁ [] 0 0 := Stand.of_body Bd
  have e0 : s₁.heap = h0 := by rw [← hh, Bd.state]; rfl
  have N0 := Fr.nil n0
  refine Gl.gen fun P hPost => ?_
  refine Gl.st (fun t k => castTop (ef_37 m a1 a2 ) k) ?_
  show Gl p e below P (s₁.setTop (mkF m 0 #[.val (.ref a1), .val (.ref a2)] []))
  refine Gl.st (fun _ k => XS.aloadN X0.here hx rfl (hb hby d37_0) rfl rfl k) ?_
  show Gl p e below P (s₁.setTop (mkF m 1 #[.val (.ref a1), .val (.ref a2)] [(.ref a1)]))
  refine Gl.st (fun _ k => XS.ifnonnullYes X0.here hx rfl (pc0 := 1) (pc' := 13) rfl (hb hby d37_1) rfl (by decide) (by decide) k) ?_
  show Gl p e below P (s₁.setTop (mkF m 13 #[.val (.ref a1), .val (.ref a2)] []))
  refine Gl.st (fun _ k => XS.aloadN X0.here hx rfl (hb hby d37_13) rfl rfl k) ?_
  show Gl p e below P (s₁.setTop (mkF m 14 #[.val (.ref a1), .val (.ref a2)] [(.ref a1)]))
  obtain ⟨fs, hr, hrun, hended, hW, hsame⟩ := X0.leave (v := some (.ref a1)) (fun h => by rw [Bd.returns] at h; cases h)
  refine ⟨_, _, retOut X0 hx Bd.returns rfl (Or.inr (Or.inr (Or.inr (Or.inr ⟨rfl, rfl, rfl⟩)))) (hb hby d37_14) hr, hrun, hended, hPost _ _ ⟨_, _, rfl, ?_, ⟨_, rfl⟩, hW, hsame.mono (by decide) (by decide)⟩⟩
  show Q37 Z a1 a2 h0 n0 _ s₁.heap _
  rw [e0]
  exact ⟨rfl, N0, rfl⟩
theorem pn_38 : plainName "com/example/assort/assort/TrecDocument" = true := by first | (simp [plainName, overriddenIn]; done) | decide +kernel
theorem ef_38 (m : MethodId) (x0 : Addr) (x1 : Addr) (x2 : Addr) (x3 : Addr) : entryFrame m #[(.ref x0), (.ref x1), (.ref x2), (.ref x3)] 4 = mkF m 0 #[.val (.ref x0), .val (.ref x1), .val (.ref x2), .val (.ref x3)] [] := by first | (simp [entryFrame, mkF, argsToLocals, Value.category]; done) | rfl
def Q38 (Z : State) (a1 : Addr) (s1 : Addr) (s2 : Addr) (s3 : Addr) (h0 : Heap) (n0 : Nat) (v : Option Value) (h : Heap) (L : List Loc) : Prop := v = none ∧ Fr n0 L ∧ Keep h0 h [a1] ∧ Exa Z h a1 "com/example/assort/assort/TrecDocument" ∧ Fld Z h a1 "com/example/assort/assort/TrecDocument" "docno" "Ljava/lang/String;" (.ref s1) ∧ Fld Z h a1 "com/example/assort/assort/TrecDocument" "title" "Ljava/lang/String;" (.ref s2) ∧ Fld Z h a1 "com/example/assort/assort/TrecDocument" "text" "Ljava/lang/String;" (.ref s3)
set_option maxRecDepth 65536 in
set_option maxHeartbeats 40000000 in
theorem rm38 (l : Launch) (Z : State) (a0 : Array Value) (hw : ∀ d ∈ tables_1, d.before a0 Z = true) (ws : List Jvm.Cond) (a1 : Addr) (s1 : Addr) (s2 : Addr) (s3 : Addr) (h0 : Heap) (n0 : Nat) (Z0 : n0 ≤ h0.size) (E1 : Exa Z h0 a1 "com/example/assort/assort/TrecDocument") (F_docno : Fld Z h0 a1 "com/example/assort/assort/TrecDocument" "docno" "Ljava/lang/String;" .null) (F_title : Fld Z h0 a1 "com/example/assort/assort/TrecDocument" "title" "Ljava/lang/String;" .null) (F_text : Fld Z h0 a1 "com/example/assort/assort/TrecDocument" "text" "Ljava/lang/String;" .null) (Es1 : Exa Z h0 s1 "java/lang/String") (Es2 : Exa Z h0 s2 "java/lang/String") (Es3 : Exa Z h0 s3 "java/lang/String") (g1 : n0 ≤ a1) :
    MetFree l (⟨"com/example/assort/assort/TrecDocument", "<init>", "(Ljava/lang/String;Ljava/lang/String;Ljava/lang/String;)V"⟩ : MethodName) (head1 (Jvm.Cond.code (⟨"com/example/assort/assort/TrecDocument", "<init>", "(Ljava/lang/String;Ljava/lang/String;Ljava/lang/String;)V"⟩ : MethodName) prog_26_method_1_code 4 none :: ws) ({ frames := 1, cells := 6, slots := 68, locals := 14 } : Room)) (fun a U => a = #[(.ref a1), (.ref s1), (.ref s2), (.ref s3)] ∧ Z.Warmed39 U.vm ∧ U.heap = h0 ∧ CHv Z consts_1 U.vm h0) (fun _ _ _ _ _ => True) (fun _ U o U' => ∃ v L, o = .returned v ∧ Q38 Z a1 s1 s2 s3 h0 n0 v U'.heap L ∧ CHr Z consts_1 U.vm U.heap U'.vm U'.heap ∧ ReturnedEndW U o U' L ({ frames := 1, cells := 6, slots := 68, locals := 14 } : Room).cells ({ frames := 1, cells := 6, slots := 68, locals := 14 } : Room).slots) := by
  refine MetFree.of_bodySF (plainFor_of_name pn_38) hisR ?_
  intro p e s m args below meth c s₁ Bd hml0 hP hK
  obtain ⟨rfl, hZ, hh, hC⟩ := hP
  have hx := Bd.exec
  have hby := Bd.bytes
  have hml : c.maxLocals = 4 := hml0
  have hown : s.vm.findClass "com/example/assort/assort/TrecDocument" = some m.cls := findClass_of_methodNamed Bd.named
  have hnm := (name_of_methodNamed Bd.named Bd.method).1
  have X0 : Stand p l e ({ frames := 1, cells := 6, slots := 68, locals := 14 } : Room) (s.setVm s.vm) m #[(.ref a1), (.ref s1), (.ref s2), (.ref s3)] below meth c s₁ [] 0 0 := Stand.of_body Bd
  have hS0 : s.Since s.vm 0 := (State.WarmedH.refl s).since 0
  have C0 : CHr Z consts_1 s.vm h0 s.vm h0 := CHr.refl hC
  have hZ0 : Z.Warmed39 (s.setVm s.vm).vm := hZ
  have hown0 : (s.setVm s.vm).vm.findClass "com/example/assort/assort/TrecDocument" = some m.cls := hown
  have hEL := own_EW hw
  have wS := own_wS hw
  have e0 : s₁.heap = h0 := by rw [← hh, Bd.state]; rfl
  have N0 := Fr.nil n0
  refine Gl.gen fun P hPost => ?_
  refine Gl.st (fun t k => castTop (ef_38 m a1 s1 s2 s3 ) k) ?_
  show Gl p e below P (s₁.setTop (mkF m 0 #[.val (.ref a1), .val (.ref s1), .val (.ref s2), .val (.ref s3)] []))
  refine Gl.st (fun _ k => XS.aloadN X0.here hx rfl (hb hby d38_0) rfl rfl k) ?_
  show Gl p e below P (s₁.setTop (mkF m 1 #[.val (.ref a1), .val (.ref s1), .val (.ref s2), .val (.ref s3)] [(.ref a1)]))
  obtain ⟨T1, X1, e1, st1⟩ := initO X0 hx hZ0 hown0 (hw _ (List.mem_of_getElem? (i := 48) rfl)) (hw _ (List.mem_of_getElem? (i := 24) rfl)) (hw _ (List.mem_of_getElem? (i := 25) rfl)) e0 (g := (mkF m 1 #[.val (.ref a1), .val (.ref s1), .val (.ref s2), .val (.ref s3)] [(.ref a1)])) rfl (by rw [hml]; rfl) rfl (hb hby d38_1) (by decide) (W := 0) (by show 2 * 0 + _ ≤ _; exact Nat.le_of_eq rfl) (by decide)
  refine Gl.st st1 ?_
  show Gl p e below P (T1.setTop (mkF m 4 #[.val (.ref a1), .val (.ref s1), .val (.ref s2), .val (.ref s3)] []))
  refine Gl.st (fun _ k => XS.aloadN X1.here hx rfl (hb hby d38_4) rfl rfl k) ?_
  show Gl p e below P (T1.setTop (mkF m 5 #[.val (.ref a1), .val (.ref s1), .val (.ref s2), .val (.ref s3)] [(.ref a1)]))
  refine Gl.st (fun _ k => XS.aloadN X1.here hx rfl (hb hby d38_5) rfl rfl k) ?_
  show Gl p e below P (T1.setTop (mkF m 6 #[.val (.ref a1), .val (.ref s1), .val (.ref s2), .val (.ref s3)] [(.ref s1), (.ref a1)]))
  obtain ⟨la2, T2, h2, k12, X2, e2, E2, hS2, hk2, hZ2, hown2, Cn2, -, st2⟩ := ldcOH X1 hx hZ0 hown0 (hw _ (List.mem_of_getElem? (i := 49) rfl)) wS e1 hS0 (Nat.zero_le _) hEL C0.1 (g := (mkF m 6 #[.val (.ref a1), .val (.ref s1), .val (.ref s2), .val (.ref s3)] [(.ref s1), (.ref a1)])) rfl (hb hby d38_6) (n := 20) (by decide) (by decide) (by decide) (by decide)
  have Z0_v2 : n0 ≤ h2.size := Nat.le_trans Z0 E2.1
  have f_hk_v2 : 0 ≤ h2.size := Nat.le_trans (Nat.zero_le _) E2.1
  have E1_v2 : Exa Z h2 a1 "com/example/assort/assort/TrecDocument" := E1.ext E2
  have f_K_v2 : Keep h0 h2 [a1] := (Keep.refl h0 [a1]).ext E2
  have F_docno_v2 : Fld Z h2 a1 "com/example/assort/assort/TrecDocument" "docno" "Ljava/lang/String;" .null := F_docno.ext E2
  have F_title_v2 : Fld Z h2 a1 "com/example/assort/assort/TrecDocument" "title" "Ljava/lang/String;" .null := F_title.ext E2
  have F_text_v2 : Fld Z h2 a1 "com/example/assort/assort/TrecDocument" "text" "Ljava/lang/String;" .null := F_text.ext E2
  have Es1_v2 : Exa Z h2 s1 "java/lang/String" := Es1.ext E2
  have Es2_v2 : Exa Z h2 s2 "java/lang/String" := Es2.ext E2
  have Es3_v2 : Exa Z h2 s3 "java/lang/String" := Es3.ext E2
  have C_w2 : CHr Z consts_1 s.vm h0 T2.vm h2 := C0.trans Cn2
  refine Gl.st st2 ?_
  show Gl p e below P (T2.setTop (mkF m 8 #[.val (.ref a1), .val (.ref s1), .val (.ref s2), .val (.ref s3)] [(.ref la2), (.ref s1), (.ref a1)]))
  obtain ⟨_, _, ⟨T3, L3, k3, n3⟩, -, X3, ⟨Lc3, hQ3, l3, y3, z3⟩, st3⟩ := Jvm.LawKit.callS X2 hx (y := (⟨"java/util/Objects", "requireNonNull", "(Ljava/lang/Object;Ljava/lang/String;)Ljava/lang/Object;"⟩ : MethodName)) hown2 (mvT hZ2 (hw _ (List.mem_of_getElem? (i := 50) rfl))) (mvT hZ2 (hw _ (List.mem_of_getElem? (i := 51) rfl))) (mvT hZ2 (hw _ (List.mem_of_getElem? (i := 52) rfl))) (mvT hZ2 (hw _ (List.mem_of_getElem? (i := 53) rfl))) (by decide) (backOf (W := 1) (rm37 l Z a0 hw [] s1 la2 h2 n0 Z0_v2) hZ2 (hw _ (List.mem_of_getElem? (i := 53) rfl)) (hw _ (List.mem_of_getElem? (i := 52) rfl)) (by decide) (by decide)) (g := (mkF m 8 #[.val (.ref a1), .val (.ref s1), .val (.ref s2), .val (.ref s3)] [(.ref la2), (.ref s1), (.ref a1)])) rfl (by rw [hml]; rfl) (argsL := [(.ref s1), (.ref la2)]) (rest := [(.ref a1)]) (lenOf pd_6 rfl) rfl (by show 2 * 0 + _ ≤ _; exact Nat.le_of_eq rfl) (hb hby d38_8) (fun _ _ => ⟨rfl, e2, (by decide : 2 + 0 ≤ _), (by decide : 24 + 0 ≤ _)⟩)
  dsimp only [Pt.U, Pt.locs, Pt.cells, Pt.slots] at X3 l3 y3 z3 st3 hQ3
  subst l3 y3 z3
  obtain ⟨rfl, N3q, e3⟩ := hQ3
  have N3 := Fr.app N0 N3q
  refine Gl.st st3 ?_
  show Gl p e below P (T3.setTop (mkF m 11 #[.val (.ref a1), .val (.ref s1), .val (.ref s2), .val (.ref s3)] [(.ref s1), (.ref a1)]))
  obtain ⟨T4, X4, e4, st4⟩ := castY X3 hx hZ2 hown2 (hw _ (List.mem_of_getElem? (i := 54) rfl)) e3 (Ins.self Es1_v2) (g := (mkF m 11 #[.val (.ref a1), .val (.ref s1), .val (.ref s2), .val (.ref s3)] [(.ref s1), (.ref a1)])) rfl rfl (hb hby d38_11)
  refine Gl.st st4 ?_
  show Gl p e below P (T4.setTop (mkF m 14 #[.val (.ref a1), .val (.ref s1), .val (.ref s2), .val (.ref s3)] [(.ref s1), (.ref a1)]))
  obtain ⟨T5, h5, X5, e5, W5, st5⟩ := putF X4 hx hZ2 hown2 (host := "") (Or.inl (hw _ (List.mem_of_getElem? (i := 55) rfl))) Via.refl e4 F_docno_v2 E1_v2 (Or.inr ⟨(hw _ (List.mem_of_getElem? (i := 56) rfl)), rfl, hnm⟩) (hw _ (List.mem_of_getElem? (i := 42) rfl)) (ty := (.object "java/lang/String")) (by decide) rfl rfl (g := (mkF m 14 #[.val (.ref a1), .val (.ref s1), .val (.ref s2), .val (.ref s3)] [(.ref s1), (.ref a1)])) rfl rfl (hb hby d38_14)
  refine Gl.st st5 ?_
  have C_v5 : CHr Z consts_1 s.vm h0 T2.vm h5 := C_w2.trans (CHr.wr W5 (Safe.exa hZ2.alike E1_v2 (by decide) (by decide)) C_w2.1)
  have Z0_v5 : n0 ≤ h5.size := Nat.le_trans Z0_v2 (Keep.of_wr W5).1
  have hk2_v5 : k12 ≤ h5.size := Nat.le_trans hk2 (Keep.of_wr W5).1
  have E1_v5 : Exa Z h5 a1 "com/example/assort/assort/TrecDocument" := E1_v2.wr W5
  have f_K_v5 : Keep h0 h5 [a1] := f_K_v2.wr W5 (Or.inl (List.mem_of_getElem? (i := 0) rfl))
  have F_title_v5 : Fld Z h5 a1 "com/example/assort/assort/TrecDocument" "title" "Ljava/lang/String;" .null := F_title_v2.other W5 (Or.inr (slot_ne (Or.inr (hw _ (List.mem_of_getElem? (i := 59) rfl))) (Or.inr (hw _ (List.mem_of_getElem? (i := 56) rfl))) (by decide) (t := (.object "java/lang/String")) (t' := (.object "java/lang/String")) (by decide) (by decide)))
  have F_text_v5 : Fld Z h5 a1 "com/example/assort/assort/TrecDocument" "text" "Ljava/lang/String;" .null := F_text_v2.other W5 (Or.inr (slot_ne (Or.inr (hw _ (List.mem_of_getElem? (i := 62) rfl))) (Or.inr (hw _ (List.mem_of_getElem? (i := 56) rfl))) (by decide) (t := (.object "java/lang/String")) (t' := (.object "java/lang/String")) (by decide) (by decide)))
  have Es1_v5 : Exa Z h5 s1 "java/lang/String" := Es1_v2.wr W5
  have Es2_v5 : Exa Z h5 s2 "java/lang/String" := Es2_v2.wr W5
  have Es3_v5 : Exa Z h5 s3 "java/lang/String" := Es3_v2.wr W5
  have Fw5 : Fld Z h5 a1 "com/example/assort/assort/TrecDocument" "docno" "Ljava/lang/String;" (.ref s1) := F_docno_v2.same W5
  have N5 := Fr.snoc X5 N3 g1
  show Gl p e below P (T5.setTop (mkF m 17 #[.val (.ref a1), .val (.ref s1), .val (.ref s2), .val (.ref s3)] []))
  refine Gl.st (fun _ k => XS.aloadN X5.here hx rfl (hb hby d38_17) rfl rfl k) ?_
  show Gl p e below P (T5.setTop (mkF m 18 #[.val (.ref a1), .val (.ref s1), .val (.ref s2), .val (.ref s3)] [(.ref a1)]))
  refine Gl.st (fun _ k => XS.aloadN X5.here hx rfl (hb hby d38_18) rfl rfl k) ?_
  show Gl p e below P (T5.setTop (mkF m 19 #[.val (.ref a1), .val (.ref s1), .val (.ref s2), .val (.ref s3)] [(.ref s2), (.ref a1)]))
  obtain ⟨la6, T6, h6, k16, X6, e6, E6, hS6, hk6, hZ6, hown6, Cn6, -, st6⟩ := ldcOH X5 hx hZ2 hown2 (hw _ (List.mem_of_getElem? (i := 57) rfl)) wS e5 hS2 hk2_v5 hEL C_v5.1 (g := (mkF m 19 #[.val (.ref a1), .val (.ref s1), .val (.ref s2), .val (.ref s3)] [(.ref s2), (.ref a1)])) rfl (hb hby d38_19) (n := 20) (by decide) (by decide) (by decide) (by decide)
  have Z0_v6 : n0 ≤ h6.size := Nat.le_trans Z0_v5 E6.1
  have hk2_v6 : k12 ≤ h6.size := Nat.le_trans hk2_v5 E6.1
  have E1_v6 : Exa Z h6 a1 "com/example/assort/assort/TrecDocument" := E1_v5.ext E6
  have f_K_v6 : Keep h0 h6 [a1] := f_K_v5.ext E6
  have F_title_v6 : Fld Z h6 a1 "com/example/assort/assort/TrecDocument" "title" "Ljava/lang/String;" .null := F_title_v5.ext E6
  have F_text_v6 : Fld Z h6 a1 "com/example/assort/assort/TrecDocument" "text" "Ljava/lang/String;" .null := F_text_v5.ext E6
  have Es1_v6 : Exa Z h6 s1 "java/lang/String" := Es1_v5.ext E6
  have Es2_v6 : Exa Z h6 s2 "java/lang/String" := Es2_v5.ext E6
  have Es3_v6 : Exa Z h6 s3 "java/lang/String" := Es3_v5.ext E6
  have Fw5_v6 : Fld Z h6 a1 "com/example/assort/assort/TrecDocument" "docno" "Ljava/lang/String;" (.ref s1) := Fw5.ext E6
  have C_w6 : CHr Z consts_1 s.vm h0 T6.vm h6 := C_v5.trans Cn6
  refine Gl.st st6 ?_
  show Gl p e below P (T6.setTop (mkF m 21 #[.val (.ref a1), .val (.ref s1), .val (.ref s2), .val (.ref s3)] [(.ref la6), (.ref s2), (.ref a1)]))
  obtain ⟨_, _, ⟨T7, L7, k7, n7⟩, -, X7, ⟨Lc7, hQ7, l7, y7, z7⟩, st7⟩ := Jvm.LawKit.callS X6 hx (y := (⟨"java/util/Objects", "requireNonNull", "(Ljava/lang/Object;Ljava/lang/String;)Ljava/lang/Object;"⟩ : MethodName)) hown6 (mvT hZ6 (hw _ (List.mem_of_getElem? (i := 50) rfl))) (mvT hZ6 (hw _ (List.mem_of_getElem? (i := 51) rfl))) (mvT hZ6 (hw _ (List.mem_of_getElem? (i := 52) rfl))) (mvT hZ6 (hw _ (List.mem_of_getElem? (i := 53) rfl))) (by decide) (backOf (W := 1) (rm37 l Z a0 hw [] s2 la6 h6 n0 Z0_v6) hZ6 (hw _ (List.mem_of_getElem? (i := 53) rfl)) (hw _ (List.mem_of_getElem? (i := 52) rfl)) (by decide) (by decide)) (g := (mkF m 21 #[.val (.ref a1), .val (.ref s1), .val (.ref s2), .val (.ref s3)] [(.ref la6), (.ref s2), (.ref a1)])) rfl (by rw [hml]; rfl) (argsL := [(.ref s2), (.ref la6)]) (rest := [(.ref a1)]) (lenOf pd_6 rfl) rfl (by show 2 * 0 + _ ≤ _; exact Nat.le_of_eq rfl) (hb hby d38_21) (fun _ _ => ⟨rfl, e6, (by decide : 4 + 0 ≤ _), (by decide : 48 + 0 ≤ _)⟩)
  dsimp only [Pt.U, Pt.locs, Pt.cells, Pt.slots] at X7 l7 y7 z7 st7 hQ7
  subst l7 y7 z7
  obtain ⟨rfl, N7q, e7⟩ := hQ7
  have N7 := Fr.app N5 N7q
  refine Gl.st st7 ?_
  show Gl p e below P (T7.setTop (mkF m 24 #[.val (.ref a1), .val (.ref s1), .val (.ref s2), .val (.ref s3)] [(.ref s2), (.ref a1)]))
  obtain ⟨T8, X8, e8, st8⟩ := castY X7 hx hZ6 hown6 (hw _ (List.mem_of_getElem? (i := 54) rfl)) e7 (Ins.self Es2_v6) (g := (mkF m 24 #[.val (.ref a1), .val (.ref s1), .val (.ref s2), .val (.ref s3)] [(.ref s2), (.ref a1)])) rfl rfl (hb hby d38_24)
  refine Gl.st st8 ?_
  show Gl p e below P (T8.setTop (mkF m 27 #[.val (.ref a1), .val (.ref s1), .val (.ref s2), .val (.ref s3)] [(.ref s2), (.ref a1)]))
  obtain ⟨T9, h9, X9, e9, W9, st9⟩ := putF X8 hx hZ6 hown6 (host := "") (Or.inl (hw _ (List.mem_of_getElem? (i := 58) rfl))) Via.refl e8 F_title_v6 E1_v6 (Or.inr ⟨(hw _ (List.mem_of_getElem? (i := 59) rfl)), rfl, hnm⟩) (hw _ (List.mem_of_getElem? (i := 42) rfl)) (ty := (.object "java/lang/String")) (by decide) rfl rfl (g := (mkF m 27 #[.val (.ref a1), .val (.ref s1), .val (.ref s2), .val (.ref s3)] [(.ref s2), (.ref a1)])) rfl rfl (hb hby d38_27)
  refine Gl.st st9 ?_
  have C_v9 : CHr Z consts_1 s.vm h0 T6.vm h9 := C_w6.trans (CHr.wr W9 (Safe.exa hZ6.alike E1_v6 (by decide) (by decide)) C_w6.1)
  have Z0_v9 : n0 ≤ h9.size := Nat.le_trans Z0_v6 (Keep.of_wr W9).1
  have hk6_v9 : k16 ≤ h9.size := Nat.le_trans hk6 (Keep.of_wr W9).1
  have E1_v9 : Exa Z h9 a1 "com/example/assort/assort/TrecDocument" := E1_v6.wr W9
  have f_K_v9 : Keep h0 h9 [a1] := f_K_v6.wr W9 (Or.inl (List.mem_of_getElem? (i := 0) rfl))
  have F_text_v9 : Fld Z h9 a1 "com/example/assort/assort/TrecDocument" "text" "Ljava/lang/String;" .null := F_text_v6.other W9 (Or.inr (slot_ne (Or.inr (hw _ (List.mem_of_getElem? (i := 62) rfl))) (Or.inr (hw _ (List.mem_of_getElem? (i := 59) rfl))) (by decide) (t := (.object "java/lang/String")) (t' := (.object "java/lang/String")) (by decide) (by decide)))
  have Es1_v9 : Exa Z h9 s1 "java/lang/String" := Es1_v6.wr W9
  have Es2_v9 : Exa Z h9 s2 "java/lang/String" := Es2_v6.wr W9
  have Es3_v9 : Exa Z h9 s3 "java/lang/String" := Es3_v6.wr W9
  have Fw5_v9 : Fld Z h9 a1 "com/example/assort/assort/TrecDocument" "docno" "Ljava/lang/String;" (.ref s1) := Fw5_v6.other W9 (Or.inr (slot_ne (Or.inr (hw _ (List.mem_of_getElem? (i := 56) rfl))) (Or.inr (hw _ (List.mem_of_getElem? (i := 59) rfl))) (by decide) (t := (.object "java/lang/String")) (t' := (.object "java/lang/String")) (by decide) (by decide)))
  have Fw9 : Fld Z h9 a1 "com/example/assort/assort/TrecDocument" "title" "Ljava/lang/String;" (.ref s2) := F_title_v6.same W9
  have N9 := Fr.snoc X9 N7 g1
  show Gl p e below P (T9.setTop (mkF m 30 #[.val (.ref a1), .val (.ref s1), .val (.ref s2), .val (.ref s3)] []))
  refine Gl.st (fun _ k => XS.aloadN X9.here hx rfl (hb hby d38_30) rfl rfl k) ?_
  show Gl p e below P (T9.setTop (mkF m 31 #[.val (.ref a1), .val (.ref s1), .val (.ref s2), .val (.ref s3)] [(.ref a1)]))
  refine Gl.st (fun _ k => XS.aloadN X9.here hx rfl (hb hby d38_31) rfl rfl k) ?_
  show Gl p e below P (T9.setTop (mkF m 32 #[.val (.ref a1), .val (.ref s1), .val (.ref s2), .val (.ref s3)] [(.ref s3), (.ref a1)]))
  obtain ⟨la10, T10, h10, k110, X10, e10, E10, hS10, hk10, hZ10, hown10, Cn10, -, st10⟩ := ldcOH X9 hx hZ6 hown6 (hw _ (List.mem_of_getElem? (i := 60) rfl)) wS e9 hS6 hk6_v9 hEL C_v9.1 (g := (mkF m 32 #[.val (.ref a1), .val (.ref s1), .val (.ref s2), .val (.ref s3)] [(.ref s3), (.ref a1)])) rfl (hb hby d38_32) (n := 16) (by decide) (by decide) (by decide) (by decide)
  have Z0_v10 : n0 ≤ h10.size := Nat.le_trans Z0_v9 E10.1
  have hk6_v10 : k16 ≤ h10.size := Nat.le_trans hk6_v9 E10.1
  have E1_v10 : Exa Z h10 a1 "com/example/assort/assort/TrecDocument" := E1_v9.ext E10
  have f_K_v10 : Keep h0 h10 [a1] := f_K_v9.ext E10
  have F_text_v10 : Fld Z h10 a1 "com/example/assort/assort/TrecDocument" "text" "Ljava/lang/String;" .null := F_text_v9.ext E10
  have Es1_v10 : Exa Z h10 s1 "java/lang/String" := Es1_v9.ext E10
  have Es2_v10 : Exa Z h10 s2 "java/lang/String" := Es2_v9.ext E10
  have Es3_v10 : Exa Z h10 s3 "java/lang/String" := Es3_v9.ext E10
  have Fw5_v10 : Fld Z h10 a1 "com/example/assort/assort/TrecDocument" "docno" "Ljava/lang/String;" (.ref s1) := Fw5_v9.ext E10
  have Fw9_v10 : Fld Z h10 a1 "com/example/assort/assort/TrecDocument" "title" "Ljava/lang/String;" (.ref s2) := Fw9.ext E10
  have C_w10 : CHr Z consts_1 s.vm h0 T10.vm h10 := C_v9.trans Cn10
  refine Gl.st st10 ?_
  show Gl p e below P (T10.setTop (mkF m 34 #[.val (.ref a1), .val (.ref s1), .val (.ref s2), .val (.ref s3)] [(.ref la10), (.ref s3), (.ref a1)]))
  obtain ⟨_, _, ⟨T11, L11, k11, n11⟩, -, X11, ⟨Lc11, hQ11, l11, y11, z11⟩, st11⟩ := Jvm.LawKit.callS X10 hx (y := (⟨"java/util/Objects", "requireNonNull", "(Ljava/lang/Object;Ljava/lang/String;)Ljava/lang/Object;"⟩ : MethodName)) hown10 (mvT hZ10 (hw _ (List.mem_of_getElem? (i := 50) rfl))) (mvT hZ10 (hw _ (List.mem_of_getElem? (i := 51) rfl))) (mvT hZ10 (hw _ (List.mem_of_getElem? (i := 52) rfl))) (mvT hZ10 (hw _ (List.mem_of_getElem? (i := 53) rfl))) (by decide) (backOf (W := 1) (rm37 l Z a0 hw [] s3 la10 h10 n0 Z0_v10) hZ10 (hw _ (List.mem_of_getElem? (i := 53) rfl)) (hw _ (List.mem_of_getElem? (i := 52) rfl)) (by decide) (by decide)) (g := (mkF m 34 #[.val (.ref a1), .val (.ref s1), .val (.ref s2), .val (.ref s3)] [(.ref la10), (.ref s3), (.ref a1)])) rfl (by rw [hml]; rfl) (argsL := [(.ref s3), (.ref la10)]) (rest := [(.ref a1)]) (lenOf pd_6 rfl) rfl (by show 2 * 0 + _ ≤ _; exact Nat.le_of_eq rfl) (hb hby d38_34) (fun _ _ => ⟨rfl, e10, (by decide : 6 + 0 ≤ _), (by decide : 68 + 0 ≤ _)⟩)
  dsimp only [Pt.U, Pt.locs, Pt.cells, Pt.slots] at X11 l11 y11 z11 st11 hQ11
  subst l11 y11 z11
  obtain ⟨rfl, N11q, e11⟩ := hQ11
  have N11 := Fr.app N9 N11q
  refine Gl.st st11 ?_
  show Gl p e below P (T11.setTop (mkF m 37 #[.val (.ref a1), .val (.ref s1), .val (.ref s2), .val (.ref s3)] [(.ref s3), (.ref a1)]))
  obtain ⟨T12, X12, e12, st12⟩ := castY X11 hx hZ10 hown10 (hw _ (List.mem_of_getElem? (i := 54) rfl)) e11 (Ins.self Es3_v10) (g := (mkF m 37 #[.val (.ref a1), .val (.ref s1), .val (.ref s2), .val (.ref s3)] [(.ref s3), (.ref a1)])) rfl rfl (hb hby d38_37)
  refine Gl.st st12 ?_
  show Gl p e below P (T12.setTop (mkF m 40 #[.val (.ref a1), .val (.ref s1), .val (.ref s2), .val (.ref s3)] [(.ref s3), (.ref a1)]))
  obtain ⟨T13, h13, X13, e13, W13, st13⟩ := putF X12 hx hZ10 hown10 (host := "") (Or.inl (hw _ (List.mem_of_getElem? (i := 61) rfl))) Via.refl e12 F_text_v10 E1_v10 (Or.inr ⟨(hw _ (List.mem_of_getElem? (i := 62) rfl)), rfl, hnm⟩) (hw _ (List.mem_of_getElem? (i := 42) rfl)) (ty := (.object "java/lang/String")) (by decide) rfl rfl (g := (mkF m 40 #[.val (.ref a1), .val (.ref s1), .val (.ref s2), .val (.ref s3)] [(.ref s3), (.ref a1)])) rfl rfl (hb hby d38_40)
  refine Gl.st st13 ?_
  have C_v13 : CHr Z consts_1 s.vm h0 T10.vm h13 := C_w10.trans (CHr.wr W13 (Safe.exa hZ10.alike E1_v10 (by decide) (by decide)) C_w10.1)
  have Z0_v13 : n0 ≤ h13.size := Nat.le_trans Z0_v10 (Keep.of_wr W13).1
  have hk10_v13 : k110 ≤ h13.size := Nat.le_trans hk10 (Keep.of_wr W13).1
  have E1_v13 : Exa Z h13 a1 "com/example/assort/assort/TrecDocument" := E1_v10.wr W13
  have f_K_v13 : Keep h0 h13 [a1] := f_K_v10.wr W13 (Or.inl (List.mem_of_getElem? (i := 0) rfl))
  have Es1_v13 : Exa Z h13 s1 "java/lang/String" := Es1_v10.wr W13
  have Es2_v13 : Exa Z h13 s2 "java/lang/String" := Es2_v10.wr W13
  have Es3_v13 : Exa Z h13 s3 "java/lang/String" := Es3_v10.wr W13
  have Fw5_v13 : Fld Z h13 a1 "com/example/assort/assort/TrecDocument" "docno" "Ljava/lang/String;" (.ref s1) := Fw5_v10.other W13 (Or.inr (slot_ne (Or.inr (hw _ (List.mem_of_getElem? (i := 56) rfl))) (Or.inr (hw _ (List.mem_of_getElem? (i := 62) rfl))) (by decide) (t := (.object "java/lang/String")) (t' := (.object "java/lang/String")) (by decide) (by decide)))
  have Fw9_v13 : Fld Z h13 a1 "com/example/assort/assort/TrecDocument" "title" "Ljava/lang/String;" (.ref s2) := Fw9_v10.other W13 (Or.inr (slot_ne (Or.inr (hw _ (List.mem_of_getElem? (i := 59) rfl))) (Or.inr (hw _ (List.mem_of_getElem? (i := 62) rfl))) (by decide) (t := (.object "java/lang/String")) (t' := (.object "java/lang/String")) (by decide) (by decide)))
  have Fw13 : Fld Z h13 a1 "com/example/assort/assort/TrecDocument" "text" "Ljava/lang/String;" (.ref s3) := F_text_v10.same W13
  have N13 := Fr.snoc X13 N11 g1
  show Gl p e below P (T13.setTop (mkF m 43 #[.val (.ref a1), .val (.ref s1), .val (.ref s2), .val (.ref s3)] []))
  obtain ⟨fs, hr, hrun, hended, hRE⟩ := X13.leaveW hS10 (by rw [e13]; exact hk10_v13) (v := none) (fun _ => rfl)
  refine ⟨_, _, X13.returnOut hx Bd.returns (hb hby d38_43) hr, hrun, hended, hPost _ _ ⟨_, _, rfl, ?_, ?_, hRE.1, hRE.2.1, hRE.2.2.1, hRE.2.2.2.mono (by decide) (by decide)⟩⟩
  rotate_left
  · show CHr Z consts_1 s.vm s.heap T13.vm T13.heap
    rw [hh, e13]
    exact C_v13.trans (CHv.at X13 hZ10 hEL C_v13.1)
  show Q38 Z a1 s1 s2 s3 h0 n0 _ T13.heap _
  rw [e13]
  exact ⟨rfl, N13, f_K_v13, E1_v13, Fw5_v13, Fw9_v13, Fw13⟩
theorem pn_39 : plainName "com/example/assort/assort/Result" = true := by first | (simp [plainName, overriddenIn]; done) | decide +kernel
theorem ef_39 (m : MethodId) (x0 : Addr) (x1 : Int32) (x2 : Addr) (x3 : Addr) (x4 : Addr) : entryFrame m #[(.ref x0), (.int x1), (.ref x2), (.ref x3), (.ref x4)] 5 = mkF m 0 #[.val (.ref x0), .val (.int x1), .val (.ref x2), .val (.ref x3), .val (.ref x4)] [] := by first | (simp [entryFrame, mkF, argsToLocals, Value.category]; done) | rfl
def Q39 (Z : State) (a1 : Addr) (p2 : Int32) (s2 : Addr) (s3 : Addr) (s4 : Addr) (h0 : Heap) (n0 : Nat) (v : Option Value) (h : Heap) (L : List Loc) : Prop := v = none ∧ Fr n0 L ∧ Keep h0 h [a1] ∧ Exa Z h a1 "com/example/assort/assort/Result" ∧ Fld Z h a1 "com/example/assort/assort/Result" "rank" "I" (.int p2) ∧ Fld Z h a1 "com/example/assort/assort/Result" "title" "Ljava/lang/String;" (.ref s2) ∧ Fld Z h a1 "com/example/assort/assort/Result" "snippet" "Ljava/lang/String;" (.ref s3) ∧ Fld Z h a1 "com/example/assort/assort/Result" "url" "Ljava/lang/String;" (.ref s4)
set_option maxRecDepth 65536 in
set_option maxHeartbeats 40000000 in
theorem rm39 (l : Launch) (Z : State) (a0 : Array Value) (hw : ∀ d ∈ tables_1, d.before a0 Z = true) (ws : List Jvm.Cond) (a1 : Addr) (p2 : Int32) (s2 : Addr) (s3 : Addr) (s4 : Addr) (h0 : Heap) (n0 : Nat) (Z0 : n0 ≤ h0.size) (E1 : Exa Z h0 a1 "com/example/assort/assort/Result") (F_rank : Fld Z h0 a1 "com/example/assort/assort/Result" "rank" "I" (.int (0 : Int32))) (F_title : Fld Z h0 a1 "com/example/assort/assort/Result" "title" "Ljava/lang/String;" .null) (F_snippet : Fld Z h0 a1 "com/example/assort/assort/Result" "snippet" "Ljava/lang/String;" .null) (F_url : Fld Z h0 a1 "com/example/assort/assort/Result" "url" "Ljava/lang/String;" .null) (Es2 : Exa Z h0 s2 "java/lang/String") (Es3 : Exa Z h0 s3 "java/lang/String") (Es4 : Exa Z h0 s4 "java/lang/String") (g1 : n0 ≤ a1) :
    MetFree l (⟨"com/example/assort/assort/Result", "<init>", "(ILjava/lang/String;Ljava/lang/String;Ljava/lang/String;)V"⟩ : MethodName) (head1 (Jvm.Cond.code (⟨"com/example/assort/assort/Result", "<init>", "(ILjava/lang/String;Ljava/lang/String;Ljava/lang/String;)V"⟩ : MethodName) prog_20_method_1_code 5 none :: ws) ({ frames := 1, cells := 6, slots := 72, locals := 14 } : Room)) (fun a U => a = #[(.ref a1), (.int p2), (.ref s2), (.ref s3), (.ref s4)] ∧ Z.Warmed39 U.vm ∧ U.heap = h0 ∧ CHv Z consts_1 U.vm h0) (fun _ _ _ _ _ => True) (fun _ U o U' => ∃ v L, o = .returned v ∧ Q39 Z a1 p2 s2 s3 s4 h0 n0 v U'.heap L ∧ CHr Z consts_1 U.vm U.heap U'.vm U'.heap ∧ ReturnedEndW U o U' L ({ frames := 1, cells := 6, slots := 72, locals := 14 } : Room).cells ({ frames := 1, cells := 6, slots := 72, locals := 14 } : Room).slots) := by
  refine MetFree.of_bodySF (plainFor_of_name pn_39) hisR ?_
  intro p e s m args below meth c s₁ Bd hml0 hP hK
  obtain ⟨rfl, hZ, hh, hC⟩ := hP
  have hx := Bd.exec
  have hby := Bd.bytes
  have hml : c.maxLocals = 5 := hml0
  have hown : s.vm.findClass "com/example/assort/assort/Result" = some m.cls := findClass_of_methodNamed Bd.named
  have hnm := (name_of_methodNamed Bd.named Bd.method).1
  have X0 : Stand p l e ({ frames := 1, cells := 6, slots := 72, locals := 14 } : Room) (s.setVm s.vm) m #[(.ref a1), (.int p2), (.ref s2), (.ref s3), (.ref s4)] below meth c s₁ [] 0 0 := Stand.of_body Bd
  have hS0 : s.Since s.vm 0 := (State.WarmedH.refl s).since 0
  have C0 : CHr Z consts_1 s.vm h0 s.vm h0 := CHr.refl hC
  have hZ0 : Z.Warmed39 (s.setVm s.vm).vm := hZ
  have hown0 : (s.setVm s.vm).vm.findClass "com/example/assort/assort/Result" = some m.cls := hown
  have hEL := own_EW hw
  have wS := own_wS hw
  have e0 : s₁.heap = h0 := by rw [← hh, Bd.state]; rfl
  have N0 := Fr.nil n0
  refine Gl.gen fun P hPost => ?_
  refine Gl.st (fun t k => castTop (ef_39 m a1 p2 s2 s3 s4 ) k) ?_
  show Gl p e below P (s₁.setTop (mkF m 0 #[.val (.ref a1), .val (.int p2), .val (.ref s2), .val (.ref s3), .val (.ref s4)] []))
  refine Gl.st (fun _ k => XS.aloadN X0.here hx rfl (hb hby d39_0) rfl rfl k) ?_
  show Gl p e below P (s₁.setTop (mkF m 1 #[.val (.ref a1), .val (.int p2), .val (.ref s2), .val (.ref s3), .val (.ref s4)] [(.ref a1)]))
  obtain ⟨T1, X1, e1, st1⟩ := initO X0 hx hZ0 hown0 (hw _ (List.mem_of_getElem? (i := 83) rfl)) (hw _ (List.mem_of_getElem? (i := 24) rfl)) (hw _ (List.mem_of_getElem? (i := 25) rfl)) e0 (g := (mkF m 1 #[.val (.ref a1), .val (.int p2), .val (.ref s2), .val (.ref s3), .val (.ref s4)] [(.ref a1)])) rfl (by rw [hml]; rfl) rfl (hb hby d39_1) (by decide) (W := 0) (by show 2 * 0 + _ ≤ _; exact Nat.le_of_eq rfl) (by decide)
  refine Gl.st st1 ?_
  show Gl p e below P (T1.setTop (mkF m 4 #[.val (.ref a1), .val (.int p2), .val (.ref s2), .val (.ref s3), .val (.ref s4)] []))
  refine Gl.st (fun _ k => XS.aloadN X1.here hx rfl (hb hby d39_4) rfl rfl k) ?_
  show Gl p e below P (T1.setTop (mkF m 5 #[.val (.ref a1), .val (.int p2), .val (.ref s2), .val (.ref s3), .val (.ref s4)] [(.ref a1)]))
  refine Gl.st (fun _ k => XS.iloadN X1.here hx rfl (hb hby d39_5) rfl k) ?_
  show Gl p e below P (T1.setTop (mkF m 6 #[.val (.ref a1), .val (.int p2), .val (.ref s2), .val (.ref s3), .val (.ref s4)] [(.int p2), (.ref a1)]))
  obtain ⟨T2, h2, X2, e2, W2, st2⟩ := putF X1 hx hZ0 hown0 (host := "") (Or.inl (hw _ (List.mem_of_getElem? (i := 84) rfl))) Via.refl e1 F_rank E1 (Or.inr ⟨(hw _ (List.mem_of_getElem? (i := 85) rfl)), rfl, hnm⟩) (hw _ (List.mem_of_getElem? (i := 68) rfl)) (ty := .int) (by decide) rfl rfl (g := (mkF m 6 #[.val (.ref a1), .val (.int p2), .val (.ref s2), .val (.ref s3), .val (.ref s4)] [(.int p2), (.ref a1)])) rfl rfl (hb hby d39_6)
  refine Gl.st st2 ?_
  have C_v2 : CHr Z consts_1 s.vm h0 s.vm h2 := C0.trans (CHr.wr W2 (Safe.exa hZ0.alike E1 (by decide) (by decide)) C0.1)
  have Z0_v2 : n0 ≤ h2.size := Nat.le_trans Z0 (Keep.of_wr W2).1
  have f_hk_v2 : 0 ≤ h2.size := Nat.le_trans (Nat.zero_le _) (Keep.of_wr W2).1
  have E1_v2 : Exa Z h2 a1 "com/example/assort/assort/Result" := E1.wr W2
  have f_K_v2 : Keep h0 h2 [a1] := (Keep.refl h0 [a1]).wr W2 (Or.inl (List.mem_of_getElem? (i := 0) rfl))
  have F_title_v2 : Fld Z h2 a1 "com/example/assort/assort/Result" "title" "Ljava/lang/String;" .null := F_title.other W2 (Or.inr (slot_ne (Or.inr (hw _ (List.mem_of_getElem? (i := 90) rfl))) (Or.inr (hw _ (List.mem_of_getElem? (i := 85) rfl))) (by decide) (t := (.object "java/lang/String")) (t' := .int) (by decide) (by decide)))
  have F_snippet_v2 : Fld Z h2 a1 "com/example/assort/assort/Result" "snippet" "Ljava/lang/String;" .null := F_snippet.other W2 (Or.inr (slot_ne (Or.inr (hw _ (List.mem_of_getElem? (i := 93) rfl))) (Or.inr (hw _ (List.mem_of_getElem? (i := 85) rfl))) (by decide) (t := (.object "java/lang/String")) (t' := .int) (by decide) (by decide)))
  have F_url_v2 : Fld Z h2 a1 "com/example/assort/assort/Result" "url" "Ljava/lang/String;" .null := F_url.other W2 (Or.inr (slot_ne (Or.inr (hw _ (List.mem_of_getElem? (i := 96) rfl))) (Or.inr (hw _ (List.mem_of_getElem? (i := 85) rfl))) (by decide) (t := (.object "java/lang/String")) (t' := .int) (by decide) (by decide)))
  have Es2_v2 : Exa Z h2 s2 "java/lang/String" := Es2.wr W2
  have Es3_v2 : Exa Z h2 s3 "java/lang/String" := Es3.wr W2
  have Es4_v2 : Exa Z h2 s4 "java/lang/String" := Es4.wr W2
  have Fw2 : Fld Z h2 a1 "com/example/assort/assort/Result" "rank" "I" (.int p2) := F_rank.same W2
  have N2 := Fr.snoc X2 N0 g1
  show Gl p e below P (T2.setTop (mkF m 9 #[.val (.ref a1), .val (.int p2), .val (.ref s2), .val (.ref s3), .val (.ref s4)] []))
  refine Gl.st (fun _ k => XS.aloadN X2.here hx rfl (hb hby d39_9) rfl rfl k) ?_
  show Gl p e below P (T2.setTop (mkF m 10 #[.val (.ref a1), .val (.int p2), .val (.ref s2), .val (.ref s3), .val (.ref s4)] [(.ref a1)]))
  refine Gl.st (fun _ k => XS.aloadN X2.here hx rfl (hb hby d39_10) rfl rfl k) ?_
  show Gl p e below P (T2.setTop (mkF m 11 #[.val (.ref a1), .val (.int p2), .val (.ref s2), .val (.ref s3), .val (.ref s4)] [(.ref s2), (.ref a1)]))
  obtain ⟨la3, T3, h3, k13, X3, e3, E3, hS3, hk3, hZ3, hown3, Cn3, -, st3⟩ := ldcOH X2 hx hZ0 hown0 (hw _ (List.mem_of_getElem? (i := 86) rfl)) wS e2 hS0 f_hk_v2 hEL C_v2.1 (g := (mkF m 11 #[.val (.ref a1), .val (.int p2), .val (.ref s2), .val (.ref s3), .val (.ref s4)] [(.ref s2), (.ref a1)])) rfl (hb hby d39_11) (n := 20) (by decide) (by decide) (by decide) (by decide)
  have Z0_v3 : n0 ≤ h3.size := Nat.le_trans Z0_v2 E3.1
  have f_hk_v3 : 0 ≤ h3.size := Nat.le_trans f_hk_v2 E3.1
  have E1_v3 : Exa Z h3 a1 "com/example/assort/assort/Result" := E1_v2.ext E3
  have f_K_v3 : Keep h0 h3 [a1] := f_K_v2.ext E3
  have F_title_v3 : Fld Z h3 a1 "com/example/assort/assort/Result" "title" "Ljava/lang/String;" .null := F_title_v2.ext E3
  have F_snippet_v3 : Fld Z h3 a1 "com/example/assort/assort/Result" "snippet" "Ljava/lang/String;" .null := F_snippet_v2.ext E3
  have F_url_v3 : Fld Z h3 a1 "com/example/assort/assort/Result" "url" "Ljava/lang/String;" .null := F_url_v2.ext E3
  have Es2_v3 : Exa Z h3 s2 "java/lang/String" := Es2_v2.ext E3
  have Es3_v3 : Exa Z h3 s3 "java/lang/String" := Es3_v2.ext E3
  have Es4_v3 : Exa Z h3 s4 "java/lang/String" := Es4_v2.ext E3
  have Fw2_v3 : Fld Z h3 a1 "com/example/assort/assort/Result" "rank" "I" (.int p2) := Fw2.ext E3
  have C_w3 : CHr Z consts_1 s.vm h0 T3.vm h3 := C_v2.trans Cn3
  refine Gl.st st3 ?_
  show Gl p e below P (T3.setTop (mkF m 13 #[.val (.ref a1), .val (.int p2), .val (.ref s2), .val (.ref s3), .val (.ref s4)] [(.ref la3), (.ref s2), (.ref a1)]))
  obtain ⟨_, _, ⟨T4, L4, k4, n4⟩, -, X4, ⟨Lc4, hQ4, l4, y4, z4⟩, st4⟩ := Jvm.LawKit.callS X3 hx (y := (⟨"java/util/Objects", "requireNonNull", "(Ljava/lang/Object;Ljava/lang/String;)Ljava/lang/Object;"⟩ : MethodName)) hown3 (mvT hZ3 (hw _ (List.mem_of_getElem? (i := 87) rfl))) (mvT hZ3 (hw _ (List.mem_of_getElem? (i := 51) rfl))) (mvT hZ3 (hw _ (List.mem_of_getElem? (i := 52) rfl))) (mvT hZ3 (hw _ (List.mem_of_getElem? (i := 53) rfl))) (by decide) (backOf (W := 1) (rm37 l Z a0 hw [] s2 la3 h3 n0 Z0_v3) hZ3 (hw _ (List.mem_of_getElem? (i := 53) rfl)) (hw _ (List.mem_of_getElem? (i := 52) rfl)) (by decide) (by decide)) (g := (mkF m 13 #[.val (.ref a1), .val (.int p2), .val (.ref s2), .val (.ref s3), .val (.ref s4)] [(.ref la3), (.ref s2), (.ref a1)])) rfl (by rw [hml]; rfl) (argsL := [(.ref s2), (.ref la3)]) (rest := [(.ref a1)]) (lenOf pd_6 rfl) rfl (by show 2 * 0 + _ ≤ _; exact Nat.le_of_eq rfl) (hb hby d39_13) (fun _ _ => ⟨rfl, e3, (by decide : 2 + 0 ≤ _), (by decide : 24 + 0 ≤ _)⟩)
  dsimp only [Pt.U, Pt.locs, Pt.cells, Pt.slots] at X4 l4 y4 z4 st4 hQ4
  subst l4 y4 z4
  obtain ⟨rfl, N4q, e4⟩ := hQ4
  have N4 := Fr.app N2 N4q
  refine Gl.st st4 ?_
  show Gl p e below P (T4.setTop (mkF m 16 #[.val (.ref a1), .val (.int p2), .val (.ref s2), .val (.ref s3), .val (.ref s4)] [(.ref s2), (.ref a1)]))
  obtain ⟨T5, X5, e5, st5⟩ := castY X4 hx hZ3 hown3 (hw _ (List.mem_of_getElem? (i := 88) rfl)) e4 (Ins.self Es2_v3) (g := (mkF m 16 #[.val (.ref a1), .val (.int p2), .val (.ref s2), .val (.ref s3), .val (.ref s4)] [(.ref s2), (.ref a1)])) rfl rfl (hb hby d39_16)
  refine Gl.st st5 ?_
  show Gl p e below P (T5.setTop (mkF m 19 #[.val (.ref a1), .val (.int p2), .val (.ref s2), .val (.ref s3), .val (.ref s4)] [(.ref s2), (.ref a1)]))
  obtain ⟨T6, h6, X6, e6, W6, st6⟩ := putF X5 hx hZ3 hown3 (host := "") (Or.inl (hw _ (List.mem_of_getElem? (i := 89) rfl))) Via.refl e5 F_title_v3 E1_v3 (Or.inr ⟨(hw _ (List.mem_of_getElem? (i := 90) rfl)), rfl, hnm⟩) (hw _ (List.mem_of_getElem? (i := 68) rfl)) (ty := (.object "java/lang/String")) (by decide) rfl rfl (g := (mkF m 19 #[.val (.ref a1), .val (.int p2), .val (.ref s2), .val (.ref s3), .val (.ref s4)] [(.ref s2), (.ref a1)])) rfl rfl (hb hby d39_19)
  refine Gl.st st6 ?_
  have C_v6 : CHr Z consts_1 s.vm h0 T3.vm h6 := C_w3.trans (CHr.wr W6 (Safe.exa hZ3.alike E1_v3 (by decide) (by decide)) C_w3.1)
  have Z0_v6 : n0 ≤ h6.size := Nat.le_trans Z0_v3 (Keep.of_wr W6).1
  have hk3_v6 : k13 ≤ h6.size := Nat.le_trans hk3 (Keep.of_wr W6).1
  have E1_v6 : Exa Z h6 a1 "com/example/assort/assort/Result" := E1_v3.wr W6
  have f_K_v6 : Keep h0 h6 [a1] := f_K_v3.wr W6 (Or.inl (List.mem_of_getElem? (i := 0) rfl))
  have F_snippet_v6 : Fld Z h6 a1 "com/example/assort/assort/Result" "snippet" "Ljava/lang/String;" .null := F_snippet_v3.other W6 (Or.inr (slot_ne (Or.inr (hw _ (List.mem_of_getElem? (i := 93) rfl))) (Or.inr (hw _ (List.mem_of_getElem? (i := 90) rfl))) (by decide) (t := (.object "java/lang/String")) (t' := (.object "java/lang/String")) (by decide) (by decide)))
  have F_url_v6 : Fld Z h6 a1 "com/example/assort/assort/Result" "url" "Ljava/lang/String;" .null := F_url_v3.other W6 (Or.inr (slot_ne (Or.inr (hw _ (List.mem_of_getElem? (i := 96) rfl))) (Or.inr (hw _ (List.mem_of_getElem? (i := 90) rfl))) (by decide) (t := (.object "java/lang/String")) (t' := (.object "java/lang/String")) (by decide) (by decide)))
  have Es2_v6 : Exa Z h6 s2 "java/lang/String" := Es2_v3.wr W6
  have Es3_v6 : Exa Z h6 s3 "java/lang/String" := Es3_v3.wr W6
  have Es4_v6 : Exa Z h6 s4 "java/lang/String" := Es4_v3.wr W6
  have Fw2_v6 : Fld Z h6 a1 "com/example/assort/assort/Result" "rank" "I" (.int p2) := Fw2_v3.other W6 (Or.inr (slot_ne (Or.inr (hw _ (List.mem_of_getElem? (i := 85) rfl))) (Or.inr (hw _ (List.mem_of_getElem? (i := 90) rfl))) (by decide) (t := .int) (t' := (.object "java/lang/String")) (by decide) (by decide)))
  have Fw6 : Fld Z h6 a1 "com/example/assort/assort/Result" "title" "Ljava/lang/String;" (.ref s2) := F_title_v3.same W6
  have N6 := Fr.snoc X6 N4 g1
  show Gl p e below P (T6.setTop (mkF m 22 #[.val (.ref a1), .val (.int p2), .val (.ref s2), .val (.ref s3), .val (.ref s4)] []))
  refine Gl.st (fun _ k => XS.aloadN X6.here hx rfl (hb hby d39_22) rfl rfl k) ?_
  show Gl p e below P (T6.setTop (mkF m 23 #[.val (.ref a1), .val (.int p2), .val (.ref s2), .val (.ref s3), .val (.ref s4)] [(.ref a1)]))
  refine Gl.st (fun _ k => XS.aloadN X6.here hx rfl (hb hby d39_23) rfl rfl k) ?_
  show Gl p e below P (T6.setTop (mkF m 24 #[.val (.ref a1), .val (.int p2), .val (.ref s2), .val (.ref s3), .val (.ref s4)] [(.ref s3), (.ref a1)]))
  obtain ⟨la7, T7, h7, k17, X7, e7, E7, hS7, hk7, hZ7, hown7, Cn7, -, st7⟩ := ldcOH X6 hx hZ3 hown3 (hw _ (List.mem_of_getElem? (i := 91) rfl)) wS e6 hS3 hk3_v6 hEL C_v6.1 (g := (mkF m 24 #[.val (.ref a1), .val (.int p2), .val (.ref s2), .val (.ref s3), .val (.ref s4)] [(.ref s3), (.ref a1)])) rfl (hb hby d39_24) (n := 28) (by decide) (by decide) (by decide) (by decide)
  have Z0_v7 : n0 ≤ h7.size := Nat.le_trans Z0_v6 E7.1
  have hk3_v7 : k13 ≤ h7.size := Nat.le_trans hk3_v6 E7.1
  have E1_v7 : Exa Z h7 a1 "com/example/assort/assort/Result" := E1_v6.ext E7
  have f_K_v7 : Keep h0 h7 [a1] := f_K_v6.ext E7
  have F_snippet_v7 : Fld Z h7 a1 "com/example/assort/assort/Result" "snippet" "Ljava/lang/String;" .null := F_snippet_v6.ext E7
  have F_url_v7 : Fld Z h7 a1 "com/example/assort/assort/Result" "url" "Ljava/lang/String;" .null := F_url_v6.ext E7
  have Es2_v7 : Exa Z h7 s2 "java/lang/String" := Es2_v6.ext E7
  have Es3_v7 : Exa Z h7 s3 "java/lang/String" := Es3_v6.ext E7
  have Es4_v7 : Exa Z h7 s4 "java/lang/String" := Es4_v6.ext E7
  have Fw2_v7 : Fld Z h7 a1 "com/example/assort/assort/Result" "rank" "I" (.int p2) := Fw2_v6.ext E7
  have Fw6_v7 : Fld Z h7 a1 "com/example/assort/assort/Result" "title" "Ljava/lang/String;" (.ref s2) := Fw6.ext E7
  have C_w7 : CHr Z consts_1 s.vm h0 T7.vm h7 := C_v6.trans Cn7
  refine Gl.st st7 ?_
  show Gl p e below P (T7.setTop (mkF m 26 #[.val (.ref a1), .val (.int p2), .val (.ref s2), .val (.ref s3), .val (.ref s4)] [(.ref la7), (.ref s3), (.ref a1)]))
  obtain ⟨_, _, ⟨T8, L8, k8, n8⟩, -, X8, ⟨Lc8, hQ8, l8, y8, z8⟩, st8⟩ := Jvm.LawKit.callS X7 hx (y := (⟨"java/util/Objects", "requireNonNull", "(Ljava/lang/Object;Ljava/lang/String;)Ljava/lang/Object;"⟩ : MethodName)) hown7 (mvT hZ7 (hw _ (List.mem_of_getElem? (i := 87) rfl))) (mvT hZ7 (hw _ (List.mem_of_getElem? (i := 51) rfl))) (mvT hZ7 (hw _ (List.mem_of_getElem? (i := 52) rfl))) (mvT hZ7 (hw _ (List.mem_of_getElem? (i := 53) rfl))) (by decide) (backOf (W := 1) (rm37 l Z a0 hw [] s3 la7 h7 n0 Z0_v7) hZ7 (hw _ (List.mem_of_getElem? (i := 53) rfl)) (hw _ (List.mem_of_getElem? (i := 52) rfl)) (by decide) (by decide)) (g := (mkF m 26 #[.val (.ref a1), .val (.int p2), .val (.ref s2), .val (.ref s3), .val (.ref s4)] [(.ref la7), (.ref s3), (.ref a1)])) rfl (by rw [hml]; rfl) (argsL := [(.ref s3), (.ref la7)]) (rest := [(.ref a1)]) (lenOf pd_6 rfl) rfl (by show 2 * 0 + _ ≤ _; exact Nat.le_of_eq rfl) (hb hby d39_26) (fun _ _ => ⟨rfl, e7, (by decide : 4 + 0 ≤ _), (by decide : 56 + 0 ≤ _)⟩)
  dsimp only [Pt.U, Pt.locs, Pt.cells, Pt.slots] at X8 l8 y8 z8 st8 hQ8
  subst l8 y8 z8
  obtain ⟨rfl, N8q, e8⟩ := hQ8
  have N8 := Fr.app N6 N8q
  refine Gl.st st8 ?_
  show Gl p e below P (T8.setTop (mkF m 29 #[.val (.ref a1), .val (.int p2), .val (.ref s2), .val (.ref s3), .val (.ref s4)] [(.ref s3), (.ref a1)]))
  obtain ⟨T9, X9, e9, st9⟩ := castY X8 hx hZ7 hown7 (hw _ (List.mem_of_getElem? (i := 88) rfl)) e8 (Ins.self Es3_v7) (g := (mkF m 29 #[.val (.ref a1), .val (.int p2), .val (.ref s2), .val (.ref s3), .val (.ref s4)] [(.ref s3), (.ref a1)])) rfl rfl (hb hby d39_29)
  refine Gl.st st9 ?_
  show Gl p e below P (T9.setTop (mkF m 32 #[.val (.ref a1), .val (.int p2), .val (.ref s2), .val (.ref s3), .val (.ref s4)] [(.ref s3), (.ref a1)]))
  obtain ⟨T10, h10, X10, e10, W10, st10⟩ := putF X9 hx hZ7 hown7 (host := "") (Or.inl (hw _ (List.mem_of_getElem? (i := 92) rfl))) Via.refl e9 F_snippet_v7 E1_v7 (Or.inr ⟨(hw _ (List.mem_of_getElem? (i := 93) rfl)), rfl, hnm⟩) (hw _ (List.mem_of_getElem? (i := 68) rfl)) (ty := (.object "java/lang/String")) (by decide) rfl rfl (g := (mkF m 32 #[.val (.ref a1), .val (.int p2), .val (.ref s2), .val (.ref s3), .val (.ref s4)] [(.ref s3), (.ref a1)])) rfl rfl (hb hby d39_32)
  refine Gl.st st10 ?_
  have C_v10 : CHr Z consts_1 s.vm h0 T7.vm h10 := C_w7.trans (CHr.wr W10 (Safe.exa hZ7.alike E1_v7 (by decide) (by decide)) C_w7.1)
  have Z0_v10 : n0 ≤ h10.size := Nat.le_trans Z0_v7 (Keep.of_wr W10).1
  have hk7_v10 : k17 ≤ h10.size := Nat.le_trans hk7 (Keep.of_wr W10).1
  have E1_v10 : Exa Z h10 a1 "com/example/assort/assort/Result" := E1_v7.wr W10
  have f_K_v10 : Keep h0 h10 [a1] := f_K_v7.wr W10 (Or.inl (List.mem_of_getElem? (i := 0) rfl))
  have F_url_v10 : Fld Z h10 a1 "com/example/assort/assort/Result" "url" "Ljava/lang/String;" .null := F_url_v7.other W10 (Or.inr (slot_ne (Or.inr (hw _ (List.mem_of_getElem? (i := 96) rfl))) (Or.inr (hw _ (List.mem_of_getElem? (i := 93) rfl))) (by decide) (t := (.object "java/lang/String")) (t' := (.object "java/lang/String")) (by decide) (by decide)))
  have Es2_v10 : Exa Z h10 s2 "java/lang/String" := Es2_v7.wr W10
  have Es3_v10 : Exa Z h10 s3 "java/lang/String" := Es3_v7.wr W10
  have Es4_v10 : Exa Z h10 s4 "java/lang/String" := Es4_v7.wr W10
  have Fw2_v10 : Fld Z h10 a1 "com/example/assort/assort/Result" "rank" "I" (.int p2) := Fw2_v7.other W10 (Or.inr (slot_ne (Or.inr (hw _ (List.mem_of_getElem? (i := 85) rfl))) (Or.inr (hw _ (List.mem_of_getElem? (i := 93) rfl))) (by decide) (t := .int) (t' := (.object "java/lang/String")) (by decide) (by decide)))
  have Fw6_v10 : Fld Z h10 a1 "com/example/assort/assort/Result" "title" "Ljava/lang/String;" (.ref s2) := Fw6_v7.other W10 (Or.inr (slot_ne (Or.inr (hw _ (List.mem_of_getElem? (i := 90) rfl))) (Or.inr (hw _ (List.mem_of_getElem? (i := 93) rfl))) (by decide) (t := (.object "java/lang/String")) (t' := (.object "java/lang/String")) (by decide) (by decide)))
  have Fw10 : Fld Z h10 a1 "com/example/assort/assort/Result" "snippet" "Ljava/lang/String;" (.ref s3) := F_snippet_v7.same W10
  have N10 := Fr.snoc X10 N8 g1
  show Gl p e below P (T10.setTop (mkF m 35 #[.val (.ref a1), .val (.int p2), .val (.ref s2), .val (.ref s3), .val (.ref s4)] []))
  refine Gl.st (fun _ k => XS.aloadN X10.here hx rfl (hb hby d39_35) rfl rfl k) ?_
  show Gl p e below P (T10.setTop (mkF m 36 #[.val (.ref a1), .val (.int p2), .val (.ref s2), .val (.ref s3), .val (.ref s4)] [(.ref a1)]))
  refine Gl.st (fun _ k => XS.aload X10.here hx rfl (hb hby d39_36) rfl rfl k) ?_
  show Gl p e below P (T10.setTop (mkF m 38 #[.val (.ref a1), .val (.int p2), .val (.ref s2), .val (.ref s3), .val (.ref s4)] [(.ref s4), (.ref a1)]))
  obtain ⟨la11, T11, h11, k111, X11, e11, E11, hS11, hk11, hZ11, hown11, Cn11, -, st11⟩ := ldcOH X10 hx hZ7 hown7 (hw _ (List.mem_of_getElem? (i := 94) rfl)) wS e10 hS7 hk7_v10 hEL C_v10.1 (g := (mkF m 38 #[.val (.ref a1), .val (.int p2), .val (.ref s2), .val (.ref s3), .val (.ref s4)] [(.ref s4), (.ref a1)])) rfl (hb hby d39_38) (n := 12) (by decide) (by decide) (by decide) (by decide)
  have Z0_v11 : n0 ≤ h11.size := Nat.le_trans Z0_v10 E11.1
  have hk7_v11 : k17 ≤ h11.size := Nat.le_trans hk7_v10 E11.1
  have E1_v11 : Exa Z h11 a1 "com/example/assort/assort/Result" := E1_v10.ext E11
  have f_K_v11 : Keep h0 h11 [a1] := f_K_v10.ext E11
  have F_url_v11 : Fld Z h11 a1 "com/example/assort/assort/Result" "url" "Ljava/lang/String;" .null := F_url_v10.ext E11
  have Es2_v11 : Exa Z h11 s2 "java/lang/String" := Es2_v10.ext E11
  have Es3_v11 : Exa Z h11 s3 "java/lang/String" := Es3_v10.ext E11
  have Es4_v11 : Exa Z h11 s4 "java/lang/String" := Es4_v10.ext E11
  have Fw2_v11 : Fld Z h11 a1 "com/example/assort/assort/Result" "rank" "I" (.int p2) := Fw2_v10.ext E11
  have Fw6_v11 : Fld Z h11 a1 "com/example/assort/assort/Result" "title" "Ljava/lang/String;" (.ref s2) := Fw6_v10.ext E11
  have Fw10_v11 : Fld Z h11 a1 "com/example/assort/assort/Result" "snippet" "Ljava/lang/String;" (.ref s3) := Fw10.ext E11
  have C_w11 : CHr Z consts_1 s.vm h0 T11.vm h11 := C_v10.trans Cn11
  refine Gl.st st11 ?_
  show Gl p e below P (T11.setTop (mkF m 40 #[.val (.ref a1), .val (.int p2), .val (.ref s2), .val (.ref s3), .val (.ref s4)] [(.ref la11), (.ref s4), (.ref a1)]))
  obtain ⟨_, _, ⟨T12, L12, k12, n12⟩, -, X12, ⟨Lc12, hQ12, l12, y12, z12⟩, st12⟩ := Jvm.LawKit.callS X11 hx (y := (⟨"java/util/Objects", "requireNonNull", "(Ljava/lang/Object;Ljava/lang/String;)Ljava/lang/Object;"⟩ : MethodName)) hown11 (mvT hZ11 (hw _ (List.mem_of_getElem? (i := 87) rfl))) (mvT hZ11 (hw _ (List.mem_of_getElem? (i := 51) rfl))) (mvT hZ11 (hw _ (List.mem_of_getElem? (i := 52) rfl))) (mvT hZ11 (hw _ (List.mem_of_getElem? (i := 53) rfl))) (by decide) (backOf (W := 1) (rm37 l Z a0 hw [] s4 la11 h11 n0 Z0_v11) hZ11 (hw _ (List.mem_of_getElem? (i := 53) rfl)) (hw _ (List.mem_of_getElem? (i := 52) rfl)) (by decide) (by decide)) (g := (mkF m 40 #[.val (.ref a1), .val (.int p2), .val (.ref s2), .val (.ref s3), .val (.ref s4)] [(.ref la11), (.ref s4), (.ref a1)])) rfl (by rw [hml]; rfl) (argsL := [(.ref s4), (.ref la11)]) (rest := [(.ref a1)]) (lenOf pd_6 rfl) rfl (by show 2 * 0 + _ ≤ _; exact Nat.le_of_eq rfl) (hb hby d39_40) (fun _ _ => ⟨rfl, e11, (by decide : 6 + 0 ≤ _), (by decide : 72 + 0 ≤ _)⟩)
  dsimp only [Pt.U, Pt.locs, Pt.cells, Pt.slots] at X12 l12 y12 z12 st12 hQ12
  subst l12 y12 z12
  obtain ⟨rfl, N12q, e12⟩ := hQ12
  have N12 := Fr.app N10 N12q
  refine Gl.st st12 ?_
  show Gl p e below P (T12.setTop (mkF m 43 #[.val (.ref a1), .val (.int p2), .val (.ref s2), .val (.ref s3), .val (.ref s4)] [(.ref s4), (.ref a1)]))
  obtain ⟨T13, X13, e13, st13⟩ := castY X12 hx hZ11 hown11 (hw _ (List.mem_of_getElem? (i := 88) rfl)) e12 (Ins.self Es4_v11) (g := (mkF m 43 #[.val (.ref a1), .val (.int p2), .val (.ref s2), .val (.ref s3), .val (.ref s4)] [(.ref s4), (.ref a1)])) rfl rfl (hb hby d39_43)
  refine Gl.st st13 ?_
  show Gl p e below P (T13.setTop (mkF m 46 #[.val (.ref a1), .val (.int p2), .val (.ref s2), .val (.ref s3), .val (.ref s4)] [(.ref s4), (.ref a1)]))
  obtain ⟨T14, h14, X14, e14, W14, st14⟩ := putF X13 hx hZ11 hown11 (host := "") (Or.inl (hw _ (List.mem_of_getElem? (i := 95) rfl))) Via.refl e13 F_url_v11 E1_v11 (Or.inr ⟨(hw _ (List.mem_of_getElem? (i := 96) rfl)), rfl, hnm⟩) (hw _ (List.mem_of_getElem? (i := 68) rfl)) (ty := (.object "java/lang/String")) (by decide) rfl rfl (g := (mkF m 46 #[.val (.ref a1), .val (.int p2), .val (.ref s2), .val (.ref s3), .val (.ref s4)] [(.ref s4), (.ref a1)])) rfl rfl (hb hby d39_46)
  refine Gl.st st14 ?_
  have C_v14 : CHr Z consts_1 s.vm h0 T11.vm h14 := C_w11.trans (CHr.wr W14 (Safe.exa hZ11.alike E1_v11 (by decide) (by decide)) C_w11.1)
  have Z0_v14 : n0 ≤ h14.size := Nat.le_trans Z0_v11 (Keep.of_wr W14).1
  have hk11_v14 : k111 ≤ h14.size := Nat.le_trans hk11 (Keep.of_wr W14).1
  have E1_v14 : Exa Z h14 a1 "com/example/assort/assort/Result" := E1_v11.wr W14
  have f_K_v14 : Keep h0 h14 [a1] := f_K_v11.wr W14 (Or.inl (List.mem_of_getElem? (i := 0) rfl))
  have Es2_v14 : Exa Z h14 s2 "java/lang/String" := Es2_v11.wr W14
  have Es3_v14 : Exa Z h14 s3 "java/lang/String" := Es3_v11.wr W14
  have Es4_v14 : Exa Z h14 s4 "java/lang/String" := Es4_v11.wr W14
  have Fw2_v14 : Fld Z h14 a1 "com/example/assort/assort/Result" "rank" "I" (.int p2) := Fw2_v11.other W14 (Or.inr (slot_ne (Or.inr (hw _ (List.mem_of_getElem? (i := 85) rfl))) (Or.inr (hw _ (List.mem_of_getElem? (i := 96) rfl))) (by decide) (t := .int) (t' := (.object "java/lang/String")) (by decide) (by decide)))
  have Fw6_v14 : Fld Z h14 a1 "com/example/assort/assort/Result" "title" "Ljava/lang/String;" (.ref s2) := Fw6_v11.other W14 (Or.inr (slot_ne (Or.inr (hw _ (List.mem_of_getElem? (i := 90) rfl))) (Or.inr (hw _ (List.mem_of_getElem? (i := 96) rfl))) (by decide) (t := (.object "java/lang/String")) (t' := (.object "java/lang/String")) (by decide) (by decide)))
  have Fw10_v14 : Fld Z h14 a1 "com/example/assort/assort/Result" "snippet" "Ljava/lang/String;" (.ref s3) := Fw10_v11.other W14 (Or.inr (slot_ne (Or.inr (hw _ (List.mem_of_getElem? (i := 93) rfl))) (Or.inr (hw _ (List.mem_of_getElem? (i := 96) rfl))) (by decide) (t := (.object "java/lang/String")) (t' := (.object "java/lang/String")) (by decide) (by decide)))
  have Fw14 : Fld Z h14 a1 "com/example/assort/assort/Result" "url" "Ljava/lang/String;" (.ref s4) := F_url_v11.same W14
  have N14 := Fr.snoc X14 N12 g1
  show Gl p e below P (T14.setTop (mkF m 49 #[.val (.ref a1), .val (.int p2), .val (.ref s2), .val (.ref s3), .val (.ref s4)] []))
  obtain ⟨fs, hr, hrun, hended, hRE⟩ := X14.leaveW hS11 (by rw [e14]; exact hk11_v14) (v := none) (fun _ => rfl)
  refine ⟨_, _, X14.returnOut hx Bd.returns (hb hby d39_49) hr, hrun, hended, hPost _ _ ⟨_, _, rfl, ?_, ?_, hRE.1, hRE.2.1, hRE.2.2.1, hRE.2.2.2.mono (by decide) (by decide)⟩⟩
  rotate_left
  · show CHr Z consts_1 s.vm s.heap T14.vm T14.heap
    rw [hh, e14]
    exact C_v14.trans (CHv.at X14 hZ11 hEL C_v14.1)
  show Q39 Z a1 p2 s2 s3 s4 h0 n0 _ T14.heap _
  rw [e14]
  exact ⟨rfl, N14, f_K_v14, E1_v14, Fw2_v14, Fw6_v14, Fw10_v14, Fw14⟩
theorem pn_40 : plainName "com/example/assort/assort/TrecDocument" = true := by first | (simp [plainName, overriddenIn]; done) | decide +kernel
theorem ef_40 (m : MethodId) (x0 : Addr) : entryFrame m #[(.ref x0)] 1 = mkF m 0 #[.val (.ref x0)] [] := by first | (simp [entryFrame, mkF, argsToLocals, Value.category]; done) | rfl
def Q40 (Z : State) (a1 : Addr) (r : Addr) (h0 : Heap) (n0 : Nat) (v : Option Value) (h : Heap) (L : List Loc) : Prop := v = some (.ref r) ∧ Fr n0 L ∧ h = h0
set_option maxRecDepth 65536 in
set_option maxHeartbeats 40000000 in
theorem rm40 (l : Launch) (Z : State) (a0 : Array Value) (hw : ∀ d ∈ tables_1, d.before a0 Z = true) (ws : List Jvm.Cond) (a1 : Addr) (r : Addr) (h0 : Heap) (n0 : Nat) (Z0 : n0 ≤ h0.size) (F1 : Fld Z h0 a1 "com/example/assort/assort/TrecDocument" "title" "Ljava/lang/String;" (.ref r)) :
    MetFree l (⟨"com/example/assort/assort/TrecDocument", "title", "()Ljava/lang/String;"⟩ : MethodName) (head1 (Jvm.Cond.code (⟨"com/example/assort/assort/TrecDocument", "title", "()Ljava/lang/String;"⟩ : MethodName) prog_26_method_3_code 1 (some (.object "java/lang/String")) :: ws) ({ frames := 0, cells := 0, slots := 0, locals := 0 } : Room)) (fun a U => a = #[(.ref a1)] ∧ Z.Warmed39 U.vm ∧ U.heap = h0) (fun _ _ _ _ _ => True) (fun _ U o U' => ∃ v L, o = .returned v ∧ Q40 Z a1 r h0 n0 v U'.heap L ∧ FrameEnd U o U' L ({ frames := 0, cells := 0, slots := 0, locals := 0 } : Room).cells ({ frames := 0, cells := 0, slots := 0, locals := 0 } : Room).slots) := by
  refine MetFree.of_bodySF (plainFor_of_name pn_40) hisR ?_
  intro p e s m args below meth c s₁ Bd hml0 hP hK
  obtain ⟨rfl, hZ, hh⟩ := hP
  have hx := Bd.exec
  have hby := Bd.bytes
  have hml : c.maxLocals = 1 := hml0
  have hown : s.vm.findClass "com/example/assort/assort/TrecDocument" = some m.cls := findClass_of_methodNamed Bd.named
  have hnm := (name_of_methodNamed Bd.named Bd.method).1
  have X0 : Stand p l e ({ frames := 0, cells := 0, slots := 0, locals := 0 } : Room) s m #[(.ref a1)] below meth c s₁ [] 0 0 := Stand.of_body Bd
  have e0 : s₁.heap = h0 := by rw [← hh, Bd.state]; rfl
  have N0 := Fr.nil n0
  refine Gl.gen fun P hPost => ?_
  refine Gl.st (fun t k => castTop (ef_40 m a1 ) k) ?_
  show Gl p e below P (s₁.setTop (mkF m 0 #[.val (.ref a1)] []))
  refine Gl.st (fun _ k => XS.aloadN X0.here hx rfl (hb hby d40_0) rfl rfl k) ?_
  show Gl p e below P (s₁.setTop (mkF m 1 #[.val (.ref a1)] [(.ref a1)]))
  obtain ⟨T1, X1, e1, st1⟩ := getF X0 hx hZ hown (host := "") (Or.inl (hw _ (List.mem_of_getElem? (i := 58) rfl))) Via.refl e0 F1 (g := (mkF m 1 #[.val (.ref a1)] [(.ref a1)])) rfl rfl (hb hby d40_1)
  refine Gl.st st1 ?_
  show Gl p e below P (T1.setTop (mkF m 4 #[.val (.ref a1)] [(.ref r)]))
  obtain ⟨fs, hr, hrun, hended, hW, hsame⟩ := X1.leave (v := some (.ref r)) (fun h => by rw [Bd.returns] at h; cases h)
  refine ⟨_, _, retOut X1 hx Bd.returns rfl (Or.inr (Or.inr (Or.inr (Or.inr ⟨rfl, rfl, rfl⟩)))) (hb hby d40_4) hr, hrun, hended, hPost _ _ ⟨_, _, rfl, ?_, ⟨_, rfl⟩, hW, hsame.mono (by decide) (by decide)⟩⟩
  show Q40 Z a1 r h0 n0 _ T1.heap _
  rw [e1]
  exact ⟨rfl, N0, rfl⟩
theorem pn_41 : plainName "com/example/assort/assort/TrecDocument" = true := by first | (simp [plainName, overriddenIn]; done) | decide +kernel
theorem ef_41 (m : MethodId) (x0 : Addr) : entryFrame m #[(.ref x0)] 1 = mkF m 0 #[.val (.ref x0)] [] := by first | (simp [entryFrame, mkF, argsToLocals, Value.category]; done) | rfl
def Q41 (Z : State) (a1 : Addr) (r : Addr) (h0 : Heap) (n0 : Nat) (v : Option Value) (h : Heap) (L : List Loc) : Prop := v = some (.ref r) ∧ Fr n0 L ∧ h = h0
set_option maxRecDepth 65536 in
set_option maxHeartbeats 40000000 in
theorem rm41 (l : Launch) (Z : State) (a0 : Array Value) (hw : ∀ d ∈ tables_1, d.before a0 Z = true) (ws : List Jvm.Cond) (a1 : Addr) (r : Addr) (h0 : Heap) (n0 : Nat) (Z0 : n0 ≤ h0.size) (F1 : Fld Z h0 a1 "com/example/assort/assort/TrecDocument" "text" "Ljava/lang/String;" (.ref r)) :
    MetFree l (⟨"com/example/assort/assort/TrecDocument", "text", "()Ljava/lang/String;"⟩ : MethodName) (head1 (Jvm.Cond.code (⟨"com/example/assort/assort/TrecDocument", "text", "()Ljava/lang/String;"⟩ : MethodName) prog_26_method_4_code 1 (some (.object "java/lang/String")) :: ws) ({ frames := 0, cells := 0, slots := 0, locals := 0 } : Room)) (fun a U => a = #[(.ref a1)] ∧ Z.Warmed39 U.vm ∧ U.heap = h0) (fun _ _ _ _ _ => True) (fun _ U o U' => ∃ v L, o = .returned v ∧ Q41 Z a1 r h0 n0 v U'.heap L ∧ FrameEnd U o U' L ({ frames := 0, cells := 0, slots := 0, locals := 0 } : Room).cells ({ frames := 0, cells := 0, slots := 0, locals := 0 } : Room).slots) := by
  refine MetFree.of_bodySF (plainFor_of_name pn_41) hisR ?_
  intro p e s m args below meth c s₁ Bd hml0 hP hK
  obtain ⟨rfl, hZ, hh⟩ := hP
  have hx := Bd.exec
  have hby := Bd.bytes
  have hml : c.maxLocals = 1 := hml0
  have hown : s.vm.findClass "com/example/assort/assort/TrecDocument" = some m.cls := findClass_of_methodNamed Bd.named
  have hnm := (name_of_methodNamed Bd.named Bd.method).1
  have X0 : Stand p l e ({ frames := 0, cells := 0, slots := 0, locals := 0 } : Room) s m #[(.ref a1)] below meth c s₁ [] 0 0 := Stand.of_body Bd
  have e0 : s₁.heap = h0 := by rw [← hh, Bd.state]; rfl
  have N0 := Fr.nil n0
  refine Gl.gen fun P hPost => ?_
  refine Gl.st (fun t k => castTop (ef_41 m a1 ) k) ?_
  show Gl p e below P (s₁.setTop (mkF m 0 #[.val (.ref a1)] []))
  refine Gl.st (fun _ k => XS.aloadN X0.here hx rfl (hb hby d41_0) rfl rfl k) ?_
  show Gl p e below P (s₁.setTop (mkF m 1 #[.val (.ref a1)] [(.ref a1)]))
  obtain ⟨T1, X1, e1, st1⟩ := getF X0 hx hZ hown (host := "") (Or.inl (hw _ (List.mem_of_getElem? (i := 61) rfl))) Via.refl e0 F1 (g := (mkF m 1 #[.val (.ref a1)] [(.ref a1)])) rfl rfl (hb hby d41_1)
  refine Gl.st st1 ?_
  show Gl p e below P (T1.setTop (mkF m 4 #[.val (.ref a1)] [(.ref r)]))
  obtain ⟨fs, hr, hrun, hended, hW, hsame⟩ := X1.leave (v := some (.ref r)) (fun h => by rw [Bd.returns] at h; cases h)
  refine ⟨_, _, retOut X1 hx Bd.returns rfl (Or.inr (Or.inr (Or.inr (Or.inr ⟨rfl, rfl, rfl⟩)))) (hb hby d41_4) hr, hrun, hended, hPost _ _ ⟨_, _, rfl, ?_, ⟨_, rfl⟩, hW, hsame.mono (by decide) (by decide)⟩⟩
  show Q41 Z a1 r h0 n0 _ T1.heap _
  rw [e1]
  exact ⟨rfl, N0, rfl⟩
theorem pn_42 : plainName "com/example/assort/assort/Result" = true := by first | (simp [plainName, overriddenIn]; done) | decide +kernel
theorem ef_42 (m : MethodId) (x0 : Addr) : entryFrame m #[(.ref x0)] 1 = mkF m 0 #[.val (.ref x0)] [] := by first | (simp [entryFrame, mkF, argsToLocals, Value.category]; done) | rfl
def Q42 (Z : State) (a1 : Addr) (r : Int32) (h0 : Heap) (n0 : Nat) (v : Option Value) (h : Heap) (L : List Loc) : Prop := v = some (.int r) ∧ Fr n0 L ∧ h = h0
set_option maxRecDepth 65536 in
set_option maxHeartbeats 40000000 in
theorem rm42 (l : Launch) (Z : State) (a0 : Array Value) (hw : ∀ d ∈ tables_1, d.before a0 Z = true) (ws : List Jvm.Cond) (a1 : Addr) (r : Int32) (h0 : Heap) (n0 : Nat) (Z0 : n0 ≤ h0.size) (F1 : Fld Z h0 a1 "com/example/assort/assort/Result" "rank" "I" (.int r)) :
    MetFree l (⟨"com/example/assort/assort/Result", "rank", "()I"⟩ : MethodName) (head1 (Jvm.Cond.code (⟨"com/example/assort/assort/Result", "rank", "()I"⟩ : MethodName) prog_20_method_3_code 1 (some .int) :: ws) ({ frames := 0, cells := 0, slots := 0, locals := 0 } : Room)) (fun a U => a = #[(.ref a1)] ∧ Z.Warmed39 U.vm ∧ U.heap = h0) (fun _ _ _ _ _ => True) (fun _ U o U' => ∃ v L, o = .returned v ∧ Q42 Z a1 r h0 n0 v U'.heap L ∧ FrameEnd U o U' L ({ frames := 0, cells := 0, slots := 0, locals := 0 } : Room).cells ({ frames := 0, cells := 0, slots := 0, locals := 0 } : Room).slots) := by
  refine MetFree.of_bodySF (plainFor_of_name pn_42) hisR ?_
  intro p e s m args below meth c s₁ Bd hml0 hP hK
  obtain ⟨rfl, hZ, hh⟩ := hP
  have hx := Bd.exec
  have hby := Bd.bytes
  have hml : c.maxLocals = 1 := hml0
  have hown : s.vm.findClass "com/example/assort/assort/Result" = some m.cls := findClass_of_methodNamed Bd.named
  have hnm := (name_of_methodNamed Bd.named Bd.method).1
  have X0 : Stand p l e ({ frames := 0, cells := 0, slots := 0, locals := 0 } : Room) s m #[(.ref a1)] below meth c s₁ [] 0 0 := Stand.of_body Bd
  have e0 : s₁.heap = h0 := by rw [← hh, Bd.state]; rfl
  have N0 := Fr.nil n0
  refine Gl.gen fun P hPost => ?_
  refine Gl.st (fun t k => castTop (ef_42 m a1 ) k) ?_
  show Gl p e below P (s₁.setTop (mkF m 0 #[.val (.ref a1)] []))
  refine Gl.st (fun _ k => XS.aloadN X0.here hx rfl (hb hby d42_0) rfl rfl k) ?_
  show Gl p e below P (s₁.setTop (mkF m 1 #[.val (.ref a1)] [(.ref a1)]))
  obtain ⟨T1, X1, e1, st1⟩ := getF X0 hx hZ hown (host := "") (Or.inl (hw _ (List.mem_of_getElem? (i := 84) rfl))) Via.refl e0 F1 (g := (mkF m 1 #[.val (.ref a1)] [(.ref a1)])) rfl rfl (hb hby d42_1)
  refine Gl.st st1 ?_
  show Gl p e below P (T1.setTop (mkF m 4 #[.val (.ref a1)] [(.int r)]))
  obtain ⟨fs, hr, hrun, hended, hW, hsame⟩ := X1.leave (v := some (.int r)) (fun h => by rw [Bd.returns] at h; cases h)
  refine ⟨_, _, retOut X1 hx Bd.returns rfl (Or.inl ⟨rfl, Or.inl rfl, _, rfl⟩) (hb hby d42_4) hr, hrun, hended, hPost _ _ ⟨_, _, rfl, ?_, ⟨_, rfl⟩, hW, hsame.mono (by decide) (by decide)⟩⟩
  show Q42 Z a1 r h0 n0 _ T1.heap _
  rw [e1]
  exact ⟨rfl, N0, rfl⟩
theorem pn_43 : plainName "com/example/assort/assort/Result" = true := by first | (simp [plainName, overriddenIn]; done) | decide +kernel
theorem ef_43 (m : MethodId) (x0 : Addr) : entryFrame m #[(.ref x0)] 1 = mkF m 0 #[.val (.ref x0)] [] := by first | (simp [entryFrame, mkF, argsToLocals, Value.category]; done) | rfl
def Q43 (Z : State) (a1 : Addr) (r : Addr) (h0 : Heap) (n0 : Nat) (v : Option Value) (h : Heap) (L : List Loc) : Prop := v = some (.ref r) ∧ Fr n0 L ∧ h = h0
set_option maxRecDepth 65536 in
set_option maxHeartbeats 40000000 in
theorem rm43 (l : Launch) (Z : State) (a0 : Array Value) (hw : ∀ d ∈ tables_1, d.before a0 Z = true) (ws : List Jvm.Cond) (a1 : Addr) (r : Addr) (h0 : Heap) (n0 : Nat) (Z0 : n0 ≤ h0.size) (F1 : Fld Z h0 a1 "com/example/assort/assort/Result" "title" "Ljava/lang/String;" (.ref r)) :
    MetFree l (⟨"com/example/assort/assort/Result", "title", "()Ljava/lang/String;"⟩ : MethodName) (head1 (Jvm.Cond.code (⟨"com/example/assort/assort/Result", "title", "()Ljava/lang/String;"⟩ : MethodName) prog_20_method_4_code 1 (some (.object "java/lang/String")) :: ws) ({ frames := 0, cells := 0, slots := 0, locals := 0 } : Room)) (fun a U => a = #[(.ref a1)] ∧ Z.Warmed39 U.vm ∧ U.heap = h0) (fun _ _ _ _ _ => True) (fun _ U o U' => ∃ v L, o = .returned v ∧ Q43 Z a1 r h0 n0 v U'.heap L ∧ FrameEnd U o U' L ({ frames := 0, cells := 0, slots := 0, locals := 0 } : Room).cells ({ frames := 0, cells := 0, slots := 0, locals := 0 } : Room).slots) := by
  refine MetFree.of_bodySF (plainFor_of_name pn_43) hisR ?_
  intro p e s m args below meth c s₁ Bd hml0 hP hK
  obtain ⟨rfl, hZ, hh⟩ := hP
  have hx := Bd.exec
  have hby := Bd.bytes
  have hml : c.maxLocals = 1 := hml0
  have hown : s.vm.findClass "com/example/assort/assort/Result" = some m.cls := findClass_of_methodNamed Bd.named
  have hnm := (name_of_methodNamed Bd.named Bd.method).1
  have X0 : Stand p l e ({ frames := 0, cells := 0, slots := 0, locals := 0 } : Room) s m #[(.ref a1)] below meth c s₁ [] 0 0 := Stand.of_body Bd
  have e0 : s₁.heap = h0 := by rw [← hh, Bd.state]; rfl
  have N0 := Fr.nil n0
  refine Gl.gen fun P hPost => ?_
  refine Gl.st (fun t k => castTop (ef_43 m a1 ) k) ?_
  show Gl p e below P (s₁.setTop (mkF m 0 #[.val (.ref a1)] []))
  refine Gl.st (fun _ k => XS.aloadN X0.here hx rfl (hb hby d43_0) rfl rfl k) ?_
  show Gl p e below P (s₁.setTop (mkF m 1 #[.val (.ref a1)] [(.ref a1)]))
  obtain ⟨T1, X1, e1, st1⟩ := getF X0 hx hZ hown (host := "") (Or.inl (hw _ (List.mem_of_getElem? (i := 89) rfl))) Via.refl e0 F1 (g := (mkF m 1 #[.val (.ref a1)] [(.ref a1)])) rfl rfl (hb hby d43_1)
  refine Gl.st st1 ?_
  show Gl p e below P (T1.setTop (mkF m 4 #[.val (.ref a1)] [(.ref r)]))
  obtain ⟨fs, hr, hrun, hended, hW, hsame⟩ := X1.leave (v := some (.ref r)) (fun h => by rw [Bd.returns] at h; cases h)
  refine ⟨_, _, retOut X1 hx Bd.returns rfl (Or.inr (Or.inr (Or.inr (Or.inr ⟨rfl, rfl, rfl⟩)))) (hb hby d43_4) hr, hrun, hended, hPost _ _ ⟨_, _, rfl, ?_, ⟨_, rfl⟩, hW, hsame.mono (by decide) (by decide)⟩⟩
  show Q43 Z a1 r h0 n0 _ T1.heap _
  rw [e1]
  exact ⟨rfl, N0, rfl⟩
theorem pn_44 : plainName "com/example/assort/assort/Result" = true := by first | (simp [plainName, overriddenIn]; done) | decide +kernel
theorem ef_44 (m : MethodId) (x0 : Addr) : entryFrame m #[(.ref x0)] 1 = mkF m 0 #[.val (.ref x0)] [] := by first | (simp [entryFrame, mkF, argsToLocals, Value.category]; done) | rfl
def Q44 (Z : State) (a1 : Addr) (r : Addr) (h0 : Heap) (n0 : Nat) (v : Option Value) (h : Heap) (L : List Loc) : Prop := v = some (.ref r) ∧ Fr n0 L ∧ h = h0
set_option maxRecDepth 65536 in
set_option maxHeartbeats 40000000 in
theorem rm44 (l : Launch) (Z : State) (a0 : Array Value) (hw : ∀ d ∈ tables_1, d.before a0 Z = true) (ws : List Jvm.Cond) (a1 : Addr) (r : Addr) (h0 : Heap) (n0 : Nat) (Z0 : n0 ≤ h0.size) (F1 : Fld Z h0 a1 "com/example/assort/assort/Result" "snippet" "Ljava/lang/String;" (.ref r)) :
    MetFree l (⟨"com/example/assort/assort/Result", "snippet", "()Ljava/lang/String;"⟩ : MethodName) (head1 (Jvm.Cond.code (⟨"com/example/assort/assort/Result", "snippet", "()Ljava/lang/String;"⟩ : MethodName) prog_20_method_5_code 1 (some (.object "java/lang/String")) :: ws) ({ frames := 0, cells := 0, slots := 0, locals := 0 } : Room)) (fun a U => a = #[(.ref a1)] ∧ Z.Warmed39 U.vm ∧ U.heap = h0) (fun _ _ _ _ _ => True) (fun _ U o U' => ∃ v L, o = .returned v ∧ Q44 Z a1 r h0 n0 v U'.heap L ∧ FrameEnd U o U' L ({ frames := 0, cells := 0, slots := 0, locals := 0 } : Room).cells ({ frames := 0, cells := 0, slots := 0, locals := 0 } : Room).slots) := by
  refine MetFree.of_bodySF (plainFor_of_name pn_44) hisR ?_
  intro p e s m args below meth c s₁ Bd hml0 hP hK
  obtain ⟨rfl, hZ, hh⟩ := hP
  have hx := Bd.exec
  have hby := Bd.bytes
  have hml : c.maxLocals = 1 := hml0
  have hown : s.vm.findClass "com/example/assort/assort/Result" = some m.cls := findClass_of_methodNamed Bd.named
  have hnm := (name_of_methodNamed Bd.named Bd.method).1
  have X0 : Stand p l e ({ frames := 0, cells := 0, slots := 0, locals := 0 } : Room) s m #[(.ref a1)] below meth c s₁ [] 0 0 := Stand.of_body Bd
  have e0 : s₁.heap = h0 := by rw [← hh, Bd.state]; rfl
  have N0 := Fr.nil n0
  refine Gl.gen fun P hPost => ?_
  refine Gl.st (fun t k => castTop (ef_44 m a1 ) k) ?_
  show Gl p e below P (s₁.setTop (mkF m 0 #[.val (.ref a1)] []))
  refine Gl.st (fun _ k => XS.aloadN X0.here hx rfl (hb hby d44_0) rfl rfl k) ?_
  show Gl p e below P (s₁.setTop (mkF m 1 #[.val (.ref a1)] [(.ref a1)]))
  obtain ⟨T1, X1, e1, st1⟩ := getF X0 hx hZ hown (host := "") (Or.inl (hw _ (List.mem_of_getElem? (i := 92) rfl))) Via.refl e0 F1 (g := (mkF m 1 #[.val (.ref a1)] [(.ref a1)])) rfl rfl (hb hby d44_1)
  refine Gl.st st1 ?_
  show Gl p e below P (T1.setTop (mkF m 4 #[.val (.ref a1)] [(.ref r)]))
  obtain ⟨fs, hr, hrun, hended, hW, hsame⟩ := X1.leave (v := some (.ref r)) (fun h => by rw [Bd.returns] at h; cases h)
  refine ⟨_, _, retOut X1 hx Bd.returns rfl (Or.inr (Or.inr (Or.inr (Or.inr ⟨rfl, rfl, rfl⟩)))) (hb hby d44_4) hr, hrun, hended, hPost _ _ ⟨_, _, rfl, ?_, ⟨_, rfl⟩, hW, hsame.mono (by decide) (by decide)⟩⟩
  show Q44 Z a1 r h0 n0 _ T1.heap _
  rw [e1]
  exact ⟨rfl, N0, rfl⟩
theorem pn_45 : plainName "com/example/assort/assort/Result" = true := by first | (simp [plainName, overriddenIn]; done) | decide +kernel
theorem ef_45 (m : MethodId) (x0 : Addr) : entryFrame m #[(.ref x0)] 1 = mkF m 0 #[.val (.ref x0)] [] := by first | (simp [entryFrame, mkF, argsToLocals, Value.category]; done) | rfl
def Q45 (Z : State) (a1 : Addr) (r : Addr) (h0 : Heap) (n0 : Nat) (v : Option Value) (h : Heap) (L : List Loc) : Prop := v = some (.ref r) ∧ Fr n0 L ∧ h = h0
set_option maxRecDepth 65536 in
set_option maxHeartbeats 40000000 in
theorem rm45 (l : Launch) (Z : State) (a0 : Array Value) (hw : ∀ d ∈ tables_1, d.before a0 Z = true) (ws : List Jvm.Cond) (a1 : Addr) (r : Addr) (h0 : Heap) (n0 : Nat) (Z0 : n0 ≤ h0.size) (F1 : Fld Z h0 a1 "com/example/assort/assort/Result" "url" "Ljava/lang/String;" (.ref r)) :
    MetFree l (⟨"com/example/assort/assort/Result", "url", "()Ljava/lang/String;"⟩ : MethodName) (head1 (Jvm.Cond.code (⟨"com/example/assort/assort/Result", "url", "()Ljava/lang/String;"⟩ : MethodName) prog_20_method_6_code 1 (some (.object "java/lang/String")) :: ws) ({ frames := 0, cells := 0, slots := 0, locals := 0 } : Room)) (fun a U => a = #[(.ref a1)] ∧ Z.Warmed39 U.vm ∧ U.heap = h0) (fun _ _ _ _ _ => True) (fun _ U o U' => ∃ v L, o = .returned v ∧ Q45 Z a1 r h0 n0 v U'.heap L ∧ FrameEnd U o U' L ({ frames := 0, cells := 0, slots := 0, locals := 0 } : Room).cells ({ frames := 0, cells := 0, slots := 0, locals := 0 } : Room).slots) := by
  refine MetFree.of_bodySF (plainFor_of_name pn_45) hisR ?_
  intro p e s m args below meth c s₁ Bd hml0 hP hK
  obtain ⟨rfl, hZ, hh⟩ := hP
  have hx := Bd.exec
  have hby := Bd.bytes
  have hml : c.maxLocals = 1 := hml0
  have hown : s.vm.findClass "com/example/assort/assort/Result" = some m.cls := findClass_of_methodNamed Bd.named
  have hnm := (name_of_methodNamed Bd.named Bd.method).1
  have X0 : Stand p l e ({ frames := 0, cells := 0, slots := 0, locals := 0 } : Room) s m #[(.ref a1)] below meth c s₁ [] 0 0 := Stand.of_body Bd
  have e0 : s₁.heap = h0 := by rw [← hh, Bd.state]; rfl
  have N0 := Fr.nil n0
  refine Gl.gen fun P hPost => ?_
  refine Gl.st (fun t k => castTop (ef_45 m a1 ) k) ?_
  show Gl p e below P (s₁.setTop (mkF m 0 #[.val (.ref a1)] []))
  refine Gl.st (fun _ k => XS.aloadN X0.here hx rfl (hb hby d45_0) rfl rfl k) ?_
  show Gl p e below P (s₁.setTop (mkF m 1 #[.val (.ref a1)] [(.ref a1)]))
  obtain ⟨T1, X1, e1, st1⟩ := getF X0 hx hZ hown (host := "") (Or.inl (hw _ (List.mem_of_getElem? (i := 95) rfl))) Via.refl e0 F1 (g := (mkF m 1 #[.val (.ref a1)] [(.ref a1)])) rfl rfl (hb hby d45_1)
  refine Gl.st st1 ?_
  show Gl p e below P (T1.setTop (mkF m 4 #[.val (.ref a1)] [(.ref r)]))
  obtain ⟨fs, hr, hrun, hended, hW, hsame⟩ := X1.leave (v := some (.ref r)) (fun h => by rw [Bd.returns] at h; cases h)
  refine ⟨_, _, retOut X1 hx Bd.returns rfl (Or.inr (Or.inr (Or.inr (Or.inr ⟨rfl, rfl, rfl⟩)))) (hb hby d45_4) hr, hrun, hended, hPost _ _ ⟨_, _, rfl, ?_, ⟨_, rfl⟩, hW, hsame.mono (by decide) (by decide)⟩⟩
  show Q45 Z a1 r h0 n0 _ T1.heap _
  rw [e1]
  exact ⟨rfl, N0, rfl⟩
theorem pn_46 : plainName "com/example/assort/assort/Result" = true := by first | (simp [plainName, overriddenIn]; done) | decide +kernel
theorem ef_46 (m : MethodId) (x0 : Int32) (x1 : Addr) : entryFrame m #[(.int x0), (.ref x1)] 2 = mkF m 0 #[.val (.int x0), .val (.ref x1)] [] := by first | (simp [entryFrame, mkF, argsToLocals, Value.category]; done) | rfl
def Q46 (Z : State) (p1 : Int32) (a2 : Addr) (s2 : Addr) (s3 : Addr) (c2 : List Int32) (c3 : List Int32) (h0 : Heap) (n0 : Nat) (v : Option Value) (h : Heap) (L : List Loc) : Prop := Fr n0 L ∧ Keep h0 h [] ∧ ∃ b u, v = some (.ref b) ∧ Exa Z h b "com/example/assort/assort/Result" ∧ Fld Z h b "com/example/assort/assort/Result" "rank" "I" (.int p1) ∧ Fld Z h b "com/example/assort/assort/Result" "title" "Ljava/lang/String;" (.ref s2) ∧ Fld Z h b "com/example/assort/assort/Result" "snippet" "Ljava/lang/String;" (.ref s3) ∧ Fld Z h b "com/example/assort/assort/Result" "url" "Ljava/lang/String;" (.ref u) ∧ own_Str Z h u []
set_option maxRecDepth 65536 in
set_option maxHeartbeats 40000000 in
theorem rm46 (l : Launch) (Z : State) (a0 : Array Value) (hw : ∀ d ∈ tables_1, d.before a0 Z = true) (ws : List Jvm.Cond) (p1 : Int32) (a2 : Addr) (s2 : Addr) (s3 : Addr) (c2 : List Int32) (c3 : List Int32) (h0 : Heap) (n0 : Nat) (Z0 : n0 ≤ h0.size) (E2 : Exa Z h0 a2 "com/example/assort/assort/TrecDocument") (F2 : Fld Z h0 a2 "com/example/assort/assort/TrecDocument" "title" "Ljava/lang/String;" (.ref s2)) (F3 : Fld Z h0 a2 "com/example/assort/assort/TrecDocument" "text" "Ljava/lang/String;" (.ref s3)) (U2 : own_Str Z h0 s2 c2) (U3 : own_Str Z h0 s3 c3) :
    MetFree l (⟨"com/example/assort/assort/Result", "of", "(ILcom/example/assort/assort/TrecDocument;)Lcom/example/assort/assort/Result;"⟩ : MethodName) (head1 (Jvm.Cond.code (⟨"com/example/assort/assort/Result", "of", "(ILcom/example/assort/assort/TrecDocument;)Lcom/example/assort/assort/Result;"⟩ : MethodName) prog_20_method_2_code 2 (some (.object "com/example/assort/assort/Result")) :: ws) ({ frames := 2, cells := 9, slots := 80, locals := 31 } : Room)) (fun a U => a = #[(.int p1), (.ref a2)] ∧ Z.Warmed39 U.vm ∧ U.heap = h0 ∧ CHv Z consts_1 U.vm h0) (fun _ _ _ _ _ => True) (fun _ U o U' => ∃ v L, o = .returned v ∧ Q46 Z p1 a2 s2 s3 c2 c3 h0 n0 v U'.heap L ∧ CHr Z consts_1 U.vm U.heap U'.vm U'.heap ∧ ReturnedEndW U o U' L ({ frames := 2, cells := 9, slots := 80, locals := 31 } : Room).cells ({ frames := 2, cells := 9, slots := 80, locals := 31 } : Room).slots) := by
  refine MetFree.of_bodySF (plainFor_of_name pn_46) hisR ?_
  intro p e s m args below meth c s₁ Bd hml0 hP hK
  obtain ⟨rfl, hZ, hh, hC⟩ := hP
  have hx := Bd.exec
  have hby := Bd.bytes
  have hml : c.maxLocals = 2 := hml0
  have hown : s.vm.findClass "com/example/assort/assort/Result" = some m.cls := findClass_of_methodNamed Bd.named
  have hnm := (name_of_methodNamed Bd.named Bd.method).1
  have X0 : Stand p l e ({ frames := 2, cells := 9, slots := 80, locals := 31 } : Room) (s.setVm s.vm) m #[(.int p1), (.ref a2)] below meth c s₁ [] 0 0 := Stand.of_body Bd
  have hS0 : s.Since s.vm 0 := (State.WarmedH.refl s).since 0
  have C0 : CHr Z consts_1 s.vm h0 s.vm h0 := CHr.refl hC
  have hZ0 : Z.Warmed39 (s.setVm s.vm).vm := hZ
  have hown0 : (s.setVm s.vm).vm.findClass "com/example/assort/assort/Result" = some m.cls := hown
  have hEL := own_EW hw
  have wS := own_wS hw
  have e0 : s₁.heap = h0 := by rw [← hh, Bd.state]; rfl
  have N0 := Fr.nil n0
  refine Gl.gen fun P hPost => ?_
  refine Gl.st (fun t k => castTop (ef_46 m p1 a2 ) k) ?_
  show Gl p e below P (s₁.setTop (mkF m 0 #[.val (.int p1), .val (.ref a2)] []))
  obtain ⟨T1, h1, X1, e1, E1, A1, D1, -, st1⟩ := newO X0 hx hZ0 hown0 (hw _ (List.mem_of_getElem? (i := 67) rfl)) (hw _ (List.mem_of_getElem? (i := 68) rfl)) (hw _ (List.mem_of_getElem? (i := 65) rfl)) e0 (g := (mkF m 0 #[.val (.int p1), .val (.ref a2)] [])) rfl (hb hby d46_0) (by decide) (by decide)
  obtain ⟨b1, g1⟩ : ∃ z, z = h0.size := ⟨_, rfl⟩
  rw [← g1] at A1 D1 st1
  refine Gl.st st1 ?_
  have g_b1 : n0 ≤ b1 := Nat.le_trans Z0 (Nat.le_of_eq g1.symm)
  have sz_b1 : h0.size ≤ b1 := Nat.le_trans (Keep.refl h0 []).1 (Nat.le_of_eq g1.symm)
  have ne_a2_b1 : a2 ≠ b1 := Nat.ne_of_lt (Nat.lt_of_lt_of_le E2.lt (Nat.le_of_eq g1.symm))
  have ne_s2_b1 : s2 ≠ b1 := Nat.ne_of_lt (Nat.lt_of_lt_of_le (own_Str_exa U2).lt (Nat.le_of_eq g1.symm))
  have ne_s3_b1 : s3 ≠ b1 := Nat.ne_of_lt (Nat.lt_of_lt_of_le (own_Str_exa U3).lt (Nat.le_of_eq g1.symm))
  have C_v1 : CHr Z consts_1 s.vm h0 s.vm h1 := C0.trans (CHr.ext E1 C0.1)
  have Z0_v1 : n0 ≤ h1.size := Nat.le_trans Z0 E1.1
  have f_hk_v1 : 0 ≤ h1.size := Nat.le_trans (Nat.zero_le _) E1.1
  have E2_v1 : Exa Z h1 a2 "com/example/assort/assort/TrecDocument" := E2.ext E1
  have F2_v1 : Fld Z h1 a2 "com/example/assort/assort/TrecDocument" "title" "Ljava/lang/String;" (.ref s2) := F2.ext E1
  have F3_v1 : Fld Z h1 a2 "com/example/assort/assort/TrecDocument" "text" "Ljava/lang/String;" (.ref s3) := F3.ext E1
  have U2_v1 : own_Str Z h1 s2 c2 := own_Str_ext E1 U2
  have U3_v1 : own_Str Z h1 s3 c3 := own_Str_ext E1 U3
  have f_K_v1 : Keep h0 h1 [] := (Keep.refl h0 []).ext E1
  have F_rank_b1 : Fld Z h1 b1 "com/example/assort/assort/Result" "rank" "I" (.int (0 : Int32)) := D1 (Or.inr (hw _ (List.mem_of_getElem? (i := 85) rfl))) (ty := .int) (by decide)
  have F_title_b1 : Fld Z h1 b1 "com/example/assort/assort/Result" "title" "Ljava/lang/String;" .null := D1 (Or.inr (hw _ (List.mem_of_getElem? (i := 90) rfl))) (ty := (.object "java/lang/String")) (by decide)
  have F_snippet_b1 : Fld Z h1 b1 "com/example/assort/assort/Result" "snippet" "Ljava/lang/String;" .null := D1 (Or.inr (hw _ (List.mem_of_getElem? (i := 93) rfl))) (ty := (.object "java/lang/String")) (by decide)
  have F_url_b1 : Fld Z h1 b1 "com/example/assort/assort/Result" "url" "Ljava/lang/String;" .null := D1 (Or.inr (hw _ (List.mem_of_getElem? (i := 96) rfl))) (ty := (.object "java/lang/String")) (by decide)
  show Gl p e below P (T1.setTop (mkF m 3 #[.val (.int p1), .val (.ref a2)] [(.ref b1)]))
  refine Gl.st (fun _ k => XS.dup X1.here hx rfl (hb hby d46_3) rfl rfl k) ?_
  show Gl p e below P (T1.setTop (mkF m 4 #[.val (.int p1), .val (.ref a2)] [(.ref b1), (.ref b1)]))
  refine Gl.st (fun _ k => XS.iloadN X1.here hx rfl (hb hby d46_4) rfl k) ?_
  show Gl p e below P (T1.setTop (mkF m 5 #[.val (.int p1), .val (.ref a2)] [(.int p1), (.ref b1), (.ref b1)]))
  refine Gl.st (fun _ k => XS.aloadN X1.here hx rfl (hb hby d46_5) rfl rfl k) ?_
  show Gl p e below P (T1.setTop (mkF m 6 #[.val (.int p1), .val (.ref a2)] [(.ref a2), (.int p1), (.ref b1), (.ref b1)]))
  obtain ⟨cq2, kq2, q2a, q2b, q2c⟩ := isOf hZ0 e1 E2_v1
  obtain ⟨_, _, ⟨T2, L2, k2, n2⟩, -, X2, ⟨Lc2, hQ2, l2, y2, z2⟩, st2⟩ := X1.virtualBack hx (y := (⟨"com/example/assort/assort/TrecDocument", "title", "()Ljava/lang/String;"⟩ : MethodName)) (z := (⟨"com/example/assort/assort/TrecDocument", "title", "()Ljava/lang/String;"⟩ : MethodName)) hown0 (mvT hZ0 (hw _ (List.mem_of_getElem? (i := 69) rfl))) (mvT hZ0 (hw _ (List.mem_of_getElem? (i := 70) rfl))) (notFace_of_selects (args := #[]) (mvT hZ0 (hw _ (List.mem_of_getElem? (i := 72) rfl)))) (mvT hZ0 (hw _ (List.mem_of_getElem? (i := 72) rfl))) (mvT hZ0 (hw _ (List.mem_of_getElem? (i := 71) rfl))) (by decide) (backOf (W := 3) (rm40 l Z a0 hw [] a2 s2 h1 n0 Z0_v1 F2_v1) hZ0 (hw _ (List.mem_of_getElem? (i := 73) rfl)) (hw _ (List.mem_of_getElem? (i := 43) rfl)) (by decide) (by decide)) q2a q2c (g := (mkF m 6 #[.val (.int p1), .val (.ref a2)] [(.ref a2), (.int p1), (.ref b1), (.ref b1)])) rfl (by rw [hml]; rfl) (Steps.refl _) (argsL := []) (rest := [(.int p1), (.ref b1), (.ref b1)]) (lenOf pd_7 rfl) rfl (by show 2 * 0 + _ ≤ _; exact Nat.le_of_eq rfl) (hb hby d46_6) (fun _ _ => ⟨rfl, e1, (by decide : 1 + 0 ≤ _), (by decide : 4 + 0 ≤ _)⟩)
  dsimp only [Pt.U, Pt.locs, Pt.cells, Pt.slots] at X2 l2 y2 z2 st2 hQ2
  subst l2 y2 z2
  obtain ⟨rfl, N2q, e2⟩ := hQ2
  have N2 := Fr.app N0 N2q
  refine Gl.tr st2 ?_
  show Gl p e below P (T2.setTop (mkF m 9 #[.val (.int p1), .val (.ref a2)] [(.ref s2), (.int p1), (.ref b1), (.ref b1)]))
  refine Gl.st (fun _ k => XS.aloadN X2.here hx rfl (hb hby d46_9) rfl rfl k) ?_
  show Gl p e below P (T2.setTop (mkF m 10 #[.val (.int p1), .val (.ref a2)] [(.ref a2), (.ref s2), (.int p1), (.ref b1), (.ref b1)]))
  obtain ⟨cq3, kq3, q3a, q3b, q3c⟩ := isOf hZ0 e2 E2_v1
  obtain ⟨_, _, ⟨T3, L3, k3, n3⟩, -, X3, ⟨Lc3, hQ3, l3, y3, z3⟩, st3⟩ := X2.virtualBack hx (y := (⟨"com/example/assort/assort/TrecDocument", "text", "()Ljava/lang/String;"⟩ : MethodName)) (z := (⟨"com/example/assort/assort/TrecDocument", "text", "()Ljava/lang/String;"⟩ : MethodName)) hown0 (mvT hZ0 (hw _ (List.mem_of_getElem? (i := 74) rfl))) (mvT hZ0 (hw _ (List.mem_of_getElem? (i := 75) rfl))) (notFace_of_selects (args := #[]) (mvT hZ0 (hw _ (List.mem_of_getElem? (i := 77) rfl)))) (mvT hZ0 (hw _ (List.mem_of_getElem? (i := 77) rfl))) (mvT hZ0 (hw _ (List.mem_of_getElem? (i := 76) rfl))) (by decide) (backOf (W := 4) (rm41 l Z a0 hw [] a2 s3 h1 n0 Z0_v1 F3_v1) hZ0 (hw _ (List.mem_of_getElem? (i := 78) rfl)) (hw _ (List.mem_of_getElem? (i := 43) rfl)) (by decide) (by decide)) q3a q3c (g := (mkF m 10 #[.val (.int p1), .val (.ref a2)] [(.ref a2), (.ref s2), (.int p1), (.ref b1), (.ref b1)])) rfl (by rw [hml]; rfl) (Steps.refl _) (argsL := []) (rest := [(.ref s2), (.int p1), (.ref b1), (.ref b1)]) (lenOf pd_7 rfl) rfl (by show 2 * 0 + _ ≤ _; exact Nat.le_of_eq rfl) (hb hby d46_10) (fun _ _ => ⟨rfl, e2, (by decide : 1 + 0 ≤ _), (by decide : 4 + 0 ≤ _)⟩)
  dsimp only [Pt.U, Pt.locs, Pt.cells, Pt.slots] at X3 l3 y3 z3 st3 hQ3
  subst l3 y3 z3
  obtain ⟨rfl, N3q, e3⟩ := hQ3
  have N3 := Fr.app N2 N3q
  refine Gl.tr st3 ?_
  show Gl p e below P (T3.setTop (mkF m 13 #[.val (.int p1), .val (.ref a2)] [(.ref s3), (.ref s2), (.int p1), (.ref b1), (.ref b1)]))
  obtain ⟨la4, T4, h4, k14, lb4, lk4, X4, e4, E4, hS4, hk4, hZ4, hown4, LE4, LC4, LV4, LA4, lt4, mt4, Cn4, -, hne4, st4⟩ := ldcCH X3 hx hZ0 hown0 (hw _ (List.mem_of_getElem? (i := 79) rfl)) wS e3 hS0 f_hk_v1 hEL (by decide) C_v1.1 (vs := []) (z := (0 : Int32)) ⟨by decide, by decide⟩ (by decide) rfl (g := (mkF m 13 #[.val (.int p1), .val (.ref a2)] [(.ref s3), (.ref s2), (.int p1), (.ref b1), (.ref b1)])) rfl (hb hby d46_13) (n := 0) (by decide) (by decide) (by decide) (by decide)
  have Z0_v4 : n0 ≤ h4.size := Nat.le_trans Z0_v1 E4.1
  have f_hk_v4 : 0 ≤ h4.size := Nat.le_trans f_hk_v1 E4.1
  have E2_v4 : Exa Z h4 a2 "com/example/assort/assort/TrecDocument" := E2_v1.ext E4
  have F2_v4 : Fld Z h4 a2 "com/example/assort/assort/TrecDocument" "title" "Ljava/lang/String;" (.ref s2) := F2_v1.ext E4
  have F3_v4 : Fld Z h4 a2 "com/example/assort/assort/TrecDocument" "text" "Ljava/lang/String;" (.ref s3) := F3_v1.ext E4
  have U2_v4 : own_Str Z h4 s2 c2 := own_Str_ext E4 U2_v1
  have U3_v4 : own_Str Z h4 s3 c3 := own_Str_ext E4 U3_v1
  have f_K_v4 : Keep h0 h4 [] := f_K_v1.ext E4
  have A1_v4 : Exa Z h4 b1 "com/example/assort/assort/Result" := A1.ext E4
  have F_rank_b1_v4 : Fld Z h4 b1 "com/example/assort/assort/Result" "rank" "I" (.int (0 : Int32)) := F_rank_b1.ext E4
  have F_title_b1_v4 : Fld Z h4 b1 "com/example/assort/assort/Result" "title" "Ljava/lang/String;" .null := F_title_b1.ext E4
  have F_snippet_b1_v4 : Fld Z h4 b1 "com/example/assort/assort/Result" "snippet" "Ljava/lang/String;" .null := F_snippet_b1.ext E4
  have F_url_b1_v4 : Fld Z h4 b1 "com/example/assort/assort/Result" "url" "Ljava/lang/String;" .null := F_url_b1.ext E4
  have C_w4 : CHr Z consts_1 s.vm h0 T4.vm h4 := C_v1.trans Cn4
  obtain ⟨ne_a2_la4, ne_a2_lb4⟩ := hne4 a2 (Safe.exa hZ4.alike E2_v4 (by decide) (by decide))
  obtain ⟨ne_b1_la4, ne_b1_lb4⟩ := hne4 b1 (Safe.exa hZ4.alike A1_v4 (by decide) (by decide))
  refine Gl.st st4 ?_
  show Gl p e below P (T4.setTop (mkF m 15 #[.val (.int p1), .val (.ref a2)] [(.ref la4), (.ref s3), (.ref s2), (.int p1), (.ref b1), (.ref b1)]))
  have TU : own_Str Z h4 la4 [] := ⟨own_hp0, Nat.le_of_ble_eq_true rfl, _, _, LE4, LC4, LV4, LA4⟩
  obtain ⟨_, _, ⟨T5, L5, k5, n5⟩, -, X5, hs5, hg5, ⟨Lc5, hQ5, l5, y5, z5, Cn5⟩, st5⟩ := X4.specialBackS hx (y := (⟨"com/example/assort/assort/Result", "<init>", "(ILjava/lang/String;Ljava/lang/String;Ljava/lang/String;)V"⟩ : MethodName)) rfl hown4 (mvT hZ4 (hw _ (List.mem_of_getElem? (i := 80) rfl))) (mvT hZ4 (hw _ (List.mem_of_getElem? (i := 81) rfl))) (mvT hZ4 (hw _ (List.mem_of_getElem? (i := 82) rfl))) (by decide) (backOfSH (s := s) (W := 1) (rm39 l Z a0 hw [] b1 p1 s2 s3 la4 h4 n0 Z0_v4 A1_v4 F_rank_b1_v4 F_title_b1_v4 F_snippet_b1_v4 F_url_b1_v4 (own_Str_exa U2_v4) (own_Str_exa U3_v4) (own_Str_exa TU) g_b1) hZ4 (hw _ (List.mem_of_getElem? (i := 82) rfl)) (hw _ (List.mem_of_getElem? (i := 65) rfl)) (by decide) (by decide) hEL C_w4.1) (g := (mkF m 15 #[.val (.int p1), .val (.ref a2)] [(.ref la4), (.ref s3), (.ref s2), (.int p1), (.ref b1), (.ref b1)])) rfl (by rw [hml]; rfl) (Steps.refl _) (a := b1) (argsL := [(.int p1), (.ref s2), (.ref s3), (.ref la4)]) (rest := [(.ref b1)]) (lenOf pd_8 rfl) rfl (by show 2 * 0 + _ ≤ _; exact Nat.le_of_eq rfl) (hb hby d46_15) (fun _ _ => ⟨rfl, e4, (by decide : 3 + 6 ≤ _), (by decide : 8 + 72 ≤ _)⟩)
  dsimp only [Pt.U, Pt.locs, Pt.cells, Pt.slots] at X5 hs5 hg5 l5 y5 z5 st5 hQ5 Cn5
  subst l5 y5 z5
  obtain ⟨rfl, N5q, K5, E5x, F5a, F5b, F5c, F5d⟩ := hQ5
  have X5 : Stand p l e ({ frames := 2, cells := 9, slots := 80, locals := 31 } : Room) (s.setVm T5.vm) m _ below meth c T5 _ _ _ := X5
  have N5 := Fr.app N3 N5q
  have Z0_v5 : n0 ≤ T5.heap.size := Nat.le_trans Z0_v4 K5.1
  have hk4_v5 : k14 ≤ T5.heap.size := Nat.le_trans hk4 K5.1
  have E2_v5 : Exa Z T5.heap a2 "com/example/assort/assort/TrecDocument" := E2_v4.keep K5
  have F2_v5 : Fld Z T5.heap a2 "com/example/assort/assort/TrecDocument" "title" "Ljava/lang/String;" (.ref s2) := F2_v4.keep K5 (ninS ne_a2_b1 nin0)
  have F3_v5 : Fld Z T5.heap a2 "com/example/assort/assort/TrecDocument" "text" "Ljava/lang/String;" (.ref s3) := F3_v4.keep K5 (ninS ne_a2_b1 nin0)
  have U2_v5 : own_Str Z T5.heap s2 c2 := own_Str_keep1 K5 A1_v4 (by decide) (hw _ (List.mem_of_getElem? (i := 68) rfl)) U2_v4
  have U3_v5 : own_Str Z T5.heap s3 c3 := own_Str_keep1 K5 A1_v4 (by decide) (hw _ (List.mem_of_getElem? (i := 68) rfl)) U3_v4
  have f_K_v5 : Keep h0 T5.heap [] := f_K_v4.trans K5 (allS (Or.inr sz_b1) all0)
  have A1_v5 : Exa Z T5.heap b1 "com/example/assort/assort/Result" := A1_v4.keep K5
  have TU_v5 : own_Str Z T5.heap la4 [] := own_Str_keep1 K5 A1_v4 (by decide) (hw _ (List.mem_of_getElem? (i := 68) rfl)) TU
  have hS5 : s.Since T5.vm T5.heap.size := foldS hS4 (by rw [e4]; exact hk4) hs5 hg5
  have hZ5 : Z.Warmed39 (s.setVm T5.vm).vm := State.Warmed39.trans (t := s.setVm T4.vm) hZ4 hs5.1
  have hown5 : (s.setVm T5.vm).vm.findClass "com/example/assort/assort/Result" = some m.cls := by rw [show (s.setVm T5.vm).vm = T5.vm from rfl, hs5.1.alike.findClass]; exact hown4
  have C_w5 : CHr Z consts_1 s.vm h0 T5.vm T5.heap := C_w4.trans Cn5
  refine Gl.tr st5 ?_
  show Gl p e below P (T5.setTop (mkF m 18 #[.val (.int p1), .val (.ref a2)] [(.ref b1)]))
  obtain ⟨fs, hr, hrun, hended, hRE⟩ := X5.leaveW hS5 (Nat.le_refl _) (v := some (.ref b1)) (fun h => by rw [Bd.returns] at h; cases h)
  refine ⟨_, _, retOut X5 hx Bd.returns rfl (Or.inr (Or.inr (Or.inr (Or.inr ⟨rfl, rfl, rfl⟩)))) (hb hby d46_18) hr, hrun, hended, hPost _ _ ⟨_, _, rfl, ?_, ?_, hRE.1, hRE.2.1, hRE.2.2.1, hRE.2.2.2.mono (by decide) (by decide)⟩⟩
  rotate_left
  · show CHr Z consts_1 s.vm s.heap T5.vm T5.heap
    rw [hh]
    exact C_w5.trans (CHv.at X5 hZ5 hEL C_w5.1)
  show Q46 Z p1 a2 s2 s3 c2 c3 h0 n0 _ T5.heap _
  exact ⟨N5, f_K_v5, _, _, rfl, E5x, F5a, F5b, F5c, F5d, TU_v5⟩
theorem pn_47 : plainName "java/lang/String" = true := by first | (simp [plainName, overriddenIn]; done) | decide +kernel
theorem ef_47 (m : MethodId) (x0 : Addr) (x1 : Addr) : entryFrame m #[(.ref x0), (.ref x1)] 3 = mkF m 0 #[.val (.ref x0), .val (.ref x1), .unset] [] := by first | (simp [entryFrame, mkF, argsToLocals, Value.category]; done) | rfl
def Q47 (Z : State) (a1 : Addr) (h0 : Heap) (n0 : Nat) (v : Option Value) (h : Heap) (L : List Loc) : Prop := v = some (.int (1 : Int32)) ∧ Fr n0 L ∧ h = h0
set_option maxRecDepth 65536 in
set_option maxHeartbeats 40000000 in
theorem rm47 (l : Launch) (Z : State) (a0 : Array Value) (hw : ∀ d ∈ tables_1, d.before a0 Z = true) (ws : List Jvm.Cond) (a1 : Addr) (h0 : Heap) (n0 : Nat) (Z0 : n0 ≤ h0.size)  :
    MetFree l (⟨"java/lang/String", "equals", "(Ljava/lang/Object;)Z"⟩ : MethodName) (head1 (Jvm.Cond.code (⟨"java/lang/String", "equals", "(Ljava/lang/Object;)Z"⟩ : MethodName) jdk_42_method_66_code 3 (some .boolean) :: ws) ({ frames := 0, cells := 0, slots := 0, locals := 0 } : Room)) (fun a U => a = #[(.ref a1), (.ref a1)] ∧ Z.Warmed39 U.vm ∧ U.heap = h0) (fun _ _ _ _ _ => True) (fun _ U o U' => ∃ v L, o = .returned v ∧ Q47 Z a1 h0 n0 v U'.heap L ∧ FrameEnd U o U' L ({ frames := 0, cells := 0, slots := 0, locals := 0 } : Room).cells ({ frames := 0, cells := 0, slots := 0, locals := 0 } : Room).slots) := by
  refine MetFree.of_bodySF (plainFor_of_name pn_47) hisR ?_
  intro p e s m args below meth c s₁ Bd hml0 hP hK
  obtain ⟨rfl, hZ, hh⟩ := hP
  have hx := Bd.exec
  have hby := Bd.bytes
  have hml : c.maxLocals = 3 := hml0
  have hown : s.vm.findClass "java/lang/String" = some m.cls := findClass_of_methodNamed Bd.named
  have hnm := (name_of_methodNamed Bd.named Bd.method).1
  have X0 : Stand p l e ({ frames := 0, cells := 0, slots := 0, locals := 0 } : Room) s m #[(.ref a1), (.ref a1)] below meth c s₁ [] 0 0 := Stand.of_body Bd
  have e0 : s₁.heap = h0 := by rw [← hh, Bd.state]; rfl
  have N0 := Fr.nil n0
  refine Gl.gen fun P hPost => ?_
  refine Gl.st (fun t k => castTop (ef_47 m a1 a1 ) k) ?_
  show Gl p e below P (s₁.setTop (mkF m 0 #[.val (.ref a1), .val (.ref a1), .unset] []))
  refine Gl.st (fun _ k => XS.aloadN X0.here hx rfl (hb hby d47_0) rfl rfl k) ?_
  show Gl p e below P (s₁.setTop (mkF m 1 #[.val (.ref a1), .val (.ref a1), .unset] [(.ref a1)]))
  refine Gl.st (fun _ k => XS.aloadN X0.here hx rfl (hb hby d47_1) rfl rfl k) ?_
  show Gl p e below P (s₁.setTop (mkF m 2 #[.val (.ref a1), .val (.ref a1), .unset] [(.ref a1), (.ref a1)]))
  refine Gl.st (fun _ k => Jvm.RoadKit.acmp (g := (mkF m 2 #[.val (.ref a1), .val (.ref a1), .unset] [(.ref a1), (.ref a1)])) X0 hx rfl rfl rfl (pc0 := 2) (pc' := 5) (same := true) rfl (hb hby d47_2) rfl (decide_eq_true rfl) (by decide) (by decide) k) ?_
  show Gl p e below P (s₁.setTop (mkF m 5 #[.val (.ref a1), .val (.ref a1), .unset] []))
  refine Gl.st (fun _ k => XS.iconst X0.here hx rfl (hb hby d47_5) k) ?_
  show Gl p e below P (s₁.setTop (mkF m 6 #[.val (.ref a1), .val (.ref a1), .unset] [(.int (1 : Int32))]))
  obtain ⟨fs, hr, hrun, hended, hW, hsame⟩ := X0.leave (v := some (.int (1 : Int32))) (fun h => by rw [Bd.returns] at h; cases h)
  refine ⟨_, _, retN X0 hx (t := .boolean) Bd.returns (by simp) (hb hby d47_6) hr, hrun, hended, hPost _ _ ⟨_, _, rfl, ?_, ⟨_, rfl⟩, hW, hsame.mono (by decide) (by decide)⟩⟩
  show Q47 Z a1 h0 n0 _ s₁.heap _
  rw [e0]
  exact ⟨rfl, N0, rfl⟩
theorem pn_0 : plainName "com/example/assort/assort/ResultOfPinLaw" = true := by first | (simp [plainName, overriddenIn]; done) | decide +kernel
theorem ef_0 (m : MethodId) (x0 : Int32) (x1 : Int32) (x2 : Int32) (x3 : Int32) : entryFrame m #[(.int x0), (.int x1), (.int x2), (.int x3)] maxLocals = mkF m 0 #[.val (.int x0), .val (.int x1), .val (.int x2), .val (.int x3), .unset, .unset, .unset, .unset] [] := by first | (simp [entryFrame, mkF, argsToLocals, Value.category, maxLocals]; done) | rfl
def Q0 (Z : State) (p1 : Int32) (p2 : Int32) (p3 : Int32) (p4 : Int32) (G1 : Int32) (h0 : Heap) (n0 : Nat) (v : Option Value) (h : Heap) (L : List Loc) : Prop := v = some (.int 1) ∧ Fr n0 L
set_option maxRecDepth 65536 in
set_option maxHeartbeats 40000000 in
theorem rm0 (l : Launch) (Z : State) (a0 : Array Value) (hw : ∀ d ∈ tables_1, d.before a0 Z = true) (ws : List Jvm.Cond) (p1 : Int32) (p2 : Int32) (p3 : Int32) (p4 : Int32) (G1 : Int32) (h0 : Heap) (n0 : Nat) (Z0 : n0 ≤ h0.size) (O2 : Sta Z Z.heap "java/lang/String" "COMPACT_STRINGS" "Z" (.int G1)) (P5 : ¬ (G1 = (0 : Int32))) (X00 : Old Z n0 h0) :
    MetFree l x (head1 (Jvm.Cond.code x code maxLocals ret :: ws) room_1) (fun a U => a = #[(.int p1), (.int p2), (.int p3), (.int p4)] ∧ Z.Warmed39 U.vm ∧ U.heap = h0 ∧ CHv Z consts_1 U.vm h0) (fun _ _ _ _ _ => True) (fun _ U o U' => ∃ v L, o = .returned v ∧ Q0 Z p1 p2 p3 p4 G1 h0 n0 v U'.heap L ∧ CHr Z consts_1 U.vm U.heap U'.vm U'.heap ∧ ReturnedEndW U o U' L 48 9408) := by
  refine MetFree.of_bodySF (plainFor_of_name pn_0) hisR ?_
  intro p e s m args below meth c s₁ Bd hml0 hP hK
  obtain ⟨rfl, hZ, hh, hC⟩ := hP
  have hx := Bd.exec
  have hby := Bd.bytes
  have hml : c.maxLocals = 8 := hml0
  have hown : s.vm.findClass "com/example/assort/assort/ResultOfPinLaw" = some m.cls := findClass_of_methodNamed Bd.named
  have hnm := (name_of_methodNamed Bd.named Bd.method).1
  have X0 : Stand p l e room_1 (s.setVm s.vm) m #[(.int p1), (.int p2), (.int p3), (.int p4)] below meth c s₁ [] 0 0 := Stand.of_body Bd
  have hS0 : s.Since s.vm 0 := (State.WarmedH.refl s).since 0
  have C0 : CHr Z consts_1 s.vm h0 s.vm h0 := CHr.refl hC
  have hZ0 : Z.Warmed39 (s.setVm s.vm).vm := hZ
  have hown0 : (s.setVm s.vm).vm.findClass "com/example/assort/assort/ResultOfPinLaw" = some m.cls := hown
  have hEL := own_EW hw
  have wS := own_wS hw
  have e0 : s₁.heap = h0 := by rw [← hh, Bd.state]; rfl
  have N0 := Fr.nil n0
  refine Gl.gen fun P hPost => ?_
  refine Gl.st (fun t k => castTop (ef_0 m p1 p2 p3 p4 ) k) ?_
  show Gl p e below P (s₁.setTop (mkF m 0 #[.val (.int p1), .val (.int p2), .val (.int p3), .val (.int p4), .unset, .unset, .unset, .unset] []))
  have hem : ∀ d ∈ StrChars.Road.wordsEmp, d.before a0 Z = true := fun d hd => hw d ((by decide +kernel : ∀ d ∈ StrChars.Road.wordsEmp, d ∈ tables_1) d hd)
  refine Gl.st (fun _ k => XS.iloadN X0.here hx rfl (hb hby at_0) rfl k) ?_
  show Gl p e below P (s₁.setTop (mkF m 1 #[.val (.int p1), .val (.int p2), .val (.int p3), .val (.int p4), .unset, .unset, .unset, .unset] [(.int p2)]))
  refine Gl.st (fun _ k => XS.iloadN X0.here hx rfl (hb hby at_1) rfl k) ?_
  show Gl p e below P (s₁.setTop (mkF m 2 #[.val (.int p1), .val (.int p2), .val (.int p3), .val (.int p4), .unset, .unset, .unset, .unset] [(.int p4), (.int p2)]))
  refine Gl.st (fun _ k => XS.iconst X0.here hx rfl (hb hby at_2) k) ?_
  show Gl p e below P (s₁.setTop (mkF m 3 #[.val (.int p1), .val (.int p2), .val (.int p3), .val (.int p4), .unset, .unset, .unset, .unset] [(.int (3 : Int32)), (.int p4), (.int p2)]))
  refine Gl.st (fun _ k => XS.iand X0.here hx rfl (hb hby at_3) rfl k) ?_
  show Gl p e below P (s₁.setTop (mkF m 4 #[.val (.int p1), .val (.int p2), .val (.int p3), .val (.int p4), .unset, .unset, .unset, .unset] [(.int (p4 &&& (3 : Int32))), (.int p2)]))
  obtain ⟨_, _, ⟨T1, L1, k1, n1⟩, -, X1, hs1, hg1, ⟨Lc1, hQ1, l1, y1, z1, Cn1⟩, st1⟩ := callSS X0 hx (y := (⟨"com/example/assort/assort/ResultOfPinLaw", "str", "(II)Ljava/lang/String;"⟩ : MethodName)) hown0 (mvT hZ0 (hw _ (List.mem_of_getElem? (i := 0) rfl))) (mvT hZ0 (hw _ (List.mem_of_getElem? (i := 1) rfl))) (mvT hZ0 (hw _ (List.mem_of_getElem? (i := 2) rfl))) (mvT hZ0 (hw _ (List.mem_of_getElem? (i := 3) rfl))) (by decide) (backOfSH (s := s) (W := 0) (rm36 l Z a0 hw [] p2 (p4 &&& (3 : Int32)) G1 h0 n0 Z0 O2 P5 X00) hZ0 (hw _ (List.mem_of_getElem? (i := 3) rfl)) (hw _ (List.mem_of_getElem? (i := 2) rfl)) (by decide) (by decide) hEL C0.1) (g := (mkF m 4 #[.val (.int p1), .val (.int p2), .val (.int p3), .val (.int p4), .unset, .unset, .unset, .unset] [(.int (p4 &&& (3 : Int32))), (.int p2)])) rfl (by rw [hml]; rfl) (argsL := [(.int p2), (.int (p4 &&& (3 : Int32)))]) (rest := []) (lenOf pd_9 rfl) rfl (by show 2 * 0 + _ ≤ _; exact Nat.le_of_eq rfl) (hb hby at_4) (fun _ _ => ⟨rfl, e0, (by decide : 0 + 6 ≤ _), (by decide : 0 + 12 ≤ _)⟩)
  dsimp only [Pt.U, Pt.locs, Pt.cells, Pt.slots] at X1 hs1 hg1 l1 y1 z1 st1 hQ1 Cn1
  subst l1 y1 z1
  obtain ⟨N1q, K1, s1, rfl, Ts1⟩ := hQ1
  have X1 : Stand p l e room_1 (s.setVm T1.vm) m _ below meth c T1 _ _ _ := X1
  have N1 := Fr.app N0 N1q
  have Z0_v1 : n0 ≤ T1.heap.size := Nat.le_trans Z0 K1.1
  have f_hk_v1 : 0 ≤ T1.heap.size := Nat.le_trans (Nat.zero_le _) K1.1
  have X00_v1 : Old Z n0 T1.heap := X00.keep K1 all0
  have hS1 : s.Since T1.vm T1.heap.size := foldS hS0 (by rw [e0]; exact (Nat.zero_le _)) hs1 hg1
  have hZ1 : Z.Warmed39 (s.setVm T1.vm).vm := State.Warmed39.trans (t := s.setVm s.vm) hZ0 hs1.1
  have hown1 : (s.setVm T1.vm).vm.findClass "com/example/assort/assort/ResultOfPinLaw" = some m.cls := by rw [show (s.setVm T1.vm).vm = T1.vm from rfl, hs1.1.alike.findClass]; exact hown0
  have C_w1 : CHr Z consts_1 s.vm h0 T1.vm T1.heap := C0.trans Cn1
  refine Gl.tr st1 ?_
  show Gl p e below P (T1.setTop (mkF m 7 #[.val (.int p1), .val (.int p2), .val (.int p3), .val (.int p4), .unset, .unset, .unset, .unset] [(.ref s1)]))
  refine Gl.st (fun _ k => XS.astore X1.here hx rfl (hb hby at_7) rfl rfl (l' := #[.val (.int p1), .val (.int p2), .val (.int p3), .val (.int p4), .val (.ref s1), .unset, .unset, .unset]) rfl k) ?_
  show Gl p e below P (T1.setTop (mkF m 9 #[.val (.int p1), .val (.int p2), .val (.int p3), .val (.int p4), .val (.ref s1), .unset, .unset, .unset] []))
  refine Gl.st (fun _ k => XS.iloadN X1.here hx rfl (hb hby at_9) rfl k) ?_
  show Gl p e below P (T1.setTop (mkF m 10 #[.val (.int p1), .val (.int p2), .val (.int p3), .val (.int p4), .val (.ref s1), .unset, .unset, .unset] [(.int p3)]))
  refine Gl.st (fun _ k => XS.iloadN X1.here hx rfl (hb hby at_10) rfl k) ?_
  show Gl p e below P (T1.setTop (mkF m 11 #[.val (.int p1), .val (.int p2), .val (.int p3), .val (.int p4), .val (.ref s1), .unset, .unset, .unset] [(.int p4), (.int p3)]))
  refine Gl.st (fun _ k => XS.iconst X1.here hx rfl (hb hby at_11) k) ?_
  show Gl p e below P (T1.setTop (mkF m 12 #[.val (.int p1), .val (.int p2), .val (.int p3), .val (.int p4), .val (.ref s1), .unset, .unset, .unset] [(.int (2 : Int32)), (.int p4), (.int p3)]))
  refine Gl.st (fun _ k => XS.iushr X1.here hx rfl (hb hby at_12) rfl k) ?_
  show Gl p e below P (T1.setTop (mkF m 13 #[.val (.int p1), .val (.int p2), .val (.int p3), .val (.int p4), .val (.ref s1), .unset, .unset, .unset] [(.int ((p4.toUInt32 >>> ((2 : Int32) &&& 31).toUInt32).toInt32)), (.int p3)]))
  refine Gl.st (fun _ k => XS.iconst X1.here hx rfl (hb hby at_13) k) ?_
  show Gl p e below P (T1.setTop (mkF m 14 #[.val (.int p1), .val (.int p2), .val (.int p3), .val (.int p4), .val (.ref s1), .unset, .unset, .unset] [(.int (3 : Int32)), (.int ((p4.toUInt32 >>> ((2 : Int32) &&& 31).toUInt32).toInt32)), (.int p3)]))
  refine Gl.st (fun _ k => XS.iand X1.here hx rfl (hb hby at_14) rfl k) ?_
  show Gl p e below P (T1.setTop (mkF m 15 #[.val (.int p1), .val (.int p2), .val (.int p3), .val (.int p4), .val (.ref s1), .unset, .unset, .unset] [(.int (((p4.toUInt32 >>> ((2 : Int32) &&& 31).toUInt32).toInt32) &&& (3 : Int32))), (.int p3)]))
  obtain ⟨_, _, ⟨T2, L2, k2, n2⟩, -, X2, hs2, hg2, ⟨Lc2, hQ2, l2, y2, z2, Cn2⟩, st2⟩ := callSS X1 hx (y := (⟨"com/example/assort/assort/ResultOfPinLaw", "str", "(II)Ljava/lang/String;"⟩ : MethodName)) hown1 (mvT hZ1 (hw _ (List.mem_of_getElem? (i := 0) rfl))) (mvT hZ1 (hw _ (List.mem_of_getElem? (i := 1) rfl))) (mvT hZ1 (hw _ (List.mem_of_getElem? (i := 2) rfl))) (mvT hZ1 (hw _ (List.mem_of_getElem? (i := 3) rfl))) (by decide) (backOfSH (s := s) (W := 0) (rm36 l Z a0 hw [] p3 (((p4.toUInt32 >>> ((2 : Int32) &&& 31).toUInt32).toInt32) &&& (3 : Int32)) G1 T1.heap n0 Z0_v1 O2 P5 X00_v1) hZ1 (hw _ (List.mem_of_getElem? (i := 3) rfl)) (hw _ (List.mem_of_getElem? (i := 2) rfl)) (by decide) (by decide) hEL C_w1.1) (g := (mkF m 15 #[.val (.int p1), .val (.int p2), .val (.int p3), .val (.int p4), .val (.ref s1), .unset, .unset, .unset] [(.int (((p4.toUInt32 >>> ((2 : Int32) &&& 31).toUInt32).toInt32) &&& (3 : Int32))), (.int p3)])) rfl (by rw [hml]; rfl) (argsL := [(.int p3), (.int (((p4.toUInt32 >>> ((2 : Int32) &&& 31).toUInt32).toInt32) &&& (3 : Int32)))]) (rest := []) (lenOf pd_9 rfl) rfl (by show 2 * 0 + _ ≤ _; exact Nat.le_of_eq rfl) (hb hby at_15) (fun _ _ => ⟨rfl, rfl, (by decide : 6 + 6 ≤ _), (by decide : 12 + 12 ≤ _)⟩)
  dsimp only [Pt.U, Pt.locs, Pt.cells, Pt.slots] at X2 hs2 hg2 l2 y2 z2 st2 hQ2 Cn2
  subst l2 y2 z2
  obtain ⟨N2q, K2, s2, rfl, Ts2⟩ := hQ2
  have X2 : Stand p l e room_1 (s.setVm T2.vm) m _ below meth c T2 _ _ _ := X2
  have N2 := Fr.app N1 N2q
  have Z0_v2 : n0 ≤ T2.heap.size := Nat.le_trans Z0_v1 K2.1
  have f_hk_v2 : T1.heap.size ≤ T2.heap.size := Nat.le_trans (Nat.le_refl _) K2.1
  have X00_v2 : Old Z n0 T2.heap := X00_v1.keep K2 all0
  have Ts1_v2 : own_Str Z T2.heap s1 (own_cs p2 (p4 &&& (3 : Int32))) := own_Str_keep0 K2 Ts1
  have hS2 : s.Since T2.vm T2.heap.size := foldS hS1 (Nat.le_refl _) hs2 hg2
  have hZ2 : Z.Warmed39 (s.setVm T2.vm).vm := State.Warmed39.trans (t := s.setVm T1.vm) hZ1 hs2.1
  have hown2 : (s.setVm T2.vm).vm.findClass "com/example/assort/assort/ResultOfPinLaw" = some m.cls := by rw [show (s.setVm T2.vm).vm = T2.vm from rfl, hs2.1.alike.findClass]; exact hown1
  have C_w2 : CHr Z consts_1 s.vm h0 T2.vm T2.heap := C_w1.trans Cn2
  refine Gl.tr st2 ?_
  show Gl p e below P (T2.setTop (mkF m 18 #[.val (.int p1), .val (.int p2), .val (.int p3), .val (.int p4), .val (.ref s1), .unset, .unset, .unset] [(.ref s2)]))
  refine Gl.st (fun _ k => XS.astore X2.here hx rfl (hb hby at_18) rfl rfl (l' := #[.val (.int p1), .val (.int p2), .val (.int p3), .val (.int p4), .val (.ref s1), .val (.ref s2), .unset, .unset]) rfl k) ?_
  show Gl p e below P (T2.setTop (mkF m 20 #[.val (.int p1), .val (.int p2), .val (.int p3), .val (.int p4), .val (.ref s1), .val (.ref s2), .unset, .unset] []))
  obtain ⟨T3, h3, X3, e3, E3, A3, D3, -, st3⟩ := newO X2 hx hZ2 hown2 (hw _ (List.mem_of_getElem? (i := 41) rfl)) (hw _ (List.mem_of_getElem? (i := 42) rfl)) (hw _ (List.mem_of_getElem? (i := 43) rfl)) rfl (g := (mkF m 20 #[.val (.int p1), .val (.int p2), .val (.int p3), .val (.int p4), .val (.ref s1), .val (.ref s2), .unset, .unset] [])) rfl (hb hby at_20) (by decide) (by decide)
  obtain ⟨b3, g3⟩ : ∃ z, z = T2.heap.size := ⟨_, rfl⟩
  rw [← g3] at A3 D3 st3
  refine Gl.st st3 ?_
  have g_b3 : n0 ≤ b3 := Nat.le_trans Z0_v2 (Nat.le_of_eq g3.symm)
  have ne_s1_b3 : s1 ≠ b3 := Nat.ne_of_lt (Nat.lt_of_lt_of_le (own_Str_exa Ts1_v2).lt (Nat.le_of_eq g3.symm))
  have ne_s2_b3 : s2 ≠ b3 := Nat.ne_of_lt (Nat.lt_of_lt_of_le (own_Str_exa Ts2).lt (Nat.le_of_eq g3.symm))
  have C_v3 : CHr Z consts_1 s.vm h0 T2.vm h3 := C_w2.trans (CHr.ext E3 C_w2.1)
  have Z0_v3 : n0 ≤ h3.size := Nat.le_trans Z0_v2 E3.1
  have f_hk_v3 : T2.heap.size ≤ h3.size := Nat.le_trans (Nat.le_refl _) E3.1
  have X00_v3 : Old Z n0 h3 := X00_v2.ext E3
  have Ts1_v3 : own_Str Z h3 s1 (own_cs p2 (p4 &&& (3 : Int32))) := own_Str_ext E3 Ts1_v2
  have Ts2_v3 : own_Str Z h3 s2 (own_cs p3 (((p4.toUInt32 >>> ((2 : Int32) &&& 31).toUInt32).toInt32) &&& (3 : Int32))) := own_Str_ext E3 Ts2
  have F_docno_b3 : Fld Z h3 b3 "com/example/assort/assort/TrecDocument" "docno" "Ljava/lang/String;" .null := D3 (Or.inr (hw _ (List.mem_of_getElem? (i := 56) rfl))) (ty := (.object "java/lang/String")) (by decide)
  have F_title_b3 : Fld Z h3 b3 "com/example/assort/assort/TrecDocument" "title" "Ljava/lang/String;" .null := D3 (Or.inr (hw _ (List.mem_of_getElem? (i := 59) rfl))) (ty := (.object "java/lang/String")) (by decide)
  have F_text_b3 : Fld Z h3 b3 "com/example/assort/assort/TrecDocument" "text" "Ljava/lang/String;" .null := D3 (Or.inr (hw _ (List.mem_of_getElem? (i := 62) rfl))) (ty := (.object "java/lang/String")) (by decide)
  show Gl p e below P (T3.setTop (mkF m 23 #[.val (.int p1), .val (.int p2), .val (.int p3), .val (.int p4), .val (.ref s1), .val (.ref s2), .unset, .unset] [(.ref b3)]))
  refine Gl.st (fun _ k => XS.dup X3.here hx rfl (hb hby at_23) rfl rfl k) ?_
  show Gl p e below P (T3.setTop (mkF m 24 #[.val (.int p1), .val (.int p2), .val (.int p3), .val (.int p4), .val (.ref s1), .val (.ref s2), .unset, .unset] [(.ref b3), (.ref b3)]))
  obtain ⟨la4, T4, h4, k14, lb4, lk4, X4, e4, E4, hS4, hk4, hZ4, hown4, LE4, LC4, LV4, LA4, lt4, mt4, Cn4, -, hne4, st4⟩ := ldcCH X3 hx hZ2 hown2 (hw _ (List.mem_of_getElem? (i := 44) rfl)) wS e3 hS2 f_hk_v3 hEL (by decide) C_v3.1 (vs := [(.int (100 : Int32))]) (z := (1 : Int32)) ⟨by decide, by decide⟩ (by decide) rfl (g := (mkF m 24 #[.val (.int p1), .val (.int p2), .val (.int p3), .val (.int p4), .val (.ref s1), .val (.ref s2), .unset, .unset] [(.ref b3), (.ref b3)])) rfl (hb hby at_24) (n := 4) (by decide) (by decide) (by decide) (by decide)
  have Z0_v4 : n0 ≤ h4.size := Nat.le_trans Z0_v3 E4.1
  have f_hk_v4 : T2.heap.size ≤ h4.size := Nat.le_trans f_hk_v3 E4.1
  have X00_v4 : Old Z n0 h4 := X00_v3.ext E4
  have Ts1_v4 : own_Str Z h4 s1 (own_cs p2 (p4 &&& (3 : Int32))) := own_Str_ext E4 Ts1_v3
  have Ts2_v4 : own_Str Z h4 s2 (own_cs p3 (((p4.toUInt32 >>> ((2 : Int32) &&& 31).toUInt32).toInt32) &&& (3 : Int32))) := own_Str_ext E4 Ts2_v3
  have A3_v4 : Exa Z h4 b3 "com/example/assort/assort/TrecDocument" := A3.ext E4
  have F_docno_b3_v4 : Fld Z h4 b3 "com/example/assort/assort/TrecDocument" "docno" "Ljava/lang/String;" .null := F_docno_b3.ext E4
  have F_title_b3_v4 : Fld Z h4 b3 "com/example/assort/assort/TrecDocument" "title" "Ljava/lang/String;" .null := F_title_b3.ext E4
  have F_text_b3_v4 : Fld Z h4 b3 "com/example/assort/assort/TrecDocument" "text" "Ljava/lang/String;" .null := F_text_b3.ext E4
  have C_w4 : CHr Z consts_1 s.vm h0 T4.vm h4 := C_v3.trans Cn4
  obtain ⟨ne_b3_la4, ne_b3_lb4⟩ := hne4 b3 (Safe.exa hZ4.alike A3_v4 (by decide) (by decide))
  refine Gl.st st4 ?_
  show Gl p e below P (T4.setTop (mkF m 26 #[.val (.int p1), .val (.int p2), .val (.int p3), .val (.int p4), .val (.ref s1), .val (.ref s2), .unset, .unset] [(.ref la4), (.ref b3), (.ref b3)]))
  refine Gl.st (fun _ k => XS.aload X4.here hx rfl (hb hby at_26) rfl rfl k) ?_
  show Gl p e below P (T4.setTop (mkF m 28 #[.val (.int p1), .val (.int p2), .val (.int p3), .val (.int p4), .val (.ref s1), .val (.ref s2), .unset, .unset] [(.ref s1), (.ref la4), (.ref b3), (.ref b3)]))
  refine Gl.st (fun _ k => XS.aload X4.here hx rfl (hb hby at_28) rfl rfl k) ?_
  show Gl p e below P (T4.setTop (mkF m 30 #[.val (.int p1), .val (.int p2), .val (.int p3), .val (.int p4), .val (.ref s1), .val (.ref s2), .unset, .unset] [(.ref s2), (.ref s1), (.ref la4), (.ref b3), (.ref b3)]))
  obtain ⟨_, _, ⟨T5, L5, k5, n5⟩, -, X5, hs5, hg5, ⟨Lc5, hQ5, l5, y5, z5, Cn5⟩, st5⟩ := X4.specialBackS hx (y := (⟨"com/example/assort/assort/TrecDocument", "<init>", "(Ljava/lang/String;Ljava/lang/String;Ljava/lang/String;)V"⟩ : MethodName)) rfl hown4 (mvT hZ4 (hw _ (List.mem_of_getElem? (i := 45) rfl))) (mvT hZ4 (hw _ (List.mem_of_getElem? (i := 46) rfl))) (mvT hZ4 (hw _ (List.mem_of_getElem? (i := 47) rfl))) (by decide) (backOfSH (s := s) (W := 1) (rm38 l Z a0 hw [] b3 la4 s1 s2 h4 n0 Z0_v4 A3_v4 F_docno_b3_v4 F_title_b3_v4 F_text_b3_v4 LE4 (own_Str_exa Ts1_v4) (own_Str_exa Ts2_v4) g_b3) hZ4 (hw _ (List.mem_of_getElem? (i := 47) rfl)) (hw _ (List.mem_of_getElem? (i := 43) rfl)) (by decide) (by decide) hEL C_w4.1) (g := (mkF m 30 #[.val (.int p1), .val (.int p2), .val (.int p3), .val (.int p4), .val (.ref s1), .val (.ref s2), .unset, .unset] [(.ref s2), (.ref s1), (.ref la4), (.ref b3), (.ref b3)])) rfl (by rw [hml]; rfl) (Steps.refl _) (a := b3) (argsL := [(.ref la4), (.ref s1), (.ref s2)]) (rest := [(.ref b3)]) (lenOf pd_10 rfl) rfl (by show 2 * 0 + _ ≤ _; exact Nat.le_of_eq rfl) (hb hby at_30) (fun _ _ => ⟨rfl, e4, (by decide : 15 + 6 ≤ _), (by decide : 35 + 68 ≤ _)⟩)
  dsimp only [Pt.U, Pt.locs, Pt.cells, Pt.slots] at X5 hs5 hg5 l5 y5 z5 st5 hQ5 Cn5
  subst l5 y5 z5
  obtain ⟨rfl, N5q, K5, E5x, F5a, F5b, F5c⟩ := hQ5
  have X5 : Stand p l e room_1 (s.setVm T5.vm) m _ below meth c T5 _ _ _ := X5
  have N5 := Fr.app N2 N5q
  have Z0_v5 : n0 ≤ T5.heap.size := Nat.le_trans Z0_v4 K5.1
  have hk4_v5 : k14 ≤ T5.heap.size := Nat.le_trans hk4 K5.1
  have X00_v5 : Old Z n0 T5.heap := X00_v4.keep K5 (allS g_b3 all0)
  have Ts1_v5 : own_Str Z T5.heap s1 (own_cs p2 (p4 &&& (3 : Int32))) := own_Str_keep1 K5 A3_v4 (by decide) (hw _ (List.mem_of_getElem? (i := 42) rfl)) Ts1_v4
  have Ts2_v5 : own_Str Z T5.heap s2 (own_cs p3 (((p4.toUInt32 >>> ((2 : Int32) &&& 31).toUInt32).toInt32) &&& (3 : Int32))) := own_Str_keep1 K5 A3_v4 (by decide) (hw _ (List.mem_of_getElem? (i := 42) rfl)) Ts2_v4
  have A3_v5 : Exa Z T5.heap b3 "com/example/assort/assort/TrecDocument" := A3_v4.keep K5
  have hS5 : s.Since T5.vm T5.heap.size := foldS hS4 (by rw [e4]; exact hk4) hs5 hg5
  have hZ5 : Z.Warmed39 (s.setVm T5.vm).vm := State.Warmed39.trans (t := s.setVm T4.vm) hZ4 hs5.1
  have hown5 : (s.setVm T5.vm).vm.findClass "com/example/assort/assort/ResultOfPinLaw" = some m.cls := by rw [show (s.setVm T5.vm).vm = T5.vm from rfl, hs5.1.alike.findClass]; exact hown4
  have C_w5 : CHr Z consts_1 s.vm h0 T5.vm T5.heap := C_w4.trans Cn5
  refine Gl.tr st5 ?_
  show Gl p e below P (T5.setTop (mkF m 33 #[.val (.int p1), .val (.int p2), .val (.int p3), .val (.int p4), .val (.ref s1), .val (.ref s2), .unset, .unset] [(.ref b3)]))
  refine Gl.st (fun _ k => XS.astore X5.here hx rfl (hb hby at_33) rfl rfl (l' := #[.val (.int p1), .val (.int p2), .val (.int p3), .val (.int p4), .val (.ref s1), .val (.ref s2), .val (.ref b3), .unset]) rfl k) ?_
  show Gl p e below P (T5.setTop (mkF m 35 #[.val (.int p1), .val (.int p2), .val (.int p3), .val (.int p4), .val (.ref s1), .val (.ref s2), .val (.ref b3), .unset] []))
  refine Gl.st (fun _ k => XS.iloadN X5.here hx rfl (hb hby at_35) rfl k) ?_
  show Gl p e below P (T5.setTop (mkF m 36 #[.val (.int p1), .val (.int p2), .val (.int p3), .val (.int p4), .val (.ref s1), .val (.ref s2), .val (.ref b3), .unset] [(.int p1)]))
  refine Gl.st (fun _ k => XS.aload X5.here hx rfl (hb hby at_36) rfl rfl k) ?_
  show Gl p e below P (T5.setTop (mkF m 38 #[.val (.int p1), .val (.int p2), .val (.int p3), .val (.int p4), .val (.ref s1), .val (.ref s2), .val (.ref b3), .unset] [(.ref b3), (.int p1)]))
  obtain ⟨_, _, ⟨T6, L6, k6, n6⟩, -, X6, hs6, hg6, ⟨Lc6, hQ6, l6, y6, z6, Cn6⟩, st6⟩ := callSS X5 hx (y := (⟨"com/example/assort/assort/Result", "of", "(ILcom/example/assort/assort/TrecDocument;)Lcom/example/assort/assort/Result;"⟩ : MethodName)) hown5 (mvT hZ5 (hw _ (List.mem_of_getElem? (i := 63) rfl))) (mvT hZ5 (hw _ (List.mem_of_getElem? (i := 64) rfl))) (mvT hZ5 (hw _ (List.mem_of_getElem? (i := 65) rfl))) (mvT hZ5 (hw _ (List.mem_of_getElem? (i := 66) rfl))) (by decide) (backOfSH (s := s) (W := 0) (rm46 l Z a0 hw [] p1 b3 s1 s2 (own_cs p2 (p4 &&& (3 : Int32))) (own_cs p3 (((p4.toUInt32 >>> ((2 : Int32) &&& 31).toUInt32).toInt32) &&& (3 : Int32))) T5.heap n0 Z0_v5 A3_v5 F5b F5c Ts1_v5 Ts2_v5) hZ5 (hw _ (List.mem_of_getElem? (i := 66) rfl)) (hw _ (List.mem_of_getElem? (i := 65) rfl)) (by decide) (by decide) hEL C_w5.1) (g := (mkF m 38 #[.val (.int p1), .val (.int p2), .val (.int p3), .val (.int p4), .val (.ref s1), .val (.ref s2), .val (.ref b3), .unset] [(.ref b3), (.int p1)])) rfl (by rw [hml]; rfl) (argsL := [(.int p1), (.ref b3)]) (rest := []) (lenOf pd_11 rfl) rfl (by show 2 * 0 + _ ≤ _; exact Nat.le_of_eq rfl) (hb hby at_38) (fun _ _ => ⟨rfl, rfl, (by decide : 21 + 9 ≤ _), (by decide : 103 + 80 ≤ _)⟩)
  dsimp only [Pt.U, Pt.locs, Pt.cells, Pt.slots] at X6 hs6 hg6 l6 y6 z6 st6 hQ6 Cn6
  subst l6 y6 z6
  obtain ⟨N6q, K6, br, u, rfl, Er, Fr1, Fr2, Fr3, Fr4, Tu⟩ := hQ6
  have X6 : Stand p l e room_1 (s.setVm T6.vm) m _ below meth c T6 _ _ _ := X6
  have N6 := Fr.app N5 N6q
  have Z0_v6 : n0 ≤ T6.heap.size := Nat.le_trans Z0_v5 K6.1
  have f_hk_v6 : T5.heap.size ≤ T6.heap.size := Nat.le_trans (Nat.le_refl _) K6.1
  have X00_v6 : Old Z n0 T6.heap := X00_v5.keep K6 all0
  have Ts1_v6 : own_Str Z T6.heap s1 (own_cs p2 (p4 &&& (3 : Int32))) := own_Str_keep0 K6 Ts1_v5
  have Ts2_v6 : own_Str Z T6.heap s2 (own_cs p3 (((p4.toUInt32 >>> ((2 : Int32) &&& 31).toUInt32).toInt32) &&& (3 : Int32))) := own_Str_keep0 K6 Ts2_v5
  have A3_v6 : Exa Z T6.heap b3 "com/example/assort/assort/TrecDocument" := A3_v5.keep K6
  have F5b_v6 : Fld Z T6.heap b3 "com/example/assort/assort/TrecDocument" "title" "Ljava/lang/String;" (.ref s1) := F5b.keep K6 nin0
  have F5c_v6 : Fld Z T6.heap b3 "com/example/assort/assort/TrecDocument" "text" "Ljava/lang/String;" (.ref s2) := F5c.keep K6 nin0
  have hS6 : s.Since T6.vm T6.heap.size := foldS hS5 (Nat.le_refl _) hs6 hg6
  have hZ6 : Z.Warmed39 (s.setVm T6.vm).vm := State.Warmed39.trans (t := s.setVm T5.vm) hZ5 hs6.1
  have hown6 : (s.setVm T6.vm).vm.findClass "com/example/assort/assort/ResultOfPinLaw" = some m.cls := by rw [show (s.setVm T6.vm).vm = T6.vm from rfl, hs6.1.alike.findClass]; exact hown5
  have C_w6 : CHr Z consts_1 s.vm h0 T6.vm T6.heap := C_w5.trans Cn6
  refine Gl.tr st6 ?_
  show Gl p e below P (T6.setTop (mkF m 41 #[.val (.int p1), .val (.int p2), .val (.int p3), .val (.int p4), .val (.ref s1), .val (.ref s2), .val (.ref b3), .unset] [(.ref br)]))
  obtain ⟨hp1, hl1, t1, kb1, SE1, SC1, SV1, SA1⟩ := id Ts1_v6
  have cd1 : StrChars.Road.CodA (own_cs p2 (p4 &&& (3 : Int32))) 0 (Int32.ofNat ((own_cs p2 (p4 &&& (3 : Int32))) : List Int32).length) ((((own_cs p2 (p4 &&& (3 : Int32))) : List Int32).map fun c => c.toInt8.toInt32).map Value.int) := StrChars.Road.codOf rfl (fun c hc => (hp1 c hc).2)
  have bd1 := own_up _ hp1
  obtain ⟨hp2, hl2, t2, kb2, SE2, SC2, SV2, SA2⟩ := id Ts2_v6
  have cd2 : StrChars.Road.CodA (own_cs p3 (((p4.toUInt32 >>> ((2 : Int32) &&& 31).toUInt32).toInt32) &&& (3 : Int32))) 0 (Int32.ofNat ((own_cs p3 (((p4.toUInt32 >>> ((2 : Int32) &&& 31).toUInt32).toInt32) &&& (3 : Int32))) : List Int32).length) ((((own_cs p3 (((p4.toUInt32 >>> ((2 : Int32) &&& 31).toUInt32).toInt32) &&& (3 : Int32))) : List Int32).map fun c => c.toInt8.toInt32).map Value.int) := StrChars.Road.codOf rfl (fun c hc => (hp2 c hc).2)
  have bd2 := own_up _ hp2
  obtain ⟨hp3, hl3, t3, kb3, SE3, SC3, SV3, SA3⟩ := id Tu
  have cd3 : StrChars.Road.CodA [] 0 (Int32.ofNat ([] : List Int32).length) ((([] : List Int32).map fun c => c.toInt8.toInt32).map Value.int) := StrChars.Road.codOf rfl (fun c hc => (hp3 c hc).2)
  have bd3 := own_up _ hp3
  refine Gl.st (fun _ k => XS.astore X6.here hx rfl (hb hby at_41) rfl rfl (l' := #[.val (.int p1), .val (.int p2), .val (.int p3), .val (.int p4), .val (.ref s1), .val (.ref s2), .val (.ref b3), .val (.ref br)]) rfl k) ?_
  show Gl p e below P (T6.setTop (mkF m 43 #[.val (.int p1), .val (.int p2), .val (.int p3), .val (.int p4), .val (.ref s1), .val (.ref s2), .val (.ref b3), .val (.ref br)] []))
  refine Gl.st (fun _ k => XS.aload X6.here hx rfl (hb hby at_43) rfl rfl k) ?_
  show Gl p e below P (T6.setTop (mkF m 45 #[.val (.int p1), .val (.int p2), .val (.int p3), .val (.int p4), .val (.ref s1), .val (.ref s2), .val (.ref b3), .val (.ref br)] [(.ref br)]))
  obtain ⟨cq7, kq7, q7a, q7b, q7c⟩ := isOf hZ6 rfl Er
  obtain ⟨_, _, ⟨T7, L7, k7, n7⟩, -, X7, ⟨Lc7, hQ7, l7, y7, z7⟩, st7⟩ := X6.virtualBack hx (y := (⟨"com/example/assort/assort/Result", "rank", "()I"⟩ : MethodName)) (z := (⟨"com/example/assort/assort/Result", "rank", "()I"⟩ : MethodName)) hown6 (mvT hZ6 (hw _ (List.mem_of_getElem? (i := 97) rfl))) (mvT hZ6 (hw _ (List.mem_of_getElem? (i := 98) rfl))) (notFace_of_selects (args := #[]) (mvT hZ6 (hw _ (List.mem_of_getElem? (i := 100) rfl)))) (mvT hZ6 (hw _ (List.mem_of_getElem? (i := 100) rfl))) (mvT hZ6 (hw _ (List.mem_of_getElem? (i := 99) rfl))) (by decide) (backOf (W := 0) (rm42 l Z a0 hw [] br p1 T6.heap n0 Z0_v6 Fr1) hZ6 (hw _ (List.mem_of_getElem? (i := 101) rfl)) (hw _ (List.mem_of_getElem? (i := 65) rfl)) (by decide) (by decide)) q7a q7c (g := (mkF m 45 #[.val (.int p1), .val (.int p2), .val (.int p3), .val (.int p4), .val (.ref s1), .val (.ref s2), .val (.ref b3), .val (.ref br)] [(.ref br)])) rfl (by rw [hml]; rfl) (Steps.refl _) (argsL := []) (rest := []) (lenOf pd_12 rfl) rfl (by show 2 * 0 + _ ≤ _; exact Nat.le_of_eq rfl) (hb hby at_45) (fun _ _ => ⟨rfl, rfl, (by decide : 30 + 0 ≤ _), (by decide : 183 + 0 ≤ _)⟩)
  dsimp only [Pt.U, Pt.locs, Pt.cells, Pt.slots] at X7 l7 y7 z7 st7 hQ7
  subst l7 y7 z7
  obtain ⟨rfl, N7q, e7⟩ := hQ7
  have N7 := Fr.app N6 N7q
  refine Gl.tr st7 ?_
  show Gl p e below P (T7.setTop (mkF m 48 #[.val (.int p1), .val (.int p2), .val (.int p3), .val (.int p4), .val (.ref s1), .val (.ref s2), .val (.ref b3), .val (.ref br)] [(.int p1)]))
  refine Gl.st (fun _ k => XS.iloadN X7.here hx rfl (hb hby at_48) rfl k) ?_
  show Gl p e below P (T7.setTop (mkF m 49 #[.val (.int p1), .val (.int p2), .val (.int p3), .val (.int p4), .val (.ref s1), .val (.ref s2), .val (.ref b3), .val (.ref br)] [(.int p1), (.int p1)]))
  refine Gl.st (fun _ k => XS.icmpNo X7.here hx rfl (hb hby at_49) rfl (teq (rfl : p1 = p1)).2 k) ?_
  show Gl p e below P (T7.setTop (mkF m 52 #[.val (.int p1), .val (.int p2), .val (.int p3), .val (.int p4), .val (.ref s1), .val (.ref s2), .val (.ref b3), .val (.ref br)] []))
  refine Gl.st (fun _ k => XS.aload X7.here hx rfl (hb hby at_52) rfl rfl k) ?_
  show Gl p e below P (T7.setTop (mkF m 54 #[.val (.int p1), .val (.int p2), .val (.int p3), .val (.int p4), .val (.ref s1), .val (.ref s2), .val (.ref b3), .val (.ref br)] [(.ref br)]))
  obtain ⟨cq8, kq8, q8a, q8b, q8c⟩ := isOf hZ6 e7 Er
  obtain ⟨_, _, ⟨T8, L8, k8, n8⟩, -, X8, ⟨Lc8, hQ8, l8, y8, z8⟩, st8⟩ := X7.virtualBack hx (y := (⟨"com/example/assort/assort/Result", "title", "()Ljava/lang/String;"⟩ : MethodName)) (z := (⟨"com/example/assort/assort/Result", "title", "()Ljava/lang/String;"⟩ : MethodName)) hown6 (mvT hZ6 (hw _ (List.mem_of_getElem? (i := 102) rfl))) (mvT hZ6 (hw _ (List.mem_of_getElem? (i := 103) rfl))) (notFace_of_selects (args := #[]) (mvT hZ6 (hw _ (List.mem_of_getElem? (i := 105) rfl)))) (mvT hZ6 (hw _ (List.mem_of_getElem? (i := 105) rfl))) (mvT hZ6 (hw _ (List.mem_of_getElem? (i := 104) rfl))) (by decide) (backOf (W := 0) (rm43 l Z a0 hw [] br s1 T6.heap n0 Z0_v6 Fr2) hZ6 (hw _ (List.mem_of_getElem? (i := 106) rfl)) (hw _ (List.mem_of_getElem? (i := 65) rfl)) (by decide) (by decide)) q8a q8c (g := (mkF m 54 #[.val (.int p1), .val (.int p2), .val (.int p3), .val (.int p4), .val (.ref s1), .val (.ref s2), .val (.ref b3), .val (.ref br)] [(.ref br)])) rfl (by rw [hml]; rfl) (Steps.refl _) (argsL := []) (rest := []) (lenOf pd_7 rfl) rfl (by show 2 * 0 + _ ≤ _; exact Nat.le_of_eq rfl) (hb hby at_54) (fun _ _ => ⟨rfl, e7, (by decide : 30 + 0 ≤ _), (by decide : 183 + 0 ≤ _)⟩)
  dsimp only [Pt.U, Pt.locs, Pt.cells, Pt.slots] at X8 l8 y8 z8 st8 hQ8
  subst l8 y8 z8
  obtain ⟨rfl, N8q, e8⟩ := hQ8
  have N8 := Fr.app N7 N8q
  refine Gl.tr st8 ?_
  show Gl p e below P (T8.setTop (mkF m 57 #[.val (.int p1), .val (.int p2), .val (.int p3), .val (.int p4), .val (.ref s1), .val (.ref s2), .val (.ref b3), .val (.ref br)] [(.ref s1)]))
  refine Gl.st (fun _ k => XS.aload X8.here hx rfl (hb hby at_57) rfl rfl k) ?_
  show Gl p e below P (T8.setTop (mkF m 59 #[.val (.int p1), .val (.int p2), .val (.int p3), .val (.int p4), .val (.ref s1), .val (.ref s2), .val (.ref b3), .val (.ref br)] [(.ref s1), (.ref s1)]))
  obtain ⟨cq9, kq9, q9a, q9b, q9c⟩ := isOf hZ6 e8 SE1
  obtain ⟨_, _, ⟨T9, L9, k9, n9⟩, -, X9, ⟨Lc9, hQ9, l9, y9, z9⟩, st9⟩ := X8.virtualBack hx (y := (⟨"java/lang/String", "equals", "(Ljava/lang/Object;)Z"⟩ : MethodName)) (z := (⟨"java/lang/String", "equals", "(Ljava/lang/Object;)Z"⟩ : MethodName)) hown6 (mvT hZ6 (hw _ (List.mem_of_getElem? (i := 107) rfl))) (mvT hZ6 (hw _ (List.mem_of_getElem? (i := 108) rfl))) (notFace_of_selects (args := #[]) (mvT hZ6 (hw _ (List.mem_of_getElem? (i := 110) rfl)))) (mvT hZ6 (hw _ (List.mem_of_getElem? (i := 110) rfl))) (mvT hZ6 (hw _ (List.mem_of_getElem? (i := 109) rfl))) (by decide) (backOf (W := 0) (rm47 l Z a0 hw [] s1 T6.heap n0 Z0_v6) hZ6 (hw _ (List.mem_of_getElem? (i := 111) rfl)) (hw _ (List.mem_of_getElem? (i := 6) rfl)) (by decide) (by decide)) q9a q9c (g := (mkF m 59 #[.val (.int p1), .val (.int p2), .val (.int p3), .val (.int p4), .val (.ref s1), .val (.ref s2), .val (.ref b3), .val (.ref br)] [(.ref s1), (.ref s1)])) rfl (by rw [hml]; rfl) (Steps.refl _) (argsL := [(.ref s1)]) (rest := []) (lenOf pd_13 rfl) rfl (by show 2 * 0 + _ ≤ _; exact Nat.le_of_eq rfl) (hb hby at_59) (fun _ _ => ⟨rfl, e8, (by decide : 30 + 0 ≤ _), (by decide : 183 + 0 ≤ _)⟩)
  dsimp only [Pt.U, Pt.locs, Pt.cells, Pt.slots] at X9 l9 y9 z9 st9 hQ9
  subst l9 y9 z9
  obtain ⟨rfl, N9q, e9⟩ := hQ9
  have N9 := Fr.app N8 N9q
  refine Gl.tr st9 ?_
  show Gl p e below P (T9.setTop (mkF m 62 #[.val (.int p1), .val (.int p2), .val (.int p3), .val (.int p4), .val (.ref s1), .val (.ref s2), .val (.ref b3), .val (.ref br)] [(.int (1 : Int32))]))
  refine Gl.st (fun _ k => XS.ifNo X9.here hx rfl (hb hby at_62) rfl ((if0 _ _).trans (feq (by decide : ¬ ((1 : Int32) = (0 : Int32)))).1) k) ?_
  show Gl p e below P (T9.setTop (mkF m 65 #[.val (.int p1), .val (.int p2), .val (.int p3), .val (.int p4), .val (.ref s1), .val (.ref s2), .val (.ref b3), .val (.ref br)] []))
  refine Gl.st (fun _ k => XS.aload X9.here hx rfl (hb hby at_65) rfl rfl k) ?_
  show Gl p e below P (T9.setTop (mkF m 67 #[.val (.int p1), .val (.int p2), .val (.int p3), .val (.int p4), .val (.ref s1), .val (.ref s2), .val (.ref b3), .val (.ref br)] [(.ref br)]))
  obtain ⟨cq10, kq10, q10a, q10b, q10c⟩ := isOf hZ6 e9 Er
  obtain ⟨_, _, ⟨T10, L10, k10, n10⟩, -, X10, ⟨Lc10, hQ10, l10, y10, z10⟩, st10⟩ := X9.virtualBack hx (y := (⟨"com/example/assort/assort/Result", "snippet", "()Ljava/lang/String;"⟩ : MethodName)) (z := (⟨"com/example/assort/assort/Result", "snippet", "()Ljava/lang/String;"⟩ : MethodName)) hown6 (mvT hZ6 (hw _ (List.mem_of_getElem? (i := 112) rfl))) (mvT hZ6 (hw _ (List.mem_of_getElem? (i := 113) rfl))) (notFace_of_selects (args := #[]) (mvT hZ6 (hw _ (List.mem_of_getElem? (i := 115) rfl)))) (mvT hZ6 (hw _ (List.mem_of_getElem? (i := 115) rfl))) (mvT hZ6 (hw _ (List.mem_of_getElem? (i := 114) rfl))) (by decide) (backOf (W := 0) (rm44 l Z a0 hw [] br s2 T6.heap n0 Z0_v6 Fr3) hZ6 (hw _ (List.mem_of_getElem? (i := 116) rfl)) (hw _ (List.mem_of_getElem? (i := 65) rfl)) (by decide) (by decide)) q10a q10c (g := (mkF m 67 #[.val (.int p1), .val (.int p2), .val (.int p3), .val (.int p4), .val (.ref s1), .val (.ref s2), .val (.ref b3), .val (.ref br)] [(.ref br)])) rfl (by rw [hml]; rfl) (Steps.refl _) (argsL := []) (rest := []) (lenOf pd_7 rfl) rfl (by show 2 * 0 + _ ≤ _; exact Nat.le_of_eq rfl) (hb hby at_67) (fun _ _ => ⟨rfl, e9, (by decide : 30 + 0 ≤ _), (by decide : 183 + 0 ≤ _)⟩)
  dsimp only [Pt.U, Pt.locs, Pt.cells, Pt.slots] at X10 l10 y10 z10 st10 hQ10
  subst l10 y10 z10
  obtain ⟨rfl, N10q, e10⟩ := hQ10
  have N10 := Fr.app N9 N10q
  refine Gl.tr st10 ?_
  show Gl p e below P (T10.setTop (mkF m 70 #[.val (.int p1), .val (.int p2), .val (.int p3), .val (.int p4), .val (.ref s1), .val (.ref s2), .val (.ref b3), .val (.ref br)] [(.ref s2)]))
  refine Gl.st (fun _ k => XS.aload X10.here hx rfl (hb hby at_70) rfl rfl k) ?_
  show Gl p e below P (T10.setTop (mkF m 72 #[.val (.int p1), .val (.int p2), .val (.int p3), .val (.int p4), .val (.ref s1), .val (.ref s2), .val (.ref b3), .val (.ref br)] [(.ref s2), (.ref s2)]))
  obtain ⟨cq11, kq11, q11a, q11b, q11c⟩ := isOf hZ6 e10 SE2
  obtain ⟨_, _, ⟨T11, L11, k11, n11⟩, -, X11, ⟨Lc11, hQ11, l11, y11, z11⟩, st11⟩ := X10.virtualBack hx (y := (⟨"java/lang/String", "equals", "(Ljava/lang/Object;)Z"⟩ : MethodName)) (z := (⟨"java/lang/String", "equals", "(Ljava/lang/Object;)Z"⟩ : MethodName)) hown6 (mvT hZ6 (hw _ (List.mem_of_getElem? (i := 107) rfl))) (mvT hZ6 (hw _ (List.mem_of_getElem? (i := 108) rfl))) (notFace_of_selects (args := #[]) (mvT hZ6 (hw _ (List.mem_of_getElem? (i := 110) rfl)))) (mvT hZ6 (hw _ (List.mem_of_getElem? (i := 110) rfl))) (mvT hZ6 (hw _ (List.mem_of_getElem? (i := 109) rfl))) (by decide) (backOf (W := 0) (rm47 l Z a0 hw [] s2 T6.heap n0 Z0_v6) hZ6 (hw _ (List.mem_of_getElem? (i := 111) rfl)) (hw _ (List.mem_of_getElem? (i := 6) rfl)) (by decide) (by decide)) q11a q11c (g := (mkF m 72 #[.val (.int p1), .val (.int p2), .val (.int p3), .val (.int p4), .val (.ref s1), .val (.ref s2), .val (.ref b3), .val (.ref br)] [(.ref s2), (.ref s2)])) rfl (by rw [hml]; rfl) (Steps.refl _) (argsL := [(.ref s2)]) (rest := []) (lenOf pd_13 rfl) rfl (by show 2 * 0 + _ ≤ _; exact Nat.le_of_eq rfl) (hb hby at_72) (fun _ _ => ⟨rfl, e10, (by decide : 30 + 0 ≤ _), (by decide : 183 + 0 ≤ _)⟩)
  dsimp only [Pt.U, Pt.locs, Pt.cells, Pt.slots] at X11 l11 y11 z11 st11 hQ11
  subst l11 y11 z11
  obtain ⟨rfl, N11q, e11⟩ := hQ11
  have N11 := Fr.app N10 N11q
  refine Gl.tr st11 ?_
  show Gl p e below P (T11.setTop (mkF m 75 #[.val (.int p1), .val (.int p2), .val (.int p3), .val (.int p4), .val (.ref s1), .val (.ref s2), .val (.ref b3), .val (.ref br)] [(.int (1 : Int32))]))
  refine Gl.st (fun _ k => XS.ifNo X11.here hx rfl (hb hby at_75) rfl ((if0 _ _).trans (feq (by decide : ¬ ((1 : Int32) = (0 : Int32)))).1) k) ?_
  show Gl p e below P (T11.setTop (mkF m 78 #[.val (.int p1), .val (.int p2), .val (.int p3), .val (.int p4), .val (.ref s1), .val (.ref s2), .val (.ref b3), .val (.ref br)] []))
  refine Gl.st (fun _ k => XS.aload X11.here hx rfl (hb hby at_78) rfl rfl k) ?_
  show Gl p e below P (T11.setTop (mkF m 80 #[.val (.int p1), .val (.int p2), .val (.int p3), .val (.int p4), .val (.ref s1), .val (.ref s2), .val (.ref b3), .val (.ref br)] [(.ref br)]))
  obtain ⟨cq12, kq12, q12a, q12b, q12c⟩ := isOf hZ6 e11 Er
  obtain ⟨_, _, ⟨T12, L12, k12, n12⟩, -, X12, ⟨Lc12, hQ12, l12, y12, z12⟩, st12⟩ := X11.virtualBack hx (y := (⟨"com/example/assort/assort/Result", "url", "()Ljava/lang/String;"⟩ : MethodName)) (z := (⟨"com/example/assort/assort/Result", "url", "()Ljava/lang/String;"⟩ : MethodName)) hown6 (mvT hZ6 (hw _ (List.mem_of_getElem? (i := 117) rfl))) (mvT hZ6 (hw _ (List.mem_of_getElem? (i := 118) rfl))) (notFace_of_selects (args := #[]) (mvT hZ6 (hw _ (List.mem_of_getElem? (i := 120) rfl)))) (mvT hZ6 (hw _ (List.mem_of_getElem? (i := 120) rfl))) (mvT hZ6 (hw _ (List.mem_of_getElem? (i := 119) rfl))) (by decide) (backOf (W := 0) (rm45 l Z a0 hw [] br u T6.heap n0 Z0_v6 Fr4) hZ6 (hw _ (List.mem_of_getElem? (i := 121) rfl)) (hw _ (List.mem_of_getElem? (i := 65) rfl)) (by decide) (by decide)) q12a q12c (g := (mkF m 80 #[.val (.int p1), .val (.int p2), .val (.int p3), .val (.int p4), .val (.ref s1), .val (.ref s2), .val (.ref b3), .val (.ref br)] [(.ref br)])) rfl (by rw [hml]; rfl) (Steps.refl _) (argsL := []) (rest := []) (lenOf pd_7 rfl) rfl (by show 2 * 0 + _ ≤ _; exact Nat.le_of_eq rfl) (hb hby at_80) (fun _ _ => ⟨rfl, e11, (by decide : 30 + 0 ≤ _), (by decide : 183 + 0 ≤ _)⟩)
  dsimp only [Pt.U, Pt.locs, Pt.cells, Pt.slots] at X12 l12 y12 z12 st12 hQ12
  subst l12 y12 z12
  obtain ⟨rfl, N12q, e12⟩ := hQ12
  have N12 := Fr.app N11 N12q
  refine Gl.tr st12 ?_
  show Gl p e below P (T12.setTop (mkF m 83 #[.val (.int p1), .val (.int p2), .val (.int p3), .val (.int p4), .val (.ref s1), .val (.ref s2), .val (.ref b3), .val (.ref br)] [(.ref u)]))
  obtain ⟨cq13, kq13, q13a, q13b, q13c⟩ := isOf hZ6 e12 SE3
  obtain ⟨_, _, ⟨T13, L13, k13, n13⟩, -, X13, ⟨Lc13, hQ13, l13, y13, z13⟩, st13⟩ := X12.virtualBack hx (y := (⟨"java/lang/String", "isEmpty", "()Z"⟩ : MethodName)) (z := (⟨"java/lang/String", "isEmpty", "()Z"⟩ : MethodName)) hown6 (mvT hZ6 (hw _ (List.mem_of_getElem? (i := 122) rfl))) (mvT hZ6 (hw _ (List.mem_of_getElem? (i := 123) rfl))) (notFace_of_selects (args := #[]) (mvT hZ6 (hw _ (List.mem_of_getElem? (i := 125) rfl)))) (mvT hZ6 (hw _ (List.mem_of_getElem? (i := 125) rfl))) (mvT hZ6 (hw _ (List.mem_of_getElem? (i := 124) rfl))) (by decide) (StrChars.Road.empW (W := 0) hZ6 hem (kI := 4) (hw _ (List.mem_of_getElem? (i := 14) rfl)) SE3 SV3 SC3 SA3 cd3 bd3 hl3 (by decide) (by decide)) q13a q13c (g := (mkF m 83 #[.val (.int p1), .val (.int p2), .val (.int p3), .val (.int p4), .val (.ref s1), .val (.ref s2), .val (.ref b3), .val (.ref br)] [(.ref u)])) rfl (by rw [hml]; rfl) (Steps.refl _) (argsL := []) (rest := []) (lenOf pd_14 rfl) rfl (by show 2 * 0 + _ ≤ _; exact Nat.le_of_eq rfl) (hb hby at_83) (fun _ _ => ⟨rfl, e12, (by decide : 30 + 0 ≤ _), (by decide : 183 + 0 ≤ _)⟩)
  dsimp only [Pt.U, Pt.locs, Pt.cells, Pt.slots] at X13 l13 y13 z13 st13 hQ13
  subst l13 y13 z13
  obtain ⟨rfl, rfl, e13⟩ := hQ13
  have N13 := Fr.app N12 (Fr.nil n0)
  refine Gl.tr st13 ?_
  show Gl p e below P (T13.setTop (mkF m 86 #[.val (.int p1), .val (.int p2), .val (.int p3), .val (.int p4), .val (.ref s1), .val (.ref s2), .val (.ref b3), .val (.ref br)] [(.int (1 : Int32))]))
  refine Gl.st (fun _ k => XS.ifNo X13.here hx rfl (hb hby at_86) rfl ((if0 _ _).trans (feq (by decide : ¬ ((1 : Int32) = (0 : Int32)))).1) k) ?_
  show Gl p e below P (T13.setTop (mkF m 89 #[.val (.int p1), .val (.int p2), .val (.int p3), .val (.int p4), .val (.ref s1), .val (.ref s2), .val (.ref b3), .val (.ref br)] []))
  refine Gl.st (fun _ k => XS.iconst X13.here hx rfl (hb hby at_89) k) ?_
  show Gl p e below P (T13.setTop (mkF m 90 #[.val (.int p1), .val (.int p2), .val (.int p3), .val (.int p4), .val (.ref s1), .val (.ref s2), .val (.ref b3), .val (.ref br)] [(.int (1 : Int32))]))
  refine Gl.st (fun _ k => XS.goto X13.here hx rfl (pc0 := 90) (pc' := 94) rfl (hb hby at_90) (by decide) (by decide) k) ?_
  show Gl p e below P (T13.setTop (mkF m 94 #[.val (.int p1), .val (.int p2), .val (.int p3), .val (.int p4), .val (.ref s1), .val (.ref s2), .val (.ref b3), .val (.ref br)] [(.int (1 : Int32))]))
  obtain ⟨fs, hr, hrun, hended, hRE⟩ := X13.leaveW hS6 (by rw [e13]; exact (Nat.le_refl _)) (v := some (.int (1 : Int32))) (fun h => by rw [Bd.returns] at h; cases h)
  refine ⟨_, _, retN X13 hx (t := .boolean) Bd.returns (by simp) (hb hby at_94) hr, hrun, hended, hPost _ _ ⟨_, _, rfl, ?_, ?_, hRE.1, hRE.2.1, hRE.2.2.1, hRE.2.2.2.mono (by decide) (by decide)⟩⟩
  rotate_left
  · show CHr Z consts_1 s.vm s.heap T13.vm T13.heap
    rw [hh, e13]
    exact C_w6.trans (CHv.at X13 hZ6 hEL C_w6.1)
  show Q0 Z p1 p2 p3 p4 G1 h0 n0 _ T13.heap _
  rw [e13]
  exact ⟨rfl, N13⟩
set_option maxRecDepth 65536 in
set_option maxHeartbeats 40000000 in
theorem comes_1 {Post : Tables → Env → Array Value → State → Outcome → State → Prop} (hpost : ∀ tb e args s v u, (limb_1_1.after args s (.returned v) u = true ∧ limb_1_2.after args s (.returned v) u = true ∧ True) → ReturnedEndW s (.returned v) u (Jvm.fieldLocs frame_1_writes args s ++ Jvm.arrayLocs frame_1_arrays args s ++ Jvm.staticLocs frame_1_statics s) 48 9408 → Post tb e args s (.returned v) u) :
    ArmFor flags0 classFile x code maxLocals ret World_1 tables_1 room_1 Calls_1 rest_1 Pre_1 Post := by
  intro l hfl _ _ p e ha hc hk s m args below hf hA hF happ hP
  obtain ⟨hcalls, hrest, hpre⟩ := hP
  obtain ⟨-, -, -, hnamed, -, -, -, hat⟩ := (Spec.applies_iff hf).mp happ
  obtain ⟨hg, hn⟩ := and_e (Cond.before_iff.mp (show (Jvm.Cond.and given_1 narrow_1).before args s = true from hpre))
  obtain ⟨hcnt, g0⟩ := and_e hg
  obtain ⟨ia0, g1⟩ := and_e g0
  obtain ⟨ia1, g2⟩ := and_e g1
  obtain ⟨ia2, g3⟩ := and_e g2
  obtain ⟨w0, w1, w2, w3, rfl⟩ : ∃ w0 w1 w2 w3 : Value, args = #[w0, w1, w2, w3] := by
    have hs : args.size = 4 := by simpa [Cond.value, given_1] using hcnt
    obtain ⟨L⟩ := args
    match L, hs with
    | [w0, w1, w2, w3], _ => exact ⟨w0, w1, w2, w3, rfl⟩
  have hw := fun d (hd : d ∈ tables_1) => atoms_spec (ws := Jvm.Cond.code x code maxLocals ret :: tables_1) hat d (List.mem_cons_of_mem _ hd)
  have hfit : Fit s := fun {y c} hc i hi => by
    obtain ⟨ha, rfl⟩ := Array.getElem?_eq_some_iff.mp hc
    have q := List.all_eq_true.mp ((Array.all_eq_true_iff_forall_mem.mp hF) _ (Array.getElem_mem ha)) i (List.mem_range.mpr hi)
    simpa [Array.getElem?_eq_getElem hi] using q
  obtain ⟨i0, ei0⟩ := is_v ia0
  obtain rfl : w0 = (.int i0) := Option.some.inj ei0
  obtain ⟨i1, ei1⟩ := is_v ia1
  obtain rfl : w1 = (.int i1) := Option.some.inj ei1
  obtain ⟨i2, ei2⟩ := is_v ia2
  obtain rfl : w2 = (.int i2) := Option.some.inj ei2
  obtain ⟨i3, ei3⟩ := is_v g3
  obtain rfl : w3 = (.int i3) := Option.some.inj ei3
  obtain ⟨hsets, hown0⟩ := atoms_of _ (rest_1_c_eq ▸ (show rest_1_c.before _ s = true from hrest))
  have n5 := not_v (Cond.before_iff.mp (hsets _ (List.mem_of_getElem? (i := 2) rfl)))
  obtain ⟨i11, e10⟩ := is_v (Cond.before_iff.mp (hsets _ (List.mem_of_getElem? (i := 1) rfl)))
  have S12 : Sta s s.heap "java/lang/String" "COMPACT_STRINGS" "Z" (.int i11) := Sta.start e10 (Or.inl (hsets _ (List.mem_of_getElem? (i := 0) rfl)))
  have c17 : ¬ (i11 = (0 : Int32)) := gotF (Cond.eq_ints e10 (Term.int_eval (0))) n5
  have hcv : CHv s consts_1 s.vm s.heap := CHv.start (own_EW hw) (fun q hq => hcalls.1 q hq) (hsets _ (List.mem_of_getElem? (i := 2) rfl)) (hw _ (List.mem_of_getElem? (i := 18) rfl)) (hw _ (List.mem_of_getElem? (i := 14) rfl))
  obtain ⟨n, o, h1, h2, h3, _, L, rfl, ⟨rfl, N⟩, hch, hq⟩ := rm0 l s _ hw tables_1 i0 i1 i2 i3 i11 s.heap s.heap.size (Nat.le_refl _) S12 c17 (Old.start s) p e ha hc hk s m _ below hf ((Spec.applies_iff_loose hf).mp happ).1 ⟨rfl, State.Warmed39.refl s, rfl, hcv⟩ trivial
  refine ⟨n, _, h1, h2, h3, hpost _ _ _ _ _ _ ⟨Cond.after_iff.mpr rfl, Cond.after_iff.mpr (eq_i res_at (Term.int_eval (1)) rfl), trivial⟩ ⟨hq.1, hq.2.1, hq.2.2.1, (hq.2.2.2.sift fun y hy => Or.inr (N y hy)).mono (by decide) (by decide)⟩⟩
theorem main_1_1 : Claimed_1_1 := comes_1 fun _ _ _ _ _ _ h hF => ⟨h.1, hF⟩
theorem main_1_2 : Claimed_1_2 := comes_1 fun _ _ _ _ _ _ h hF => ⟨h.2.1, hF⟩
end Jvm.Pilot.@@N@@
namespace Jvm.Pilot.@@N@@
open Jvm Jvm.ClassFile Sem Op Lib Jvm.Free Jvm.Stand Jvm.Pilot.@@N@@.Jvm.D
/-! MADE BY PROGRAM (witnessworld.py) out of the Statement's table words and the real class files: 22 classes; the members and pool entries that the words name. The judged class is class 1, her method 2. -/
namespace start1
open Jvm.ClassFile
def u (s : String) : CpInfo := .utf8 (stringToUtf16 s)
/-- a pool by its gaps: so many unusable entries, then the entry; so many at the end -/
def gap : Nat → List CpInfo → List CpInfo
  | 0, r => r
  | n + 1, r => .unusable :: gap n r
def poolList (es : List (Nat × CpInfo)) (last : Nat) : List CpInfo := es.foldr (fun e r => gap e.1 (e.2 :: r)) (gap last [])
def pool (es : List (Nat × CpInfo)) (last : Nat) : Array CpInfo := ⟨poolList es last⟩
def fileOf (pool : Array CpInfo) (this : Nat) (attrs : Array Attribute := #[]) (ms : Array MethodInfo := #[]) (fl : Nat := 33) (sup : Nat := 0) (ifs : Array Nat := #[]) (fds : Array FieldInfo := #[]) : ClassFile where
  minorVersion := 0
  majorVersion := 65
  constantPool := pool
  accessFlags := fl
  thisClass := this
  superClass := sup
  interfaces := ifs
  fields := fds
  methods := ms
  attributes := attrs
def plain (name : String) (sup : Option ClassId) : Class where
  name := name
  kind := .ordinary
  loader := none
  accessFlags := 33
  super := sup
  interfaces := #[]
  cf := none
  fields := #[]
  methods := #[]
  instanceTypes := #[]
  staticTypes := #[]
  resolved := #[]
  callSites := []
  init := .initialized
  statics := none
  mirror := none

def pool0 : Array CpInfo := pool [(5, u "<init>"), (0, u "()V"), (1, .class_ 10), (1, u "java/lang/Object")] 113

def k0c0 : Code := { maxStack := 0, maxLocals := 1, code := object_method_1_code, exceptionTable := #[], attributes := #[] }
def k0m0 : Method := { name := "<init>", desc := "()V", sig := { parameters := [], returnType := none }, accessFlags := 1, code := some k0c0 }
/-- java/lang/Object -/
def k0 : Class := { plain "java/lang/Object" none with
  accessFlags := 33
  interfaces := #[]
  cf := some (fileOf pool0 8 #[] #[{ accessFlags := 1, nameIndex := 5, descriptorIndex := 6, attributes := #[] }] 33 0 #[] #[])
  fields := #[]
  methods := #[k0m0]
  instanceTypes := #[]
  staticTypes := #[]
  resolved := Array.replicate 124 none
  statics := none }

def pool1 : Array CpInfo := pool [(2, .class_ 4), (1, u "java/lang/Object"), (0, u "<init>"), (0, u "()V"), (0, .class_ 8), (0, u "java/lang/String"), (0, .methodref 7 10), (0, .nameAndType 5 11), (0, u "([C)V"), (0, .methodref 7 13), (0, .nameAndType 14 15), (0, u "valueOf"), (0, u "(C)Ljava/lang/String;"), (0, .methodref 17 18), (0, .class_ 19), (0, .nameAndType 20 21), (0, u "com/example/assort/assort/ResultOfPinLaw"), (0, u "str"), (0, u "(II)Ljava/lang/String;"), (0, .class_ 23), (0, u "com/example/assort/assort/TrecDocument"), (0, .string 25), (0, u "d"), (0, .methodref 22 27), (0, .nameAndType 5 28), (0, u "(Ljava/lang/String;Ljava/lang/String;Ljava/lang/String;)V"), (0, .methodref 30 31), (0, .class_ 32), (0, .nameAndType 33 34), (0, u "com/example/assort/assort/Result"), (0, u "of"), (0, u "(ILcom/example/assort/assort/TrecDocument;)Lcom/example/assort/assort/Result;"), (0, .methodref 30 36), (0, .nameAndType 37 38), (0, u "rank"), (0, u "()I"), (0, .methodref 30 40), (0, .nameAndType 41 42), (0, u "title"), (0, u "()Ljava/lang/String;"), (0, .methodref 7 44), (0, .nameAndType 45 46), (0, u "equals"), (0, u "(Ljava/lang/Object;)Z"), (0, .methodref 30 48), (0, .nameAndType 49 42), (0, u "snippet"), (0, .methodref 30 51), (0, .nameAndType 52 42), (0, u "url"), (0, .methodref 7 54), (0, .nameAndType 55 56), (0, u "isEmpty"), (0, u "()Z"), (3, u "law"), (0, u "(IIII)Z")] 2

def k1m0 : Method := { name := "<init>", desc := "()V", sig := { parameters := [], returnType := none }, accessFlags := 1, code := none }
def k1c1 : Code := { maxStack := 6, maxLocals := 4, code := method_2_code, exceptionTable := #[], attributes := #[] }
def k1m1 : Method := { name := "str", desc := "(II)Ljava/lang/String;", sig := { parameters := [.int, .int], returnType := some (.object "java/lang/String") }, accessFlags := 10, code := some k1c1 }
def k1c2 : Code := { maxStack := 5, maxLocals := 8, code := code, exceptionTable := #[], attributes := #[] }
def k1m2 : Method := { name := "law", desc := "(IIII)Z", sig := { parameters := [.int, .int, .int, .int], returnType := some .boolean }, accessFlags := 9, code := some k1c2 }
/-- com/example/assort/assort/ResultOfPinLaw -/
def k1 : Class := { plain "com/example/assort/assort/ResultOfPinLaw" (some 0) with
  accessFlags := 49
  interfaces := #[]
  cf := some (fileOf pool1 17 #[] #[{ accessFlags := 1, nameIndex := 5, descriptorIndex := 6, attributes := #[] }, { accessFlags := 10, nameIndex := 20, descriptorIndex := 21, attributes := #[] }, { accessFlags := 9, nameIndex := 60, descriptorIndex := 61, attributes := #[] }] 49 2 #[] #[])
  fields := #[]
  methods := #[k1m0, k1m1, k1m2]
  instanceTypes := #[]
  staticTypes := #[]
  resolved := Array.replicate 64 none
  statics := none }

def pool2 : Array CpInfo := pool [(1, .class_ 2), (0, u "java/io/Serializable"), (0, .class_ 4), (0, u "java/lang/Object")] 2

/-- java/io/Serializable -/
def k2 : Class := { plain "java/io/Serializable" (some 0) with
  accessFlags := 1537
  interfaces := #[]
  cf := some (fileOf pool2 1 #[] #[] 1537 3 #[] #[])
  fields := #[]
  methods := #[]
  instanceTypes := #[]
  staticTypes := #[]
  resolved := Array.replicate 7 none
  statics := none }

def pool3 : Array CpInfo := pool [(1, .class_ 2), (0, u "java/lang/Comparable"), (0, .class_ 4), (0, u "java/lang/Object")] 7

/-- java/lang/Comparable -/
def k3 : Class := { plain "java/lang/Comparable" (some 0) with
  accessFlags := 1537
  interfaces := #[]
  cf := some (fileOf pool3 1 #[] #[] 1537 3 #[] #[])
  fields := #[]
  methods := #[]
  instanceTypes := #[]
  staticTypes := #[]
  resolved := Array.replicate 12 none
  statics := none }

def pool4 : Array CpInfo := pool [(2, .class_ 4), (1, u "java/lang/CharSequence"), (42, .class_ 48), (0, u "java/lang/CharSequence$1CodePointIterator"), (10, .class_ 60), (0, u "java/lang/CharSequence$1CharIterator"), (5, .class_ 67), (0, u "java/lang/Object")] 63

/-- java/lang/CharSequence -/
def k4 : Class := { plain "java/lang/CharSequence" (some 0) with
  accessFlags := 1537
  interfaces := #[]
  cf := some (fileOf pool4 2 #[.nestMembers #[47, 59]] #[] 1537 66 #[] #[])
  fields := #[]
  methods := #[]
  instanceTypes := #[]
  staticTypes := #[]
  resolved := Array.replicate 131 none
  statics := none }

def pool5 : Array CpInfo := pool [(1, .class_ 2), (0, u "java/lang/constant/Constable"), (0, .class_ 4), (0, u "java/lang/Object")] 6

/-- java/lang/constant/Constable -/
def k5 : Class := { plain "java/lang/constant/Constable" (some 0) with
  accessFlags := 1537
  interfaces := #[]
  cf := some (fileOf pool5 1 #[] #[] 1537 3 #[] #[])
  fields := #[]
  methods := #[]
  instanceTypes := #[]
  staticTypes := #[]
  resolved := Array.replicate 11 none
  statics := none }

def pool6 : Array CpInfo := pool [(1, .class_ 2), (0, u "java/lang/constant/ConstantDesc"), (0, .class_ 4), (0, u "java/lang/Object")] 32

/-- java/lang/constant/ConstantDesc -/
def k6 : Class := { plain "java/lang/constant/ConstantDesc" (some 0) with
  accessFlags := 1537
  interfaces := #[]
  cf := some (fileOf pool6 1 #[] #[] 1537 3 #[] #[])
  fields := #[]
  methods := #[]
  instanceTypes := #[]
  staticTypes := #[]
  resolved := Array.replicate 37 none
  statics := none }

def pool7 : Array CpInfo := pool [(1, .methodref 2 3), (0, .class_ 4), (0, .nameAndType 5 6), (0, u "java/lang/Object"), (0, u "<init>"), (0, u "()V"), (0, .string 8), (0, u ""), (0, .fieldref 10 11), (0, .class_ 12), (0, .nameAndType 13 14), (0, u "java/lang/String"), (0, u "value"), (0, u "[B"), (0, .fieldref 10 16), (0, .nameAndType 17 18), (0, u "coder"), (0, u "B"), (2, u "hash"), (0, u "I"), (2, u "hashIsZero"), (0, u "Z"), (0, .methodref 10 28), (0, .nameAndType 5 29), (0, u "([CIILjava/lang/Void;)V"), (8, .fieldref 10 39), (0, .nameAndType 40 26), (0, u "COMPACT_STRINGS"), (1, .class_ 44), (1, u "java/lang/StringUTF16"), (0, u "compress"), (1, .methodref 42 48), (0, .nameAndType 49 50), (0, u "coderFromArrayLen"), (0, u "([BI)B"), (2, u "toBytes"), (53, .class_ 109), (1, u "java/lang/StringLatin1"), (32, u "()Z"), (34, .methodref 42 178), (0, .nameAndType 45 179), (0, u "([CII)[B"), (29, .methodref 10 210), (0, .nameAndType 5 211), (0, u "([BB)V"), (157, u "(C)Z"), (173, u "equals"), (29, u "(Ljava/lang/Object;)Z"), (1, .class_ 576), (0, u "java/lang/CharSequence"), (22, u "CASE_INSENSITIVE_ORDER"), (0, u "Ljava/util/Comparator;"), (91, u "isEmpty"), (89, u "valueOf"), (0, u "(C)Ljava/lang/String;"), (226, u "([C)V"), (4, .methodref 107 1016), (0, .nameAndType 1017 369), (0, u "canEncode"), (0, .methodref 107 1019), (0, .nameAndType 53 1020), (0, u "(C)[B"), (80, u "serialPersistentFields"), (0, u "[Ljava/io/ObjectStreamField;"), (0, .class_ 1104), (0, u "java/lang/String$CaseInsensitiveComparator"), (1, .class_ 1107), (0, u "java/io/Serializable"), (0, .class_ 1109), (0, u "java/lang/Comparable"), (0, .class_ 1111), (0, u "java/lang/constant/Constable"), (0, .class_ 1113), (0, u "java/lang/constant/ConstantDesc"), (2, u "serialVersionUID"), (0, u "J"), (3, u "REPL"), (0, u "C"), (2, u "LATIN1"), (1, u "UTF16")] 323

def k7m0 : Method := { name := "<init>", desc := "()V", sig := { parameters := [], returnType := none }, accessFlags := 1, code := none }
def k7c1 : Code := { maxStack := 5, maxLocals := 2, code := jdk_42_method_3_code, exceptionTable := #[], attributes := #[] }
def k7m1 : Method := { name := "<init>", desc := "([C)V", sig := { parameters := [(.array .char)], returnType := none }, accessFlags := 1, code := some k7c1 }
def k7c2 : Code := { maxStack := 1, maxLocals := 1, code := jdk_42_method_55_code, exceptionTable := #[], attributes := #[] }
def k7m2 : Method := { name := "isEmpty", desc := "()Z", sig := { parameters := [], returnType := some .boolean }, accessFlags := 1, code := some k7c2 }
def k7c3 : Code := { maxStack := 2, maxLocals := 3, code := jdk_42_method_66_code, exceptionTable := #[], attributes := #[] }
def k7m3 : Method := { name := "equals", desc := "(Ljava/lang/Object;)Z", sig := { parameters := [(.object "java/lang/Object")], returnType := some .boolean }, accessFlags := 1, code := some k7c3 }
def k7c4 : Code := { maxStack := 4, maxLocals := 1, code := jdk_42_method_139_code, exceptionTable := #[], attributes := #[] }
def k7m4 : Method := { name := "valueOf", desc := "(C)Ljava/lang/String;", sig := { parameters := [.char], returnType := some (.object "java/lang/String") }, accessFlags := 9, code := some k7c4 }
def k7c5 : Code := { maxStack := 4, maxLocals := 6, code := jdk_42_method_149_code, exceptionTable := #[], attributes := #[] }
def k7m5 : Method := { name := "<init>", desc := "([CIILjava/lang/Void;)V", sig := { parameters := [(.array .char), .int, .int, (.object "java/lang/Void")], returnType := none }, accessFlags := 2, code := some k7c5 }
def k7c6 : Code := { maxStack := 2, maxLocals := 3, code := jdk_42_method_151_code, exceptionTable := #[], attributes := #[] }
def k7m6 : Method := { name := "<init>", desc := "([BB)V", sig := { parameters := [(.array .byte), .byte], returnType := none }, accessFlags := 0, code := some k7c6 }
/-- java/lang/String -/
def k7 : Class := { plain "java/lang/String" (some 0) with
  accessFlags := 49
  interfaces := #[2, 3, 4, 5, 6]
  cf := some (fileOf pool7 10 #[.nestMembers #[1103]] #[{ accessFlags := 1, nameIndex := 5, descriptorIndex := 6, attributes := #[] }, { accessFlags := 1, nameIndex := 5, descriptorIndex := 1010, attributes := #[] }, { accessFlags := 1, nameIndex := 692, descriptorIndex := 142, attributes := #[] }, { accessFlags := 1, nameIndex := 543, descriptorIndex := 573, attributes := #[] }, { accessFlags := 9, nameIndex := 782, descriptorIndex := 783, attributes := #[] }, { accessFlags := 2, nameIndex := 5, descriptorIndex := 29, attributes := #[] }, { accessFlags := 0, nameIndex := 5, descriptorIndex := 211, attributes := #[] }] 49 2 #[1106, 1108, 575, 1110, 1112] #[{ accessFlags := 18, nameIndex := 13, descriptorIndex := 14, attributes := #[] }, { accessFlags := 18, nameIndex := 17, descriptorIndex := 18, attributes := #[] }, { accessFlags := 2, nameIndex := 21, descriptorIndex := 22, attributes := #[] }, { accessFlags := 2, nameIndex := 25, descriptorIndex := 26, attributes := #[] }, { accessFlags := 26, nameIndex := 1116, descriptorIndex := 1117, attributes := #[] }, { accessFlags := 24, nameIndex := 40, descriptorIndex := 26, attributes := #[] }, { accessFlags := 26, nameIndex := 1101, descriptorIndex := 1102, attributes := #[] }, { accessFlags := 26, nameIndex := 1121, descriptorIndex := 1122, attributes := #[] }, { accessFlags := 25, nameIndex := 599, descriptorIndex := 600, attributes := #[] }, { accessFlags := 24, nameIndex := 1125, descriptorIndex := 18, attributes := #[] }, { accessFlags := 24, nameIndex := 1127, descriptorIndex := 18, attributes := #[] }])
  fields := #[{ name := "value", type := (.array .byte), accessFlags := 18, slot := 0, constantValue := 0 }, { name := "coder", type := .byte, accessFlags := 18, slot := 1, constantValue := 0 }, { name := "hash", type := .int, accessFlags := 2, slot := 2, constantValue := 0 }, { name := "hashIsZero", type := .boolean, accessFlags := 2, slot := 3, constantValue := 0 }, { name := "serialVersionUID", type := .long, accessFlags := 26, slot := 0, constantValue := 0 }, { name := "COMPACT_STRINGS", type := .boolean, accessFlags := 24, slot := 1, constantValue := 0 }, { name := "serialPersistentFields", type := (.array (.object "java/io/ObjectStreamField")), accessFlags := 26, slot := 2, constantValue := 0 }, { name := "REPL", type := .char, accessFlags := 26, slot := 3, constantValue := 0 }, { name := "CASE_INSENSITIVE_ORDER", type := (.object "java/util/Comparator"), accessFlags := 25, slot := 4, constantValue := 0 }, { name := "LATIN1", type := .byte, accessFlags := 24, slot := 5, constantValue := 0 }, { name := "UTF16", type := .byte, accessFlags := 24, slot := 6, constantValue := 0 }]
  methods := #[k7m0, k7m1, k7m2, k7m3, k7m4, k7m5, k7m6]
  instanceTypes := #[(.array .byte), .byte, .int, .boolean]
  staticTypes := #[.long, .boolean, (.array (.object "java/io/ObjectStreamField")), .char, (.object "java/util/Comparator"), .byte, .byte]
  resolved := Array.replicate 1451 none
  statics := some 0 }

def pool8 : Array CpInfo := pool [(4, .class_ 6), (1, u "java/lang/Object"), (0, u "<init>"), (0, u "()V"), (5, .class_ 16), (1, u "java/lang/StringLatin1"), (73, u "canEncode"), (14, u "(C)Z"), (15, u "$assertionsDisabled"), (0, u "Z"), (98, .class_ 223), (1, u "java/lang/StringLatin1$LinesSpliterator"), (156, u "toBytes"), (1, u "(C)[B"), (7, .class_ 391), (0, u "java/lang/StringLatin1$CharsSpliterator")] 3

def k8m0 : Method := { name := "<init>", desc := "()V", sig := { parameters := [], returnType := none }, accessFlags := 0, code := none }
def k8c1 : Code := { maxStack := 2, maxLocals := 1, code := jdk_43_method_3_code, exceptionTable := #[], attributes := #[] }
def k8m1 : Method := { name := "canEncode", desc := "(C)Z", sig := { parameters := [.char], returnType := some .boolean }, accessFlags := 9, code := some k8c1 }
def k8c2 : Code := { maxStack := 4, maxLocals := 1, code := jdk_43_method_46_code, exceptionTable := #[], attributes := #[] }
def k8m2 : Method := { name := "toBytes", desc := "(C)[B", sig := { parameters := [.char], returnType := some (.array .byte) }, accessFlags := 9, code := some k8c2 }
/-- java/lang/StringLatin1 -/
def k8 : Class := { plain "java/lang/StringLatin1" (some 0) with
  accessFlags := 48
  interfaces := #[]
  cf := some (fileOf pool8 14 #[.nestMembers #[390, 221]] #[{ accessFlags := 0, nameIndex := 7, descriptorIndex := 8, attributes := #[] }, { accessFlags := 9, nameIndex := 90, descriptorIndex := 105, attributes := #[] }, { accessFlags := 9, nameIndex := 380, descriptorIndex := 382, attributes := #[] }] 48 4 #[] #[{ accessFlags := 4120, nameIndex := 121, descriptorIndex := 122, attributes := #[] }])
  fields := #[{ name := "$assertionsDisabled", type := .boolean, accessFlags := 4120, slot := 0, constantValue := 0 }]
  methods := #[k8m0, k8m1, k8m2]
  instanceTypes := #[]
  staticTypes := #[.boolean]
  resolved := Array.replicate 395 none
  statics := none }

def pool9 : Array CpInfo := pool [(1, .methodref 2 3), (0, .class_ 4), (0, .nameAndType 5 6), (0, u "java/lang/Object"), (0, u "<init>"), (0, u "()V"), (0, .string 8), (0, u "docno"), (0, .methodref 10 11), (0, .class_ 12), (0, .nameAndType 13 14), (0, u "java/util/Objects"), (0, u "requireNonNull"), (0, u "(Ljava/lang/Object;Ljava/lang/String;)Ljava/lang/Object;"), (0, .class_ 16), (0, u "java/lang/String"), (0, .fieldref 18 19), (0, .class_ 20), (0, .nameAndType 8 21), (0, u "com/example/assort/assort/TrecDocument"), (0, u "Ljava/lang/String;"), (0, .string 23), (0, u "title"), (0, .fieldref 18 25), (0, .nameAndType 23 21), (0, .string 27), (0, u "text"), (0, .fieldref 18 29), (0, .nameAndType 27 21), (0, u "(Ljava/lang/String;Ljava/lang/String;Ljava/lang/String;)V"), (2, u "()Ljava/lang/String;")] 2

def k9c0 : Code := { maxStack := 3, maxLocals := 4, code := prog_26_method_1_code, exceptionTable := #[], attributes := #[] }
def k9m0 : Method := { name := "<init>", desc := "(Ljava/lang/String;Ljava/lang/String;Ljava/lang/String;)V", sig := { parameters := [(.object "java/lang/String"), (.object "java/lang/String"), (.object "java/lang/String")], returnType := none }, accessFlags := 1, code := some k9c0 }
def k9c1 : Code := { maxStack := 1, maxLocals := 1, code := prog_26_method_3_code, exceptionTable := #[], attributes := #[] }
def k9m1 : Method := { name := "title", desc := "()Ljava/lang/String;", sig := { parameters := [], returnType := some (.object "java/lang/String") }, accessFlags := 1, code := some k9c1 }
def k9c2 : Code := { maxStack := 1, maxLocals := 1, code := prog_26_method_4_code, exceptionTable := #[], attributes := #[] }
def k9m2 : Method := { name := "text", desc := "()Ljava/lang/String;", sig := { parameters := [], returnType := some (.object "java/lang/String") }, accessFlags := 1, code := some k9c2 }
/-- com/example/assort/assort/TrecDocument -/
def k9 : Class := { plain "com/example/assort/assort/TrecDocument" (some 0) with
  accessFlags := 49
  interfaces := #[]
  cf := some (fileOf pool9 18 #[] #[{ accessFlags := 1, nameIndex := 5, descriptorIndex := 30, attributes := #[] }, { accessFlags := 1, nameIndex := 23, descriptorIndex := 33, attributes := #[] }, { accessFlags := 1, nameIndex := 27, descriptorIndex := 33, attributes := #[] }] 49 2 #[] #[{ accessFlags := 18, nameIndex := 8, descriptorIndex := 21, attributes := #[] }, { accessFlags := 18, nameIndex := 23, descriptorIndex := 21, attributes := #[] }, { accessFlags := 18, nameIndex := 27, descriptorIndex := 21, attributes := #[] }])
  fields := #[{ name := "docno", type := (.object "java/lang/String"), accessFlags := 18, slot := 0, constantValue := 0 }, { name := "title", type := (.object "java/lang/String"), accessFlags := 18, slot := 1, constantValue := 0 }, { name := "text", type := (.object "java/lang/String"), accessFlags := 18, slot := 2, constantValue := 0 }]
  methods := #[k9m0, k9m1, k9m2]
  instanceTypes := #[(.object "java/lang/String"), (.object "java/lang/String"), (.object "java/lang/String")]
  staticTypes := #[]
  resolved := Array.replicate 36 none
  statics := none }

def pool10 : Array CpInfo := pool [(2, .class_ 4), (1, u "java/lang/Object"), (0, u "<init>"), (0, u "()V"), (35, .class_ 44), (1, u "java/util/Objects"), (0, u "requireNonNull"), (48, u "(Ljava/lang/Object;Ljava/lang/String;)Ljava/lang/Object;")] 89

def k10m0 : Method := { name := "<init>", desc := "()V", sig := { parameters := [], returnType := none }, accessFlags := 2, code := none }
def k10c1 : Code := { maxStack := 3, maxLocals := 2, code := jdk_31_method_11_code, exceptionTable := #[], attributes := #[] }
def k10m1 : Method := { name := "requireNonNull", desc := "(Ljava/lang/Object;Ljava/lang/String;)Ljava/lang/Object;", sig := { parameters := [(.object "java/lang/Object"), (.object "java/lang/String")], returnType := some (.object "java/lang/Object") }, accessFlags := 9, code := some k10c1 }
/-- java/util/Objects -/
def k10 : Class := { plain "java/util/Objects" (some 0) with
  accessFlags := 49
  interfaces := #[]
  cf := some (fileOf pool10 42 #[] #[{ accessFlags := 2, nameIndex := 5, descriptorIndex := 6, attributes := #[] }, { accessFlags := 9, nameIndex := 45, descriptorIndex := 94, attributes := #[] }] 49 2 #[] #[])
  fields := #[]
  methods := #[k10m0, k10m1]
  instanceTypes := #[]
  staticTypes := #[]
  resolved := Array.replicate 184 none
  statics := none }

def pool11 : Array CpInfo := pool [(1, .methodref 2 3), (0, .class_ 4), (0, .nameAndType 5 6), (0, u "java/lang/Object"), (0, u "<init>"), (0, u "()V"), (0, .fieldref 8 9), (0, .class_ 10), (0, .nameAndType 11 12), (0, u "com/example/assort/assort/Result"), (0, u "rank"), (0, u "I"), (0, .string 14), (0, u "title"), (0, .methodref 16 17), (0, .class_ 18), (0, .nameAndType 19 20), (0, u "java/util/Objects"), (0, u "requireNonNull"), (0, u "(Ljava/lang/Object;Ljava/lang/String;)Ljava/lang/Object;"), (0, .class_ 22), (0, u "java/lang/String"), (0, .fieldref 8 24), (0, .nameAndType 14 25), (0, u "Ljava/lang/String;"), (0, .string 27), (0, u "snippet"), (0, .fieldref 8 29), (0, .nameAndType 27 25), (0, .string 31), (0, u "url"), (0, .fieldref 8 33), (0, .nameAndType 31 25), (0, .methodref 35 36), (0, .class_ 37), (0, .nameAndType 14 38), (0, u "com/example/assort/assort/TrecDocument"), (0, u "()Ljava/lang/String;"), (0, .methodref 35 40), (0, .nameAndType 41 38), (0, u "text"), (0, .string 43), (0, u ""), (0, .methodref 8 45), (0, .nameAndType 5 46), (0, u "(ILjava/lang/String;Ljava/lang/String;Ljava/lang/String;)V"), (2, u "of"), (0, u "(ILcom/example/assort/assort/TrecDocument;)Lcom/example/assort/assort/Result;"), (0, u "()I")] 2

def k11c0 : Code := { maxStack := 3, maxLocals := 5, code := prog_20_method_1_code, exceptionTable := #[], attributes := #[] }
def k11m0 : Method := { name := "<init>", desc := "(ILjava/lang/String;Ljava/lang/String;Ljava/lang/String;)V", sig := { parameters := [.int, (.object "java/lang/String"), (.object "java/lang/String"), (.object "java/lang/String")], returnType := none }, accessFlags := 1, code := some k11c0 }
def k11c1 : Code := { maxStack := 6, maxLocals := 2, code := prog_20_method_2_code, exceptionTable := #[], attributes := #[] }
def k11m1 : Method := { name := "of", desc := "(ILcom/example/assort/assort/TrecDocument;)Lcom/example/assort/assort/Result;", sig := { parameters := [.int, (.object "com/example/assort/assort/TrecDocument")], returnType := some (.object "com/example/assort/assort/Result") }, accessFlags := 9, code := some k11c1 }
def k11c2 : Code := { maxStack := 1, maxLocals := 1, code := prog_20_method_3_code, exceptionTable := #[], attributes := #[] }
def k11m2 : Method := { name := "rank", desc := "()I", sig := { parameters := [], returnType := some .int }, accessFlags := 1, code := some k11c2 }
def k11c3 : Code := { maxStack := 1, maxLocals := 1, code := prog_20_method_4_code, exceptionTable := #[], attributes := #[] }
def k11m3 : Method := { name := "title", desc := "()Ljava/lang/String;", sig := { parameters := [], returnType := some (.object "java/lang/String") }, accessFlags := 1, code := some k11c3 }
def k11c4 : Code := { maxStack := 1, maxLocals := 1, code := prog_20_method_5_code, exceptionTable := #[], attributes := #[] }
def k11m4 : Method := { name := "snippet", desc := "()Ljava/lang/String;", sig := { parameters := [], returnType := some (.object "java/lang/String") }, accessFlags := 1, code := some k11c4 }
def k11c5 : Code := { maxStack := 1, maxLocals := 1, code := prog_20_method_6_code, exceptionTable := #[], attributes := #[] }
def k11m5 : Method := { name := "url", desc := "()Ljava/lang/String;", sig := { parameters := [], returnType := some (.object "java/lang/String") }, accessFlags := 1, code := some k11c5 }
/-- com/example/assort/assort/Result -/
def k11 : Class := { plain "com/example/assort/assort/Result" (some 0) with
  accessFlags := 49
  interfaces := #[]
  cf := some (fileOf pool11 8 #[] #[{ accessFlags := 1, nameIndex := 5, descriptorIndex := 46, attributes := #[] }, { accessFlags := 9, nameIndex := 49, descriptorIndex := 50, attributes := #[] }, { accessFlags := 1, nameIndex := 11, descriptorIndex := 51, attributes := #[] }, { accessFlags := 1, nameIndex := 14, descriptorIndex := 38, attributes := #[] }, { accessFlags := 1, nameIndex := 27, descriptorIndex := 38, attributes := #[] }, { accessFlags := 1, nameIndex := 31, descriptorIndex := 38, attributes := #[] }] 49 2 #[] #[{ accessFlags := 18, nameIndex := 11, descriptorIndex := 12, attributes := #[] }, { accessFlags := 18, nameIndex := 14, descriptorIndex := 25, attributes := #[] }, { accessFlags := 18, nameIndex := 27, descriptorIndex := 25, attributes := #[] }, { accessFlags := 18, nameIndex := 31, descriptorIndex := 25, attributes := #[] }])
  fields := #[{ name := "rank", type := .int, accessFlags := 18, slot := 0, constantValue := 0 }, { name := "title", type := (.object "java/lang/String"), accessFlags := 18, slot := 1, constantValue := 0 }, { name := "snippet", type := (.object "java/lang/String"), accessFlags := 18, slot := 2, constantValue := 0 }, { name := "url", type := (.object "java/lang/String"), accessFlags := 18, slot := 3, constantValue := 0 }]
  methods := #[k11m0, k11m1, k11m2, k11m3, k11m4, k11m5]
  instanceTypes := #[.int, (.object "java/lang/String"), (.object "java/lang/String"), (.object "java/lang/String")]
  staticTypes := #[]
  resolved := Array.replicate 54 none
  statics := none }

def pool12 : Array CpInfo := pool [(6, .class_ 8), (1, u "java/lang/Object"), (0, u "<init>"), (0, u "()V"), (1, .class_ 14), (1, u "java/lang/StringUTF16"), (31, u "$assertionsDisabled"), (0, u "Z"), (13, u "HI_BYTE_SHIFT"), (0, u "I"), (2, u "LO_BYTE_SHIFT"), (49, .methodref 12 116), (0, .nameAndType 117 118), (0, u "compress"), (0, u "([CI[BII)I"), (3, u "([CII)[B"), (138, u "coderFromArrayLen"), (0, u "([BI)B"), (106, .class_ 371), (1, u "java/lang/StringUTF16$LinesSpliterator"), (58, u "MAX_LENGTH"), (196, .class_ 628), (0, u "java/lang/StringUTF16$CodePointsSpliterator"), (0, .class_ 630), (0, u "java/lang/StringUTF16$CharsSpliterator")] 4

def k12m0 : Method := { name := "<init>", desc := "()V", sig := { parameters := [], returnType := none }, accessFlags := 0, code := none }
def k12c1 : Code := { maxStack := 2, maxLocals := 2, code := jdk_52_method_15_code, exceptionTable := #[], attributes := #[] }
def k12m1 : Method := { name := "coderFromArrayLen", desc := "([BI)B", sig := { parameters := [(.array .byte), .int], returnType := some .byte }, accessFlags := 8, code := some k12c1 }
def k12c2 : Code := { maxStack := 5, maxLocals := 6, code := jdk_52_method_16_code, exceptionTable := #[], attributes := #[] }
def k12m2 : Method := { name := "compress", desc := "([CII)[B", sig := { parameters := [(.array .char), .int, .int], returnType := some (.array .byte) }, accessFlags := 9, code := some k12c2 }
def k12c3 : Code := { maxStack := 3, maxLocals := 7, code := jdk_52_method_21_code, exceptionTable := #[], attributes := #[] }
def k12m3 : Method := { name := "compress", desc := "([CI[BII)I", sig := { parameters := [(.array .char), .int, (.array .byte), .int, .int], returnType := some .int }, accessFlags := 9, code := some k12c3 }
/-- java/lang/StringUTF16 -/
def k12 : Class := { plain "java/lang/StringUTF16" (some 0) with
  accessFlags := 48
  interfaces := #[]
  cf := some (fileOf pool12 12 #[.nestMembers #[627, 629, 369]] #[{ accessFlags := 0, nameIndex := 9, descriptorIndex := 10, attributes := #[] }, { accessFlags := 8, nameIndex := 261, descriptorIndex := 262, attributes := #[] }, { accessFlags := 9, nameIndex := 117, descriptorIndex := 122, attributes := #[] }, { accessFlags := 9, nameIndex := 117, descriptorIndex := 118, attributes := #[] }] 48 6 #[] #[{ accessFlags := 26, nameIndex := 61, descriptorIndex := 62, attributes := #[] }, { accessFlags := 26, nameIndex := 65, descriptorIndex := 62, attributes := #[] }, { accessFlags := 24, nameIndex := 430, descriptorIndex := 62, attributes := #[] }, { accessFlags := 4120, nameIndex := 46, descriptorIndex := 47, attributes := #[] }])
  fields := #[{ name := "HI_BYTE_SHIFT", type := .int, accessFlags := 26, slot := 0, constantValue := 0 }, { name := "LO_BYTE_SHIFT", type := .int, accessFlags := 26, slot := 1, constantValue := 0 }, { name := "MAX_LENGTH", type := .int, accessFlags := 24, slot := 2, constantValue := 0 }, { name := "$assertionsDisabled", type := .boolean, accessFlags := 4120, slot := 3, constantValue := 0 }]
  methods := #[k12m0, k12m1, k12m2, k12m3]
  instanceTypes := #[]
  staticTypes := #[.int, .int, .int, .boolean]
  resolved := Array.replicate 635 none
  statics := none }

def pool13 : Array CpInfo := pool [(2, .class_ 4), (1, u "java/lang/Object"), (0, u "<init>"), (0, u "()V"), (17, .class_ 26), (1, u "jdk/internal/util/Preconditions"), (28, .class_ 56), (0, u "jdk/internal/util/Preconditions$4"), (57, .class_ 115), (0, u "jdk/internal/util/Preconditions$1"), (7, u "SIOOBE_FORMATTER"), (0, u "Ljava/util/function/BiFunction;"), (0, .class_ 126), (0, u "jdk/internal/util/Preconditions$2"), (3, u "AIOOBE_FORMATTER"), (0, .class_ 132), (0, u "jdk/internal/util/Preconditions$3"), (3, u "IOOBE_FORMATTER")] 57

def k13m0 : Method := { name := "<init>", desc := "()V", sig := { parameters := [], returnType := none }, accessFlags := 1, code := none }
/-- jdk/internal/util/Preconditions -/
def k13 : Class := { plain "jdk/internal/util/Preconditions" (some 0) with
  accessFlags := 33
  interfaces := #[]
  cf := some (fileOf pool13 24 #[.nestMembers #[55, 131, 125, 114]] #[{ accessFlags := 1, nameIndex := 5, descriptorIndex := 6, attributes := #[] }] 33 2 #[] #[{ accessFlags := 25, nameIndex := 123, descriptorIndex := 124, attributes := #[] }, { accessFlags := 25, nameIndex := 130, descriptorIndex := 124, attributes := #[] }, { accessFlags := 25, nameIndex := 136, descriptorIndex := 124, attributes := #[] }])
  fields := #[{ name := "SIOOBE_FORMATTER", type := (.object "java/util/function/BiFunction"), accessFlags := 25, slot := 0, constantValue := 0 }, { name := "AIOOBE_FORMATTER", type := (.object "java/util/function/BiFunction"), accessFlags := 25, slot := 1, constantValue := 0 }, { name := "IOOBE_FORMATTER", type := (.object "java/util/function/BiFunction"), accessFlags := 25, slot := 2, constantValue := 0 }]
  methods := #[k13m0]
  instanceTypes := #[]
  staticTypes := #[(.object "java/util/function/BiFunction"), (.object "java/util/function/BiFunction"), (.object "java/util/function/BiFunction")]
  resolved := Array.replicate 194 none
  statics := some 1 }

def pool14 : Array CpInfo := pool [(9, u "<init>"), (6, .class_ 18), (1, u "java/lang/Object"), (0, u "()V"), (1, .class_ 23), (1, u "jdk/internal/util/ArraysSupport"), (0, u "LOG2_ARRAY_LONG_INDEX_SCALE"), (0, u "I"), (2, u "U"), (0, u "Ljdk/internal/misc/Unsafe;"), (8, u "BIG_ENDIAN"), (0, u "Z"), (8, u "LOG2_BYTE_BIT_SIZE"), (4, u "LOG2_ARRAY_INT_INDEX_SCALE"), (54, u "JLA"), (0, u "Ljdk/internal/access/JavaLangAccess;"), (11, u "LOG2_ARRAY_BOOLEAN_INDEX_SCALE"), (9, u "LOG2_ARRAY_BYTE_INDEX_SCALE"), (5, u "LOG2_ARRAY_CHAR_INDEX_SCALE"), (5, u "LOG2_ARRAY_SHORT_INDEX_SCALE"), (18, u "LOG2_ARRAY_FLOAT_INDEX_SCALE"), (24, u "LOG2_ARRAY_DOUBLE_INDEX_SCALE"), (89, u "T_BOOLEAN"), (2, u "T_CHAR"), (1, u "T_FLOAT"), (1, u "T_DOUBLE"), (1, u "T_BYTE"), (1, u "T_SHORT"), (1, u "T_INT"), (1, u "T_LONG"), (1, u "SOFT_MAX_ARRAY_LENGTH")] 83

def k14m0 : Method := { name := "<init>", desc := "()V", sig := { parameters := [], returnType := none }, accessFlags := 2, code := none }
/-- jdk/internal/util/ArraysSupport -/
def k14 : Class := { plain "jdk/internal/util/ArraysSupport" (some 0) with
  accessFlags := 33
  interfaces := #[]
  cf := some (fileOf pool14 21 #[] #[{ accessFlags := 2, nameIndex := 9, descriptorIndex := 19, attributes := #[] }] 33 16 #[] #[{ accessFlags := 24, nameIndex := 28, descriptorIndex := 29, attributes := #[] }, { accessFlags := 26, nameIndex := 38, descriptorIndex := 39, attributes := #[] }, { accessFlags := 25, nameIndex := 121, descriptorIndex := 25, attributes := #[] }, { accessFlags := 25, nameIndex := 131, descriptorIndex := 25, attributes := #[] }, { accessFlags := 25, nameIndex := 137, descriptorIndex := 25, attributes := #[] }, { accessFlags := 25, nameIndex := 143, descriptorIndex := 25, attributes := #[] }, { accessFlags := 25, nameIndex := 53, descriptorIndex := 25, attributes := #[] }, { accessFlags := 25, nameIndex := 24, descriptorIndex := 25, attributes := #[] }, { accessFlags := 25, nameIndex := 162, descriptorIndex := 25, attributes := #[] }, { accessFlags := 25, nameIndex := 187, descriptorIndex := 25, attributes := #[] }, { accessFlags := 26, nameIndex := 48, descriptorIndex := 25, attributes := #[] }, { accessFlags := 25, nameIndex := 277, descriptorIndex := 25, attributes := #[] }, { accessFlags := 25, nameIndex := 280, descriptorIndex := 25, attributes := #[] }, { accessFlags := 25, nameIndex := 282, descriptorIndex := 25, attributes := #[] }, { accessFlags := 25, nameIndex := 284, descriptorIndex := 25, attributes := #[] }, { accessFlags := 25, nameIndex := 286, descriptorIndex := 25, attributes := #[] }, { accessFlags := 25, nameIndex := 288, descriptorIndex := 25, attributes := #[] }, { accessFlags := 25, nameIndex := 290, descriptorIndex := 25, attributes := #[] }, { accessFlags := 25, nameIndex := 292, descriptorIndex := 25, attributes := #[] }, { accessFlags := 26, nameIndex := 108, descriptorIndex := 109, attributes := #[] }, { accessFlags := 25, nameIndex := 294, descriptorIndex := 25, attributes := #[] }])
  fields := #[{ name := "U", type := (.object "jdk/internal/misc/Unsafe"), accessFlags := 24, slot := 0, constantValue := 0 }, { name := "BIG_ENDIAN", type := .boolean, accessFlags := 26, slot := 1, constantValue := 0 }, { name := "LOG2_ARRAY_BOOLEAN_INDEX_SCALE", type := .int, accessFlags := 25, slot := 2, constantValue := 0 }, { name := "LOG2_ARRAY_BYTE_INDEX_SCALE", type := .int, accessFlags := 25, slot := 3, constantValue := 0 }, { name := "LOG2_ARRAY_CHAR_INDEX_SCALE", type := .int, accessFlags := 25, slot := 4, constantValue := 0 }, { name := "LOG2_ARRAY_SHORT_INDEX_SCALE", type := .int, accessFlags := 25, slot := 5, constantValue := 0 }, { name := "LOG2_ARRAY_INT_INDEX_SCALE", type := .int, accessFlags := 25, slot := 6, constantValue := 0 }, { name := "LOG2_ARRAY_LONG_INDEX_SCALE", type := .int, accessFlags := 25, slot := 7, constantValue := 0 }, { name := "LOG2_ARRAY_FLOAT_INDEX_SCALE", type := .int, accessFlags := 25, slot := 8, constantValue := 0 }, { name := "LOG2_ARRAY_DOUBLE_INDEX_SCALE", type := .int, accessFlags := 25, slot := 9, constantValue := 0 }, { name := "LOG2_BYTE_BIT_SIZE", type := .int, accessFlags := 26, slot := 10, constantValue := 0 }, { name := "T_BOOLEAN", type := .int, accessFlags := 25, slot := 11, constantValue := 0 }, { name := "T_CHAR", type := .int, accessFlags := 25, slot := 12, constantValue := 0 }, { name := "T_FLOAT", type := .int, accessFlags := 25, slot := 13, constantValue := 0 }, { name := "T_DOUBLE", type := .int, accessFlags := 25, slot := 14, constantValue := 0 }, { name := "T_BYTE", type := .int, accessFlags := 25, slot := 15, constantValue := 0 }, { name := "T_SHORT", type := .int, accessFlags := 25, slot := 16, constantValue := 0 }, { name := "T_INT", type := .int, accessFlags := 25, slot := 17, constantValue := 0 }, { name := "T_LONG", type := .int, accessFlags := 25, slot := 18, constantValue := 0 }, { name := "JLA", type := (.object "jdk/internal/access/JavaLangAccess"), accessFlags := 26, slot := 19, constantValue := 0 }, { name := "SOFT_MAX_ARRAY_LENGTH", type := .int, accessFlags := 25, slot := 20, constantValue := 0 }]
  methods := #[k14m0]
  instanceTypes := #[]
  staticTypes := #[(.object "jdk/internal/misc/Unsafe"), .boolean, .int, .int, .int, .int, .int, .int, .int, .int, .int, .int, .int, .int, .int, .int, .int, .int, .int, (.object "jdk/internal/access/JavaLangAccess"), .int]
  resolved := Array.replicate 378 none
  statics := none }

def pool15 : Array CpInfo := pool [(1, u "java/lang/Cloneable"), (0, .class_ 1), (0, u "java/lang/Object"), (0, .class_ 3)] 3

/-- java/lang/Cloneable -/
def k15 : Class := { plain "java/lang/Cloneable" (some 0) with
  accessFlags := 1537
  interfaces := #[]
  cf := some (fileOf pool15 2 #[] #[] 1537 4 #[] #[])
  fields := #[]
  methods := #[]
  instanceTypes := #[]
  staticTypes := #[]
  resolved := Array.replicate 8 none
  statics := none }

/-- the primitive byte -/
def k16 : Class := { plain "byte" none with kind := .primitive 'B', accessFlags := 0x411 }
/-- [B -/
def k17 : Class := { plain "[B" (some 0) with kind := .array 16 .byte, interfaces := #[15, 2], accessFlags := 1041 }

/-- the primitive char -/
def k18 : Class := { plain "char" none with kind := .primitive 'C', accessFlags := 0x411 }
/-- [C -/
def k19 : Class := { plain "[C" (some 0) with kind := .array 18 .char, interfaces := #[15, 2], accessFlags := 1041 }

/-- the primitive int -/
def k20 : Class := { plain "int" none with kind := .primitive 'I', accessFlags := 0x411 }
/-- [I -/
def k21 : Class := { plain "[I" (some 0) with kind := .array 20 .int, interfaces := #[15, 2], accessFlags := 1041 }

def heap : Heap := #[{ cls := 7, slots := #[.long 0, .int 1, .null, .int 0, .null, .int 0, .int 0], vm := .statics 7 },
  { cls := 13, slots := #[.null, .null, .null], vm := .statics 13 }]
def classes : Array Class := #[k0, k1, k2, k3, k4, k5, k6, k7, k8, k9, k10, k11, k12, k13, k14, k15, k16, k17, k18, k19, k20, k21]
def interned : List (Array UInt16 × Addr) := []
def slotsUsed : Nat := 10
def theMethod : MethodId := ⟨1, 2⟩
def args0 : Array Value := #[.int 1, .int 2, .int 3, .int 4]
def aboutOver (below : List Frame) : State where
  vm := { classes := classes, interned := interned.toArray }
  heap := heap
  slotsUsed := slotsUsed
  threads := #[{ frames := .invoking theMethod args0 :: below }]
def below0 : List Frame := [.native { method := ⟨0, 0⟩, args := #[] }]
def about1 : State := aboutOver below0
def p0 : Program := .bare "" "" ""
def e0 : Env := launch0.env 0 0 0
theorem w_frames : about1.frames = Frame.invoking theMethod args0 :: below0 := rfl
set_option maxRecDepth 65536 in
theorem w_args : argsFit about1.vm theMethod args0 = true := by decide +kernel
set_option maxRecDepth 65536 in
theorem w_heap : heapFits about1 = true := by decide +kernel
set_option maxRecDepth 65536 in
theorem w_runnable : about1.curStatus? = some .runnable := by decide +kernel
set_option maxRecDepth 65536 in
theorem w_alone : about1.alone = true := by decide +kernel
set_option maxRecDepth 65536 in
theorem w_named : about1.methodNamed? x = some theMethod := by decide +kernel
set_option maxRecDepth 65536 in
theorem w_hears : about1.hears theMethod below0 = true := by decide +kernel
set_option maxRecDepth 65536 in
theorem w_ripe : about1.ripe theMethod args0 below0 = true := by decide +kernel
theorem w_running : about1.status = .running := rfl
set_option maxRecDepth 65536 in
theorem w_room : about1.hasRoom e0.platform room_1 = true :=
  launch0.hasRoom_least _ room_1 (by decide +kernel) (by decide +kernel) (by decide +kernel) (by decide +kernel) (by decide +kernel) (by decide +kernel)
theorem allAtoms_all (ts : List Jvm.Cond) (a : Array Jvm.Value) (st : Jvm.State) : (allAtoms ts).before a st = ts.all (fun c => c.before a st) := by
  induction ts with
  | nil => rfl
  | cons c t ih =>
    show (Jvm.Cond.and c (allAtoms t)).before a st = _
    rw [Jvm.Cond.before_and, ih, List.all_cons]
def words1 : List Jvm.Cond := Jvm.Cond.code x code maxLocals ret :: tables_1
/-- a 'code' word, met by the world's own term for the bytes: nothing is compared byte by byte -/
theorem code_word {y : MethodName} {bytes : ByteArray} {mx : Nat} {rt : Option FieldType} {a : Array Value} {s : State} {m : MethodId} {meth : Method} {c : Code} (h1 : s.methodNamed? y = some m) (h2 : s.vm.method? m = some meth) (h3 : meth.code = some c) (h4 : c.code = bytes)
    (h5 : (c.maxLocals == mx && c.exceptionTable.isEmpty && decide (c.maxStack ≤ mostOperands) && decide (meth.sig.returnType = rt) && !meth.locks && decide (parseMethodDescriptor y.desc = some meth.sig)) = true) : (Jvm.Cond.code y bytes mx rt).before a s = true := by
  simp only [Bool.and_eq_true, beq_iff_eq, Bool.not_eq_true', decide_eq_true_eq] at h5
  obtain ⟨⟨⟨⟨⟨g1, g2⟩, g3⟩, g4⟩, g5⟩, g6⟩ := h5
  simp [Cond.before, Cond.holds, Cond.value, h1, h2, h3, h4, g1, g2, g3, g4, g5, g6]
def isCode : Jvm.Cond → Bool
  | .code _ _ _ _ => true
  | _ => false
theorem all_split {L : List Jvm.Cond} {P : Jvm.Cond → Bool} (h1 : L.all (fun c => isCode c || P c) = true) (h2 : ∀ c ∈ L.filter isCode, P c = true) : L.all P = true := by
  refine List.all_eq_true.mpr fun c hc => ?_
  have h := List.all_eq_true.mp h1 c hc
  rcases Bool.eq_false_or_eq_true (isCode c) with hi | hi
  · exact h2 c (List.mem_filter.mpr ⟨hc, hi⟩)
  · simpa [hi] using h
set_option maxRecDepth 65536 in
theorem w_c0 : (Jvm.Cond.code x code maxLocals ret).before args0 about1 = true := code_word (m := ⟨1, 2⟩) (meth := k1m2) (c := k1c2) (by decide +kernel) rfl rfl rfl (by decide +kernel)
set_option maxRecDepth 65536 in
theorem w_c1 : (Jvm.Cond.code ({ cls := "com/example/assort/assort/ResultOfPinLaw", name := "str", desc := "(II)Ljava/lang/String;" } : Jvm.MethodName) method_2_code (4 : Nat) (Option.some (Jvm.ClassFile.FieldType.object "java/lang/String"))).before args0 about1 = true := code_word (m := ⟨1, 1⟩) (meth := k1m1) (c := k1c1) (by decide +kernel) rfl rfl rfl (by decide +kernel)
set_option maxRecDepth 65536 in
theorem w_c2 : (Jvm.Cond.code ({ cls := "java/lang/String", name := "valueOf", desc := "(C)Ljava/lang/String;" } : Jvm.MethodName) jdk_42_method_139_code (1 : Nat) (Option.some (Jvm.ClassFile.FieldType.object "java/lang/String"))).before args0 about1 = true := code_word (m := ⟨7, 4⟩) (meth := k7m4) (c := k7c4) (by decide +kernel) rfl rfl rfl (by decide +kernel)
set_option maxRecDepth 65536 in
theorem w_c3 : (Jvm.Cond.code ({ cls := "java/lang/StringLatin1", name := "canEncode", desc := "(C)Z" } : Jvm.MethodName) jdk_43_method_3_code (1 : Nat) (Option.some Jvm.ClassFile.FieldType.boolean)).before args0 about1 = true := code_word (m := ⟨8, 1⟩) (meth := k8m1) (c := k8c1) (by decide +kernel) rfl rfl rfl (by decide +kernel)
set_option maxRecDepth 65536 in
theorem w_c4 : (Jvm.Cond.code ({ cls := "java/lang/StringLatin1", name := "toBytes", desc := "(C)[B" } : Jvm.MethodName) jdk_43_method_46_code (1 : Nat) (Option.some (Jvm.ClassFile.FieldType.array Jvm.ClassFile.FieldType.byte))).before args0 about1 = true := code_word (m := ⟨8, 2⟩) (meth := k8m2) (c := k8c2) (by decide +kernel) rfl rfl rfl (by decide +kernel)
set_option maxRecDepth 65536 in
theorem w_c5 : (Jvm.Cond.code ({ cls := "java/lang/String", name := "<init>", desc := "([BB)V" } : Jvm.MethodName) jdk_42_method_151_code (3 : Nat) (Option.none : Option Jvm.ClassFile.FieldType)).before args0 about1 = true := code_word (m := ⟨7, 6⟩) (meth := k7m6) (c := k7c6) (by decide +kernel) rfl rfl rfl (by decide +kernel)
set_option maxRecDepth 65536 in
theorem w_c6 : (Jvm.Cond.code ({ cls := "java/lang/Object", name := "<init>", desc := "()V" } : Jvm.MethodName) object_method_1_code (1 : Nat) (Option.none : Option Jvm.ClassFile.FieldType)).before args0 about1 = true := code_word (m := ⟨0, 0⟩) (meth := k0m0) (c := k0c0) (by decide +kernel) rfl rfl rfl (by decide +kernel)
set_option maxRecDepth 65536 in
theorem w_c7 : (Jvm.Cond.code ({ cls := "java/lang/String", name := "<init>", desc := "([C)V" } : Jvm.MethodName) jdk_42_method_3_code (2 : Nat) (Option.none : Option Jvm.ClassFile.FieldType)).before args0 about1 = true := code_word (m := ⟨7, 1⟩) (meth := k7m1) (c := k7c1) (by decide +kernel) rfl rfl rfl (by decide +kernel)
set_option maxRecDepth 65536 in
theorem w_c8 : (Jvm.Cond.code ({ cls := "java/lang/String", name := "<init>", desc := "([CIILjava/lang/Void;)V" } : Jvm.MethodName) jdk_42_method_149_code (6 : Nat) (Option.none : Option Jvm.ClassFile.FieldType)).before args0 about1 = true := code_word (m := ⟨7, 5⟩) (meth := k7m5) (c := k7c5) (by decide +kernel) rfl rfl rfl (by decide +kernel)
set_option maxRecDepth 65536 in
theorem w_c9 : (Jvm.Cond.code ({ cls := "com/example/assort/assort/TrecDocument", name := "<init>", desc := "(Ljava/lang/String;Ljava/lang/String;Ljava/lang/String;)V" } : Jvm.MethodName) prog_26_method_1_code (4 : Nat) (Option.none : Option Jvm.ClassFile.FieldType)).before args0 about1 = true := code_word (m := ⟨9, 0⟩) (meth := k9m0) (c := k9c0) (by decide +kernel) rfl rfl rfl (by decide +kernel)
set_option maxRecDepth 65536 in
theorem w_c10 : (Jvm.Cond.code ({ cls := "java/util/Objects", name := "requireNonNull", desc := "(Ljava/lang/Object;Ljava/lang/String;)Ljava/lang/Object;" } : Jvm.MethodName) jdk_31_method_11_code (2 : Nat) (Option.some (Jvm.ClassFile.FieldType.object "java/lang/Object"))).before args0 about1 = true := code_word (m := ⟨10, 1⟩) (meth := k10m1) (c := k10c1) (by decide +kernel) rfl rfl rfl (by decide +kernel)
set_option maxRecDepth 65536 in
theorem w_c11 : (Jvm.Cond.code ({ cls := "com/example/assort/assort/Result", name := "of", desc := "(ILcom/example/assort/assort/TrecDocument;)Lcom/example/assort/assort/Result;" } : Jvm.MethodName) prog_20_method_2_code (2 : Nat) (Option.some (Jvm.ClassFile.FieldType.object "com/example/assort/assort/Result"))).before args0 about1 = true := code_word (m := ⟨11, 1⟩) (meth := k11m1) (c := k11c1) (by decide +kernel) rfl rfl rfl (by decide +kernel)
set_option maxRecDepth 65536 in
theorem w_c12 : (Jvm.Cond.code ({ cls := "com/example/assort/assort/TrecDocument", name := "title", desc := "()Ljava/lang/String;" } : Jvm.MethodName) prog_26_method_3_code (1 : Nat) (Option.some (Jvm.ClassFile.FieldType.object "java/lang/String"))).before args0 about1 = true := code_word (m := ⟨9, 1⟩) (meth := k9m1) (c := k9c1) (by decide +kernel) rfl rfl rfl (by decide +kernel)
set_option maxRecDepth 65536 in
theorem w_c13 : (Jvm.Cond.code ({ cls := "com/example/assort/assort/TrecDocument", name := "text", desc := "()Ljava/lang/String;" } : Jvm.MethodName) prog_26_method_4_code (1 : Nat) (Option.some (Jvm.ClassFile.FieldType.object "java/lang/String"))).before args0 about1 = true := code_word (m := ⟨9, 2⟩) (meth := k9m2) (c := k9c2) (by decide +kernel) rfl rfl rfl (by decide +kernel)
set_option maxRecDepth 65536 in
theorem w_c14 : (Jvm.Cond.code ({ cls := "com/example/assort/assort/Result", name := "<init>", desc := "(ILjava/lang/String;Ljava/lang/String;Ljava/lang/String;)V" } : Jvm.MethodName) prog_20_method_1_code (5 : Nat) (Option.none : Option Jvm.ClassFile.FieldType)).before args0 about1 = true := code_word (m := ⟨11, 0⟩) (meth := k11m0) (c := k11c0) (by decide +kernel) rfl rfl rfl (by decide +kernel)
set_option maxRecDepth 65536 in
theorem w_c15 : (Jvm.Cond.code ({ cls := "com/example/assort/assort/Result", name := "rank", desc := "()I" } : Jvm.MethodName) prog_20_method_3_code (1 : Nat) (Option.some Jvm.ClassFile.FieldType.int)).before args0 about1 = true := code_word (m := ⟨11, 2⟩) (meth := k11m2) (c := k11c2) (by decide +kernel) rfl rfl rfl (by decide +kernel)
set_option maxRecDepth 65536 in
theorem w_c16 : (Jvm.Cond.code ({ cls := "com/example/assort/assort/Result", name := "title", desc := "()Ljava/lang/String;" } : Jvm.MethodName) prog_20_method_4_code (1 : Nat) (Option.some (Jvm.ClassFile.FieldType.object "java/lang/String"))).before args0 about1 = true := code_word (m := ⟨11, 3⟩) (meth := k11m3) (c := k11c3) (by decide +kernel) rfl rfl rfl (by decide +kernel)
set_option maxRecDepth 65536 in
theorem w_c17 : (Jvm.Cond.code ({ cls := "java/lang/String", name := "equals", desc := "(Ljava/lang/Object;)Z" } : Jvm.MethodName) jdk_42_method_66_code (3 : Nat) (Option.some Jvm.ClassFile.FieldType.boolean)).before args0 about1 = true := code_word (m := ⟨7, 3⟩) (meth := k7m3) (c := k7c3) (by decide +kernel) rfl rfl rfl (by decide +kernel)
set_option maxRecDepth 65536 in
theorem w_c18 : (Jvm.Cond.code ({ cls := "com/example/assort/assort/Result", name := "snippet", desc := "()Ljava/lang/String;" } : Jvm.MethodName) prog_20_method_5_code (1 : Nat) (Option.some (Jvm.ClassFile.FieldType.object "java/lang/String"))).before args0 about1 = true := code_word (m := ⟨11, 4⟩) (meth := k11m4) (c := k11c4) (by decide +kernel) rfl rfl rfl (by decide +kernel)
set_option maxRecDepth 65536 in
theorem w_c19 : (Jvm.Cond.code ({ cls := "com/example/assort/assort/Result", name := "url", desc := "()Ljava/lang/String;" } : Jvm.MethodName) prog_20_method_6_code (1 : Nat) (Option.some (Jvm.ClassFile.FieldType.object "java/lang/String"))).before args0 about1 = true := code_word (m := ⟨11, 5⟩) (meth := k11m5) (c := k11c5) (by decide +kernel) rfl rfl rfl (by decide +kernel)
set_option maxRecDepth 65536 in
theorem w_c20 : (Jvm.Cond.code ({ cls := "java/lang/String", name := "isEmpty", desc := "()Z" } : Jvm.MethodName) jdk_42_method_55_code (1 : Nat) (Option.some Jvm.ClassFile.FieldType.boolean)).before args0 about1 = true := code_word (m := ⟨7, 2⟩) (meth := k7m2) (c := k7c2) (by decide +kernel) rfl rfl rfl (by decide +kernel)
set_option maxRecDepth 65536 in
theorem w_c21 : (Jvm.Cond.code ({ cls := "java/lang/StringUTF16", name := "compress", desc := "([CII)[B" } : Jvm.MethodName) jdk_52_method_16_code (6 : Nat) (Option.some (Jvm.ClassFile.FieldType.array Jvm.ClassFile.FieldType.byte))).before args0 about1 = true := code_word (m := ⟨12, 2⟩) (meth := k12m2) (c := k12c2) (by decide +kernel) rfl rfl rfl (by decide +kernel)
set_option maxRecDepth 65536 in
theorem w_c22 : (Jvm.Cond.code ({ cls := "java/lang/StringUTF16", name := "compress", desc := "([CI[BII)I" } : Jvm.MethodName) jdk_52_method_21_code (7 : Nat) (Option.some Jvm.ClassFile.FieldType.int)).before args0 about1 = true := code_word (m := ⟨12, 3⟩) (meth := k12m3) (c := k12c3) (by decide +kernel) rfl rfl rfl (by decide +kernel)
set_option maxRecDepth 65536 in
theorem w_c23 : (Jvm.Cond.code ({ cls := "java/lang/StringUTF16", name := "coderFromArrayLen", desc := "([BI)B" } : Jvm.MethodName) jdk_52_method_15_code (2 : Nat) (Option.some Jvm.ClassFile.FieldType.byte)).before args0 about1 = true := code_word (m := ⟨12, 1⟩) (meth := k12m1) (c := k12c1) (by decide +kernel) rfl rfl rfl (by decide +kernel)
def codes1 : List Jvm.Cond := [Jvm.Cond.code x code maxLocals ret, Jvm.Cond.code ({ cls := "com/example/assort/assort/ResultOfPinLaw", name := "str", desc := "(II)Ljava/lang/String;" } : Jvm.MethodName) method_2_code (4 : Nat) (Option.some (Jvm.ClassFile.FieldType.object "java/lang/String")), Jvm.Cond.code ({ cls := "java/lang/String", name := "valueOf", desc := "(C)Ljava/lang/String;" } : Jvm.MethodName) jdk_42_method_139_code (1 : Nat) (Option.some (Jvm.ClassFile.FieldType.object "java/lang/String")), Jvm.Cond.code ({ cls := "java/lang/StringLatin1", name := "canEncode", desc := "(C)Z" } : Jvm.MethodName) jdk_43_method_3_code (1 : Nat) (Option.some Jvm.ClassFile.FieldType.boolean), Jvm.Cond.code ({ cls := "java/lang/StringLatin1", name := "toBytes", desc := "(C)[B" } : Jvm.MethodName) jdk_43_method_46_code (1 : Nat) (Option.some (Jvm.ClassFile.FieldType.array Jvm.ClassFile.FieldType.byte)), Jvm.Cond.code ({ cls := "java/lang/String", name := "<init>", desc := "([BB)V" } : Jvm.MethodName) jdk_42_method_151_code (3 : Nat) (Option.none : Option Jvm.ClassFile.FieldType), Jvm.Cond.code ({ cls := "java/lang/Object", name := "<init>", desc := "()V" } : Jvm.MethodName) object_method_1_code (1 : Nat) (Option.none : Option Jvm.ClassFile.FieldType), Jvm.Cond.code ({ cls := "java/lang/String", name := "<init>", desc := "([C)V" } : Jvm.MethodName) jdk_42_method_3_code (2 : Nat) (Option.none : Option Jvm.ClassFile.FieldType), Jvm.Cond.code ({ cls := "java/lang/String", name := "<init>", desc := "([CIILjava/lang/Void;)V" } : Jvm.MethodName) jdk_42_method_149_code (6 : Nat) (Option.none : Option Jvm.ClassFile.FieldType), Jvm.Cond.code ({ cls := "com/example/assort/assort/TrecDocument", name := "<init>", desc := "(Ljava/lang/String;Ljava/lang/String;Ljava/lang/String;)V" } : Jvm.MethodName) prog_26_method_1_code (4 : Nat) (Option.none : Option Jvm.ClassFile.FieldType), Jvm.Cond.code ({ cls := "java/util/Objects", name := "requireNonNull", desc := "(Ljava/lang/Object;Ljava/lang/String;)Ljava/lang/Object;" } : Jvm.MethodName) jdk_31_method_11_code (2 : Nat) (Option.some (Jvm.ClassFile.FieldType.object "java/lang/Object")), Jvm.Cond.code ({ cls := "com/example/assort/assort/Result", name := "of", desc := "(ILcom/example/assort/assort/TrecDocument;)Lcom/example/assort/assort/Result;" } : Jvm.MethodName) prog_20_method_2_code (2 : Nat) (Option.some (Jvm.ClassFile.FieldType.object "com/example/assort/assort/Result")), Jvm.Cond.code ({ cls := "com/example/assort/assort/TrecDocument", name := "title", desc := "()Ljava/lang/String;" } : Jvm.MethodName) prog_26_method_3_code (1 : Nat) (Option.some (Jvm.ClassFile.FieldType.object "java/lang/String")), Jvm.Cond.code ({ cls := "com/example/assort/assort/TrecDocument", name := "text", desc := "()Ljava/lang/String;" } : Jvm.MethodName) prog_26_method_4_code (1 : Nat) (Option.some (Jvm.ClassFile.FieldType.object "java/lang/String")), Jvm.Cond.code ({ cls := "com/example/assort/assort/Result", name := "<init>", desc := "(ILjava/lang/String;Ljava/lang/String;Ljava/lang/String;)V" } : Jvm.MethodName) prog_20_method_1_code (5 : Nat) (Option.none : Option Jvm.ClassFile.FieldType), Jvm.Cond.code ({ cls := "com/example/assort/assort/Result", name := "rank", desc := "()I" } : Jvm.MethodName) prog_20_method_3_code (1 : Nat) (Option.some Jvm.ClassFile.FieldType.int), Jvm.Cond.code ({ cls := "com/example/assort/assort/Result", name := "title", desc := "()Ljava/lang/String;" } : Jvm.MethodName) prog_20_method_4_code (1 : Nat) (Option.some (Jvm.ClassFile.FieldType.object "java/lang/String")), Jvm.Cond.code ({ cls := "java/lang/String", name := "equals", desc := "(Ljava/lang/Object;)Z" } : Jvm.MethodName) jdk_42_method_66_code (3 : Nat) (Option.some Jvm.ClassFile.FieldType.boolean), Jvm.Cond.code ({ cls := "com/example/assort/assort/Result", name := "snippet", desc := "()Ljava/lang/String;" } : Jvm.MethodName) prog_20_method_5_code (1 : Nat) (Option.some (Jvm.ClassFile.FieldType.object "java/lang/String")), Jvm.Cond.code ({ cls := "com/example/assort/assort/Result", name := "url", desc := "()Ljava/lang/String;" } : Jvm.MethodName) prog_20_method_6_code (1 : Nat) (Option.some (Jvm.ClassFile.FieldType.object "java/lang/String")), Jvm.Cond.code ({ cls := "java/lang/String", name := "isEmpty", desc := "()Z" } : Jvm.MethodName) jdk_42_method_55_code (1 : Nat) (Option.some Jvm.ClassFile.FieldType.boolean), Jvm.Cond.code ({ cls := "java/lang/StringUTF16", name := "compress", desc := "([CII)[B" } : Jvm.MethodName) jdk_52_method_16_code (6 : Nat) (Option.some (Jvm.ClassFile.FieldType.array Jvm.ClassFile.FieldType.byte)), Jvm.Cond.code ({ cls := "java/lang/StringUTF16", name := "compress", desc := "([CI[BII)I" } : Jvm.MethodName) jdk_52_method_21_code (7 : Nat) (Option.some Jvm.ClassFile.FieldType.int), Jvm.Cond.code ({ cls := "java/lang/StringUTF16", name := "coderFromArrayLen", desc := "([BI)B" } : Jvm.MethodName) jdk_52_method_15_code (2 : Nat) (Option.some Jvm.ClassFile.FieldType.byte)]
set_option maxRecDepth 65536 in
theorem codes_eq : words1.filter isCode = codes1 := rfl
theorem w_codes : ∀ c ∈ words1.filter isCode, c.before args0 about1 = true := by
  rw [codes_eq]
  intro c hc
  simp only [codes1, List.mem_cons, List.not_mem_nil, or_false] at hc
  rcases hc with rfl | rfl | rfl | rfl | rfl | rfl | rfl | rfl | rfl | rfl | rfl | rfl | rfl | rfl | rfl | rfl | rfl | rfl | rfl | rfl | rfl | rfl | rfl | rfl
  · exact w_c0
  · exact w_c1
  · exact w_c2
  · exact w_c3
  · exact w_c4
  · exact w_c5
  · exact w_c6
  · exact w_c7
  · exact w_c8
  · exact w_c9
  · exact w_c10
  · exact w_c11
  · exact w_c12
  · exact w_c13
  · exact w_c14
  · exact w_c15
  · exact w_c16
  · exact w_c17
  · exact w_c18
  · exact w_c19
  · exact w_c20
  · exact w_c21
  · exact w_c22
  · exact w_c23
set_option maxRecDepth 65536 in
theorem w_t1 : (words1.take 24).all (fun c => isCode c || c.before args0 about1) = true := by decide +kernel
set_option maxRecDepth 65536 in
theorem w_t2 : ((words1.drop 24).take 24).all (fun c => isCode c || c.before args0 about1) = true := by decide +kernel
set_option maxRecDepth 65536 in
theorem w_t3 : (((words1.drop 24).drop 24).take 24).all (fun c => isCode c || c.before args0 about1) = true := by decide +kernel
set_option maxRecDepth 65536 in
theorem w_t4 : ((((words1.drop 24).drop 24).drop 24).take 24).all (fun c => isCode c || c.before args0 about1) = true := by decide +kernel
set_option maxRecDepth 65536 in
theorem w_t5 : (((((words1.drop 24).drop 24).drop 24).drop 24).take 24).all (fun c => isCode c || c.before args0 about1) = true := by decide +kernel
set_option maxRecDepth 65536 in
theorem w_t6 : (((((words1.drop 24).drop 24).drop 24).drop 24).drop 24).all (fun c => isCode c || c.before args0 about1) = true := by decide +kernel
theorem w_tables : (allAtoms (Jvm.Cond.code x code maxLocals ret :: tables_1)).before args0 about1 = true := by
  rw [allAtoms_all]
  show words1.all (fun c => c.before args0 about1) = true
  refine all_split ?_ w_codes
  rw [← List.take_append_drop 24 words1, List.all_append, w_t1, ← List.take_append_drop 24 (words1.drop 24), List.all_append, w_t2, ← List.take_append_drop 24 ((words1.drop 24).drop 24), List.all_append, w_t3, ← List.take_append_drop 24 (((words1.drop 24).drop 24).drop 24), List.all_append, w_t4, ← List.take_append_drop 24 ((((words1.drop 24).drop 24).drop 24).drop 24), List.all_append, w_t5, w_t6]
  rfl
set_option maxRecDepth 65536 in
theorem w_rest : rest_1_c.before args0 about1 = true := by decide +kernel
set_option maxRecDepth 65536 in
theorem w_case : (Jvm.Cond.and given_1 narrow_1).before args0 about1 = true := by decide +kernel
set_option maxRecDepth 65536 in
theorem w_consts : constsHeld consts_1 about1 := Jvm.Lit.constsHeldB_iff.mp (by decide +kernel)
theorem w_applies : (headSpec (Jvm.Cond.code x code maxLocals ret :: tables_1) room_1).applies x e0.platform about1 = true :=
  (Spec.applies_iff w_frames).mpr ⟨w_running, w_runnable, w_alone, w_named, w_hears, w_ripe, w_room, w_tables⟩
theorem atStart : AtStart classFile x code maxLocals ret World_1 tables_1 room_1 Calls_1 rest_1 Pre_1 launch0 p0 e0 about1 theMethod args0 below0 :=
  ⟨lists_1, trivial, launch0.admits_env _ _ _, launch0.least_env, fairChoices_fair.cas, fairChoices_fair.clock, w_frames, w_args, w_heap, w_applies, ⟨w_consts, trivial⟩, w_rest, w_case⟩
end start1
theorem witness_1 : WitnessClaimed_1 := ⟨start1.p0, start1.e0, start1.about1, start1.theMethod, start1.args0, start1.below0, start1.atStart⟩
end Jvm.Pilot.@@N@@
