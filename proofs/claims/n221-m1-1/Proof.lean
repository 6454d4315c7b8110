import JvmDerived
import JvmDerived.Pilot.@@N@@Statement
import JvmDerived.Pilot.@@N@@Code
set_option linter.unusedVariables false
set_option linter.unusedSimpArgs false
/- laws to paste: Road.backV, Road.lenW, Road.chN, Road.eqW, Road.codOf (cut by pick.py; bodies as the Statement names them) -/
namespace Jvm.Pilot.@@N@@
namespace StrChars
open Jvm Sem ClassFile Op Lib Jvm.Stand Jvm.Free.XT Jvm.Free.ALB Jvm.Free.JM Jvm.Free
open Jvm.Lib.Cold (StaticIs)
/-- a char array whose places are chars -/
def Ch (a : Addr) (A : Cell) (U : State) : Prop := Arr .char a A U ∧ Typed .char A
theorem Ch.mv {a : Addr} {A : Cell} {U U' : State} (h : Ch a A U) (hal : U.vm.Alike U'.vm) (hh : U'.heap = U.heap) : Ch a A U' := ⟨h.1.mv hal hh, h.2⟩
theorem Ch.keep {a : Addr} {A : Cell} {U U' : State} (h : Ch a A U) (hal : U.vm.Alike U'.vm) (hk : U'.heap[a]? = some A) : Ch a A U' := ⟨h.1.keep hal hk, h.2⟩
/-- what place i of a char[]'s cell holds -/
def cv (A : Cell) (i : Nat) : Int32 := match A.slots[i]? with | some (.int x) => x | _ => 0
theorem Ch.get {a : Addr} {A : Cell} {U : State} (h : Ch a A U) {i : Nat} (hi : i < A.slots.size) : A.slots[i]? = some (.int (cv A i)) := by
  have e := Array.getElem?_eq_getElem hi
  have f := h.2 i _ e
  unfold cv; rw [e]
  generalize A.slots[i] = v at f
  cases v <;> simp [fits] at f ⊢
/-- the byte that i2b leaves of a char -/
def lo8 (x : Int32) : Int32 := x.toInt8.toInt32
theorem fits_lo8 (y : Int32) : fits .byte (.int (lo8 y)) = true := by
  have h1 := y.toInt8.le_toInt
  have h2 := y.toInt8.toInt_lt
  simp only [lo8, fits, Bool.and_eq_true, decide_eq_true_eq, Int32.le_iff_toInt_le, Int8.toInt_toInt32, show (-128 : Int32).toInt = -128 from by decide, show (127 : Int32).toInt = 127 from by decide]
  omega
/-- A' is A but that each place j of lo .. hi - 1 holds f j -/
def Laid (A A' : Cell) (lo hi : Nat) (f : Nat → Value) : Prop := A'.cls = A.cls ∧ A'.vm = A.vm ∧ A'.slots.size = A.slots.size ∧ ∀ i, A'.slots[i]? = if lo ≤ i ∧ i < hi then some (f i) else A.slots[i]?
theorem Laid.zero (A : Cell) (lo : Nat) (f : Nat → Value) : Laid A A lo (lo + 0) f := ⟨rfl, rfl, rfl, fun i => by rw [if_neg (by omega)]⟩
theorem Laid.step {A Ak : Cell} {lo k : Nat} {f : Nat → Value} {v : Value} (h : Laid A Ak lo k f) (hlo : lo ≤ k) (hk : k < Ak.slots.size) (hv : v = f k) : Laid A (Ak.setSlot k v) lo (k + 1) f := by
  refine ⟨h.1, h.2.1, by simpa [Cell.setSlot] using h.2.2.1, fun i => ?_⟩
  by_cases e : k = i
  · subst e; rw [Cell.slots_setSlot_self v hk, if_pos (by omega), hv]
  · rw [Cell.slots_setSlot_ne v e, h.2.2.2 i]
    by_cases q : lo ≤ i ∧ i < k
    · rw [if_pos q, if_pos (by omega)]
    · rw [if_neg q, if_neg (by omega)]
def U16 : String := "java/lang/StringUTF16"
namespace Cmp5
def yN : MethodName := ⟨"java/lang/StringUTF16", "compress", "([CI[BII)I"⟩
abbrev yB : ByteArray := jdk_52_method_21_code
theorem d0 : decode yB 0 = .ok (.iconst 0, 1) := by decide +kernel
theorem d1 : decode yB 1 = .ok (.istore 5, 2) := by decide +kernel
theorem d3 : decode yB 3 = .ok (.iload 5, 2) := by decide +kernel
theorem d5 : decode yB 5 = .ok (.iload 4, 2) := by decide +kernel
theorem d7 : decode yB 7 = .ok (.if_icmp (.ge) 37, 3) := by decide +kernel
theorem d10 : decode yB 10 = .ok (.aload_n 0, 1) := by decide +kernel
theorem d11 : decode yB 11 = .ok (.iload_n 1, 1) := by decide +kernel
theorem d12 : decode yB 12 = .ok (.caload, 1) := by decide +kernel
theorem d13 : decode yB 13 = .ok (.istore 6, 2) := by decide +kernel
theorem d15 : decode yB 15 = .ok (.iload 6, 2) := by decide +kernel
theorem d17 : decode yB 17 = .ok (.sipush 255, 3) := by decide +kernel
theorem d20 : decode yB 20 = .ok (.if_icmp (.le) 6, 3) := by decide +kernel
theorem d26 : decode yB 26 = .ok (.aload_n 2, 1) := by decide +kernel
theorem d27 : decode yB 27 = .ok (.iload_n 3, 1) := by decide +kernel
theorem d28 : decode yB 28 = .ok (.iload 6, 2) := by decide +kernel
theorem d30 : decode yB 30 = .ok (.i2b, 1) := by decide +kernel
theorem d31 : decode yB 31 = .ok (.bastore, 1) := by decide +kernel
theorem d32 : decode yB 32 = .ok (.iinc 1 1, 3) := by decide +kernel
theorem d35 : decode yB 35 = .ok (.iinc 3 1, 3) := by decide +kernel
theorem d38 : decode yB 38 = .ok (.iinc 5 1, 3) := by decide +kernel
theorem d41 : decode yB 41 = .ok (.goto (-38), 3) := by decide +kernel
theorem d44 : decode yB 44 = .ok (.iload 4, 2) := by decide +kernel
theorem d46 : decode yB 46 = .ok (.ireturn, 1) := by decide +kernel
def site : List Cond := []
def tab : Cond := tabOf yN yB 7 (some .int) site
def P (b : Addr) (A : Cell) (d : Addr) (B : Cell) (o q len : Nat) (args : Array Value) (s : State) : Prop := args = #[.ref b, .int (Int32.ofNat o), .ref d, .int (Int32.ofNat q), .int (Int32.ofNat len)] ∧ Ch b A s ∧ Arr .byte d B s ∧ b ≠ d ∧ o + len ≤ A.slots.size ∧ q + len ≤ B.slots.size ∧ ∀ i, i < len → ¬ 255 < cv A (o + i)
def E (b : Addr) (A : Cell) (d : Addr) (B : Cell) (o q len : Nat) (r : Option Value) (s u : State) : Prop := r = some (.int (Int32.ofNat len)) ∧ ∃ B', Put d B' s u ∧ Laid B B' q (q + len) (fun j => Value.int (lo8 (cv A (o + (j - q)))))
/-- no char of the range above 255: len; the places written hold each char's low byte -/
theorem law (l : Launch) (b : Addr) (A : Cell) (d : Addr) (B : Cell) (o q len : Nat) : Law l yN 5 5 0 0 yB 7 (some .int) site (P b A d B o q len) (E b A d B o q len) (copyLocs d q len) 0 0 := by
  refine Law.of_walk (plainFor_of_name (by decide +kernel)) (by decide +kernel) (by decide +kernel) (by decide) (fun _ _ h => by rw [h.1]; rfl) (fun _ U U' hal hh h => ⟨h.1, h.2.1.mv hal hh, h.2.2.1.mv hal hh, h.2.2.2⟩) (fun r U U' V V' h1 hal h2 h => ⟨h.1, h.2.elim fun B' q => ⟨B', q.1.mv h1 h2, q.2⟩⟩) ?_
  intro p e s m args below meth c s₁ X0 hexec hbytes hml hret hlk hnm hown hh0 W hP
  obtain ⟨rfl, hA, hB, hne, l1, l2, hp⟩ := hP
  have c1 : Steps p.tables e below (s₁.setTop (entryFrame m #[.ref b, .int (Int32.ofNat o), .ref d, .int (Int32.ofNat q), .int (Int32.ofNat len)] 7)) (s₁.setTop (mkF m 0 #[.val (.ref b), .val (.int (Int32.ofNat o)), .val (.ref d), .val (.int (Int32.ofNat q)), .val (.int (Int32.ofNat len)), .unset, .unset] [])) := entry rfl
  have hA0 := hA.1.mv X0.warmed.alike hh0
  have hB0 := hB.mv X0.warmed.alike hh0
  have a31 := hA.1.2.2.2
  have c2 : Steps p.tables e below (s₁.setTop (entryFrame m #[.ref b, .int (Int32.ofNat o), .ref d, .int (Int32.ofNat q), .int (Int32.ofNat len)] 7)) (s₁.setTop (mkF m 3 #[.val (.ref b), .val (.int (Int32.ofNat o)), .val (.ref d), .val (.int (Int32.ofNat q)), .val (.int (Int32.ofNat len)), .val (.int 0), .unset] [])) := c1.trans (by
    refine iconstV X0.here hexec rfl 0 (hb hbytes d0) (by decide) ?_
    refine XS.istore X0.here hexec rfl (hb hbytes d1) rfl rfl ?_
    exact Steps.refl _)
  have loop : ∀ (r i : Nat), i + r = len → ∀ (z : Slot), (z = .unset ∨ ∃ w, z = .val w ∧ w.category = 1) → ∀ (Tl : State) (Bk : Cell), Stand p l e { frames := 0, locals := 0, cells := 0, slots := 0 } s m #[.ref b, .int (Int32.ofNat o), .ref d, .int (Int32.ofNat q), .int (Int32.ofNat len)] below meth c Tl ([] ++ copyLocs d q i) 0 0 → Put d Bk s₁ Tl → Laid B Bk q (q + i) (fun j => Value.int (lo8 (cv A (o + (j - q))))) →
      Steps p.tables e below (s₁.setTop (entryFrame m #[.ref b, .int (Int32.ofNat o), .ref d, .int (Int32.ofNat q), .int (Int32.ofNat len)] 7)) (Tl.setTop (mkF m 3 #[.val (.ref b), .val (.int (Int32.ofNat (o + i))), .val (.ref d), .val (.int (Int32.ofNat (q + i))), .val (.int (Int32.ofNat len)), .val (.int (Int32.ofNat i)), z] [])) → ∃ (T' : State) (B' : Cell) (z' : Slot), Stand p l e { frames := 0, locals := 0, cells := 0, slots := 0 } s m #[.ref b, .int (Int32.ofNat o), .ref d, .int (Int32.ofNat q), .int (Int32.ofNat len)] below meth c T' ([] ++ copyLocs d q len) 0 0 ∧ Put d B' s₁ T' ∧ Laid B B' q (q + len) (fun j => Value.int (lo8 (cv A (o + (j - q))))) ∧
      Steps p.tables e below (s₁.setTop (entryFrame m #[.ref b, .int (Int32.ofNat o), .ref d, .int (Int32.ofNat q), .int (Int32.ofNat len)] 7)) (T'.setTop (mkF m 3 #[.val (.ref b), .val (.int (Int32.ofNat (o + len))), .val (.ref d), .val (.int (Int32.ofNat (q + len))), .val (.int (Int32.ofNat len)), .val (.int (Int32.ofNat len)), z'] [])) := by
    intro r
    induction r with
    | zero =>
      intro i hi z hz Tl Bk Xl pl fl cl
      have hil : i = len := by omega
      rw [hil] at Xl fl cl
      exact ⟨Tl, Bk, z, Xl, pl, fl, cl⟩
    | succ r ih =>
      intro i hi z hz Tl Bk Xl pl fl cl
      have all := X0.warmed.alike.symm.trans Xl.warmed.alike
      have hAl := hA0.keep all (pl.other hne hA0.1)
      have hBk := hB0.like all pl.1 fl.1 fl.2.1 fl.2.2.1
      have hlt : q + i < Bk.slots.size := by rw [fl.2.2.1]; omega
      have c3 : Steps p.tables e below (s₁.setTop (entryFrame m #[.ref b, .int (Int32.ofNat o), .ref d, .int (Int32.ofNat q), .int (Int32.ofNat len)] 7)) (Tl.setTop (mkF m 12 #[.val (.ref b), .val (.int (Int32.ofNat (o + i))), .val (.ref d), .val (.int (Int32.ofNat (q + i))), .val (.int (Int32.ofNat len)), .val (.int (Int32.ofNat i)), z] [.int (Int32.ofNat (o + i)), .ref b])) := cl.trans (by
        refine XS.iload Xl.here hexec rfl (hb hbytes d3) rfl ?_
        refine XS.iload Xl.here hexec rfl (hb hbytes d5) rfl ?_
        refine XS.icmpNo Xl.here hexec rfl (hb hbytes d7) rfl (ii_ge_f (lt32 (by omega) (by omega))) ?_
        refine XS.aloadN Xl.here hexec rfl (hb hbytes d10) rfl rfl ?_
        refine XS.iloadN Xl.here hexec rfl (hb hbytes d11) rfl ?_
        exact Steps.refl _)
      have c4 : Steps p.tables e below (s₁.setTop (entryFrame m #[.ref b, .int (Int32.ofNat o), .ref d, .int (Int32.ofNat q), .int (Int32.ofNat len)] 7)) (Tl.setTop (mkF m 13 #[.val (.ref b), .val (.int (Int32.ofNat (o + i))), .val (.ref d), .val (.int (Int32.ofNat (q + i))), .val (.int (Int32.ofNat len)), .val (.int (Int32.ofNat i)), z] [.int (cv A (o + i))])) := c3.trans (by
        refine Xl.aget hexec hAl rfl (hA.get (i := o + i) (by omega)) rfl rfl (hb hbytes d12) ?_
        exact Steps.refl _)
      have c5 : Steps p.tables e below (s₁.setTop (entryFrame m #[.ref b, .int (Int32.ofNat o), .ref d, .int (Int32.ofNat q), .int (Int32.ofNat len)] 7)) (Tl.setTop (mkF m 15 #[.val (.ref b), .val (.int (Int32.ofNat (o + i))), .val (.ref d), .val (.int (Int32.ofNat (q + i))), .val (.int (Int32.ofNat len)), .val (.int (Int32.ofNat i)), .val (.int (cv A (o + i)))] [])) := c4.trans (by
        refine XS.istoreS Xl.here hexec rfl (hb hbytes d13) rfl rfl hz ?_
        exact Steps.refl _)
      have c6 : Steps p.tables e below (s₁.setTop (entryFrame m #[.ref b, .int (Int32.ofNat o), .ref d, .int (Int32.ofNat q), .int (Int32.ofNat len)] 7)) (Tl.setTop (mkF m 31 #[.val (.ref b), .val (.int (Int32.ofNat (o + i))), .val (.ref d), .val (.int (Int32.ofNat (q + i))), .val (.int (Int32.ofNat len)), .val (.int (Int32.ofNat i)), .val (.int (cv A (o + i)))] [.int (lo8 (cv A (o + i))), .int (Int32.ofNat (q + i)), .ref d])) := c5.trans (by
        refine XS.iload Xl.here hexec rfl (hb hbytes d15) rfl ?_
        refine sipushV Xl.here hexec rfl 255 (hb hbytes d17) (by decide) ?_
        refine XS.icmpYes Xl.here hexec rfl (pc0 := 20) rfl (hb hbytes d20) rfl (ii_le_t (hp i (by omega))) (by decide) rfl ?_
        refine XS.aloadN Xl.here hexec rfl (hb hbytes d26) rfl rfl ?_
        refine XS.iloadN Xl.here hexec rfl (hb hbytes d27) rfl ?_
        refine XS.iload Xl.here hexec rfl (hb hbytes d28) rfl ?_
        refine i2b Xl.here hexec rfl (hb hbytes d30) rfl ?_
        exact Steps.refl _)
      obtain ⟨T7, X7, p7, st7⟩ := Xl.aput hexec hBk rfl hlt rfl (fits_lo8 (cv A (o + i))) (g := (mkF m 31 #[.val (.ref b), .val (.int (Int32.ofNat (o + i))), .val (.ref d), .val (.int (Int32.ofNat (q + i))), .val (.int (Int32.ofNat len)), .val (.int (Int32.ofNat i)), .val (.int (cv A (o + i)))] [.int (lo8 (cv A (o + i))), .int (Int32.ofNat (q + i)), .ref d])) rfl (rest := []) rfl (hb hbytes d31)
      have c8 : Steps p.tables e below (s₁.setTop (entryFrame m #[.ref b, .int (Int32.ofNat o), .ref d, .int (Int32.ofNat q), .int (Int32.ofNat len)] 7)) (T7.setTop (mkF m 32 #[.val (.ref b), .val (.int (Int32.ofNat (o + i))), .val (.ref d), .val (.int (Int32.ofNat (q + i))), .val (.int (Int32.ofNat len)), .val (.int (Int32.ofNat i)), .val (.int (cv A (o + i)))] [])) := c6.trans (st7 _ (Steps.refl _))
      have c9 : Steps p.tables e below (s₁.setTop (entryFrame m #[.ref b, .int (Int32.ofNat o), .ref d, .int (Int32.ofNat q), .int (Int32.ofNat len)] 7)) (T7.setTop (mkF m 3 #[.val (.ref b), .val (.int (Int32.ofNat (o + i) + 1)), .val (.ref d), .val (.int (Int32.ofNat (q + i) + 1)), .val (.int (Int32.ofNat len)), .val (.int (Int32.ofNat i + 1)), .val (.int (cv A (o + i)))] [])) := c8.trans (by
        refine iincV X7.here hexec rfl 1 (hb hbytes d32) (by decide) rfl rfl ?_
        refine iincV X7.here hexec rfl 1 (hb hbytes d35) (by decide) rfl rfl ?_
        refine iincV X7.here hexec rfl 1 (hb hbytes d38) (by decide) rfl rfl ?_
        refine XS.goto X7.here hexec rfl (pc0 := 41) rfl (hb hbytes d41) (by decide) rfl ?_
        exact Steps.refl _)
      have c10 : Steps p.tables e below (s₁.setTop (entryFrame m #[.ref b, .int (Int32.ofNat o), .ref d, .int (Int32.ofNat q), .int (Int32.ofNat len)] 7)) (T7.setTop (mkF m 3 #[.val (.ref b), .val (.int (Int32.ofNat (o + (i + 1)))), .val (.ref d), .val (.int (Int32.ofNat (q + (i + 1)))), .val (.int (Int32.ofNat len)), .val (.int (Int32.ofNat (i + 1))), .val (.int (cv A (o + i)))] [])) := by
        have := c9
        rw [succ32, succ32, succ32] at this
        exact this
      exact ih (i + 1) (by omega) _ (Or.inr ⟨_, rfl, rfl⟩) T7 _ (by rw [copyLocs_step, ← List.append_assoc]; exact X7) (pl.trans p7) (fl.step (by omega) hlt (by simp)) c10
  obtain ⟨T9, B9, z9, X9, p9, f9, g9⟩ := loop len 0 (by omega) .unset (Or.inl rfl) s₁ B (by simpa [copyLocs] using X0) ⟨hB0.1, fun _ _ => rfl, rfl⟩ (Laid.zero _ _ _) c2
  have c11 : Steps p.tables e below (s₁.setTop (entryFrame m #[.ref b, .int (Int32.ofNat o), .ref d, .int (Int32.ofNat q), .int (Int32.ofNat len)] 7)) (T9.setTop (mkF m 46 #[.val (.ref b), .val (.int (Int32.ofNat (o + len))), .val (.ref d), .val (.int (Int32.ofNat (q + len))), .val (.int (Int32.ofNat len)), .val (.int (Int32.ofNat len)), z9] [.int (Int32.ofNat len)])) := g9.trans (by
    refine XS.iload X9.here hexec rfl (hb hbytes d3) rfl ?_
    refine XS.iload X9.here hexec rfl (hb hbytes d5) rfl ?_
    refine XS.icmpYes X9.here hexec rfl (pc0 := 7) rfl (hb hbytes d7) rfl (ii_ge_t (nlt32 (by omega) (Nat.le_refl _))) (by decide) rfl ?_
    refine XS.iload X9.here hexec rfl (hb hbytes d44) rfl ?_
    exact Steps.refl _)
  exact ⟨T9, some (.int (Int32.ofNat len)), _, _, _, X9, by simp, rfl, rfl, (fun h => by cases h), ⟨rfl, B9, p9.from hh0, f9⟩, fun fs hl => c11.trans (X9.ireturnOut hexec hret rfl (Or.inl rfl) (hb hbytes d46) hl)⟩
end Cmp5
namespace Cmp3
def yN : MethodName := ⟨"java/lang/StringUTF16", "compress", "([CII)[B"⟩
abbrev yB : ByteArray := jdk_52_method_16_code
theorem d0 : decode yB 0 = .ok (.iload_n 2, 1) := by decide +kernel
theorem d1 : decode yB 1 = .ok (.newarray .byte, 2) := by decide +kernel
theorem d3 : decode yB 3 = .ok (.astore_n 3, 1) := by decide +kernel
theorem d4 : decode yB 4 = .ok (.aload_n 0, 1) := by decide +kernel
theorem d5 : decode yB 5 = .ok (.iload_n 1, 1) := by decide +kernel
theorem d6 : decode yB 6 = .ok (.aload_n 3, 1) := by decide +kernel
theorem d7 : decode yB 7 = .ok (.iconst 0, 1) := by decide +kernel
theorem d8 : decode yB 8 = .ok (.iload_n 2, 1) := by decide +kernel
theorem d9 : decode yB 9 = .ok (.invokestatic 115, 3) := by decide +kernel
theorem d12 : decode yB 12 = .ok (.istore 4, 2) := by decide +kernel
theorem d14 : decode yB 14 = .ok (.iload 4, 2) := by decide +kernel
theorem d16 : decode yB 16 = .ok (.iload_n 2, 1) := by decide +kernel
theorem d17 : decode yB 17 = .ok (.if_icmp (.eq) 40, 3) := by decide +kernel
theorem d57 : decode yB 57 = .ok (.aload_n 3, 1) := by decide +kernel
theorem d58 : decode yB 58 = .ok (.areturn, 1) := by decide +kernel
def site : List Cond := [.arrayClass .byte, Cmp5.tab] ++ staticW U16 115 Cmp5.yN
def tab : Cond := tabOf yN yB 6 (some (.array .byte)) site
def P (b : Addr) (A : Cell) (o len : Nat) (args : Array Value) (s : State) : Prop := args = #[.ref b, .int (Int32.ofNat o), .int (Int32.ofNat len)] ∧ Ch b A s ∧ o + len ≤ A.slots.size ∧ len ≤ 536870912 ∧ ∀ i, i < len → ¬ 255 < cv A (o + i)
def E (b : Addr) (A : Cell) (o len : Nat) (r : Option Value) (s u : State) : Prop := NewArr .byte "[B" len (fun j => .int (lo8 (cv A (o + j)))) r s u ∧ u.heap.size = s.heap.size + 1
/-- no char of the range above 255: a new byte[] of their low bytes -/
theorem law (l : Launch) (b : Addr) (A : Cell) (o len : Nat) : Law l yN 3 3 1 18 yB 6 (some (.array .byte)) site (P b A o len) (E b A o len) [] 1 len := by
  refine Law.of_walk (plainFor_of_name (by decide +kernel)) (by decide +kernel) (by decide +kernel) (by decide) (fun _ _ h => by rw [h.1]; rfl) (fun _ U U' hal hh h => ⟨h.1, h.2.1.mv hal hh, h.2.2⟩) (fun r U U' V V' h1 hal h2 h => ⟨NewArr.mv r U U' V V' h1 hal h2 h.1, by rw [h1, h2]; exact h.2⟩) ?_
  intro p e s m args below meth c s₁ X0 hexec hbytes hml hret hlk hnm hown hh0 W hP
  obtain ⟨rfl, hA, l1, l2, hp⟩ := hP
  have a31 := hA.1.2.2.2
  have c1 : Steps p.tables e below (s₁.setTop (entryFrame m #[.ref b, .int (Int32.ofNat o), .int (Int32.ofNat len)] 6)) (s₁.setTop (mkF m 0 #[.val (.ref b), .val (.int (Int32.ofNat o)), .val (.int (Int32.ofNat len)), .unset, .unset, .unset] [])) := entry rfl
  have c2 : Steps p.tables e below (s₁.setTop (entryFrame m #[.ref b, .int (Int32.ofNat o), .int (Int32.ofNat len)] 6)) (s₁.setTop (mkF m 1 #[.val (.ref b), .val (.int (Int32.ofNat o)), .val (.int (Int32.ofNat len)), .unset, .unset, .unset] [.int (Int32.ofNat len)])) := c1.trans (by
    refine XS.iloadN X0.here hexec rfl (hb hbytes d0) rfl ?_
    exact Steps.refl _)
  obtain ⟨T3, B3, X3, ba3, bs3, bv3, bh3, bf3, st3⟩ := X0.anew hexec (atype := .byte) (wk W (.arrayClass .byte)) rfl (by show len * 1 ≤ _; omega) (by omega) (g := (mkF m 1 #[.val (.ref b), .val (.int (Int32.ofNat o)), .val (.int (Int32.ofNat len)), .unset, .unset, .unset] [.int (Int32.ofNat len)])) rfl (hb hbytes d1) (rest := []) rfl (Nat.le_refl _) (by show 0 + len ≤ len; omega)
  rw [hh0] at ba3 st3
  have kp3 : XT.Kept s T3 := (XT.Kept.of_eq hh0).push bh3
  have hA3 := hA.keep X3.warmed.alike (kp3 _ _ hA.1.1)
  have hne : b ≠ s.heap.size := hA.1.ne
  have c4 : Steps p.tables e below (s₁.setTop (entryFrame m #[.ref b, .int (Int32.ofNat o), .int (Int32.ofNat len)] 6)) (T3.setTop (mkF m 3 #[.val (.ref b), .val (.int (Int32.ofNat o)), .val (.int (Int32.ofNat len)), .unset, .unset, .unset] [.ref s.heap.size])) := c2.trans (st3 _ (Steps.refl _))
  have c5 : Steps p.tables e below (s₁.setTop (entryFrame m #[.ref b, .int (Int32.ofNat o), .int (Int32.ofNat len)] 6)) (T3.setTop (mkF m 9 #[.val (.ref b), .val (.int (Int32.ofNat o)), .val (.int (Int32.ofNat len)), .val (.ref s.heap.size), .unset, .unset] [.int (Int32.ofNat len), .int 0, .ref s.heap.size, .int (Int32.ofNat o), .ref b])) := c4.trans (by
    refine XS.astoreN X3.here hexec rfl (hb hbytes d3) rfl rfl rfl ?_
    refine XS.aloadN X3.here hexec rfl (hb hbytes d4) rfl rfl ?_
    refine XS.iloadN X3.here hexec rfl (hb hbytes d5) rfl ?_
    refine XS.aloadN X3.here hexec rfl (hb hbytes d6) rfl rfl ?_
    refine iconstV X3.here hexec rfl 0 (hb hbytes d7) (by decide) ?_
    refine XS.iloadN X3.here hexec rfl (hb hbytes d8) rfl ?_
    exact Steps.refl _)
  obtain ⟨v6, T6, X6, E6, g6⟩ := X3.callS hexec (Cmp5.law l b A s.heap.size B3 o 0 len) hown (wks W (staticW U16 115 Cmp5.yN)) (wk W Cmp5.tab) (W := 0) (Nat.le_of_ble_eq_true rfl) (Nat.le_of_ble_eq_true rfl) (Nat.le_refl _) (by show 0 + len + 0 ≤ len; omega) (g := (mkF m 9 #[.val (.ref b), .val (.int (Int32.ofNat o)), .val (.int (Int32.ofNat len)), .val (.ref s.heap.size), .unset, .unset] [.int (Int32.ofNat len), .int (Int32.ofNat 0), .ref s.heap.size, .int (Int32.ofNat o), .ref b])) rfl (by rw [hml]; rfl) c5 (argsL := [.ref b, .int (Int32.ofNat o), .ref s.heap.size, .int (Int32.ofNat 0), .int (Int32.ofNat len)]) (rest := []) rfl rfl (by show 2 * 0 + 0 ≤ _; decide) (hb hbytes d9) (⟨rfl, hA3, ba3, hne, l1, by rw [bs3]; simp, hp⟩)
  obtain ⟨rfl, B6, p6, f6⟩ := E6
  have c7 : Steps p.tables e below (s₁.setTop (entryFrame m #[.ref b, .int (Int32.ofNat o), .int (Int32.ofNat len)] 6)) (T6.setTop (mkF m 12 #[.val (.ref b), .val (.int (Int32.ofNat o)), .val (.int (Int32.ofNat len)), .val (.ref s.heap.size), .unset, .unset] [.int (Int32.ofNat len)])) := g6
  have c8 : Steps p.tables e below (s₁.setTop (entryFrame m #[.ref b, .int (Int32.ofNat o), .int (Int32.ofNat len)] 6)) (T6.setTop (mkF m 58 #[.val (.ref b), .val (.int (Int32.ofNat o)), .val (.int (Int32.ofNat len)), .val (.ref s.heap.size), .val (.int (Int32.ofNat len)), .unset] [.ref s.heap.size])) := c7.trans (by
    refine XS.istore X6.here hexec rfl (hb hbytes d12) rfl rfl ?_
    refine XS.iload X6.here hexec rfl (hb hbytes d14) rfl ?_
    refine XS.iloadN X6.here hexec rfl (hb hbytes d16) rfl ?_
    refine XS.icmpYes X6.here hexec rfl (pc0 := 17) rfl (hb hbytes d17) rfl (ii_eq_t rfl) (by decide) rfl ?_
    refine XS.aloadN X6.here hexec rfl (hb hbytes d57) rfl rfl ?_
    exact Steps.refl _)
  have X8 := X6.wide (L' := []) (cells' := 1) (slots' := len) (fun x hx hlt => by
    simp only [List.nil_append, copyLocs, List.mem_map, List.mem_range] at hx
    obtain ⟨i, -, rfl⟩ := hx
    exact absurd hlt (Nat.lt_irrefl _)) (Nat.le_refl _) (by omega)
  exact ⟨T6, some (.ref s.heap.size), _, _, _, X8, rfl, rfl, rfl, (fun h => by cases h), ⟨⟨rfl, B6, ba3.like (X3.warmed.alike.symm.trans X6.warmed.alike) p6.1 f6.1 f6.2.1 f6.2.2.1, f6.2.1.trans bv3, by rw [X6.warmed.alike.findClass, f6.1]; exact bf3, by rw [f6.2.2.1, bs3]; simp, fun j hj => by rw [f6.2.2.2 j, if_pos (by omega)]; rfl, kp3.put p6 (Nat.le_refl _)⟩, by rw [p6.2.2, bh3, hh0]; simp⟩, fun fs hl => c8.trans (X8.areturnOut hexec rfl hret rfl (hb hbytes d58) hl)⟩
end Cmp3
namespace CodL
def yN : MethodName := ⟨"java/lang/StringUTF16", "coderFromArrayLen", "([BI)B"⟩
abbrev yB : ByteArray := jdk_52_method_15_code
theorem d0 : decode yB 0 = .ok (.iload_n 1, 1) := by decide +kernel
theorem d1 : decode yB 1 = .ok (.aload_n 0, 1) := by decide +kernel
theorem d2 : decode yB 2 = .ok (.arraylength, 1) := by decide +kernel
theorem d3 : decode yB 3 = .ok (.isub, 1) := by decide +kernel
theorem d4 : decode yB 4 = .ok (.bipush 31, 2) := by decide +kernel
theorem d6 : decode yB 6 = .ok (.iushr, 1) := by decide +kernel
theorem d7 : decode yB 7 = .ok (.i2b, 1) := by decide +kernel
theorem d8 : decode yB 8 = .ok (.ireturn, 1) := by decide +kernel
def site : List Cond := []
def tab : Cond := tabOf yN yB 2 (some .byte) site
def P (d : Addr) (B : Cell) (args : Array Value) (s : State) : Prop := args = #[.ref d, .int (Int32.ofNat B.slots.size)] ∧ Arr .byte d B s
def E (r : Option Value) (s u : State) : Prop := XT.PureE (some (.int 0)) r s u
/-- an array as long as the number of chars: LATIN1 -/
theorem law (l : Launch) (d : Addr) (B : Cell) : Law l yN 2 2 0 0 yB 2 (some .byte) site (P d B) E [] 0 0 := by
  refine Law.of_walk (plainFor_of_name (by decide +kernel)) (by decide +kernel) (by decide +kernel) (by decide) (fun _ _ h => by rw [h.1]; rfl) (fun _ U U' hal hh h => ⟨h.1, h.2.mv hal hh⟩) (fun r U U' V V' h1 hal h2 h => XT.PureE.mv r U U' V V' h1 hal h2 h) ?_
  intro p e s m args below meth c s₁ X0 hexec hbytes hml hret hlk hnm hown hh0 W hP
  obtain ⟨rfl, hB⟩ := hP
  have hB0 := hB.mv X0.warmed.alike hh0
  have c1 : Steps p.tables e below (s₁.setTop (entryFrame m #[.ref d, .int (Int32.ofNat B.slots.size)] 2)) (s₁.setTop (mkF m 0 #[.val (.ref d), .val (.int (Int32.ofNat B.slots.size))] [])) := entry rfl
  have c2 : Steps p.tables e below (s₁.setTop (entryFrame m #[.ref d, .int (Int32.ofNat B.slots.size)] 2)) (s₁.setTop (mkF m 2 #[.val (.ref d), .val (.int (Int32.ofNat B.slots.size))] [.ref d, .int (Int32.ofNat B.slots.size)])) := c1.trans (by
    refine XS.iloadN X0.here hexec rfl (hb hbytes d0) rfl ?_
    refine XS.aloadN X0.here hexec rfl (hb hbytes d1) rfl rfl ?_
    exact Steps.refl _)
  have c3 : Steps p.tables e below (s₁.setTop (entryFrame m #[.ref d, .int (Int32.ofNat B.slots.size)] 2)) (s₁.setTop (mkF m 8 #[.val (.ref d), .val (.int (Int32.ofNat B.slots.size))] [.int (lo8 (ushr (Int32.ofNat B.slots.size - Int32.ofNat B.slots.size) 31))])) := c2.trans (by
    refine X0.alen hexec hB0 rfl rfl (hb hbytes d2) ?_
    refine XS.isub X0.here hexec rfl (hb hbytes d3) rfl ?_
    refine bipushV X0.here hexec rfl 31 (hb hbytes d4) (by decide) ?_
    refine iushr X0.here hexec rfl (hb hbytes d6) rfl ?_
    refine i2b X0.here hexec rfl (hb hbytes d7) rfl ?_
    exact Steps.refl _)
  have e0 : lo8 (ushr (Int32.ofNat B.slots.size - Int32.ofNat B.slots.size) 31) = 0 := by rw [Int32.sub_self]; decide
  rw [e0] at c3
  exact ⟨s₁, some (.int 0), _, _, _, X0, rfl, rfl, rfl, (fun h => by cases h), ⟨rfl, hh0⟩, fun fs hl => c3.trans (X0.ireturnOut hexec hret rfl (Or.inr (Or.inr (Or.inl rfl))) (hb hbytes d8) hl)⟩
end CodL
/-- the String at a is Latin-1 over a new byte[] (the heap's one new cell): the low bytes of the len chars of A from o on; every cell but a is kept -/
def Got (a : Addr) (D : Cell) (fV fC : Field) (A : Cell) (o len : Nat) (r : Option Value) (s u : State) : Prop := r = none ∧ ∃ D' V : Cell, Blank "java/lang/String" a D' u ∧ Same D D' [fV.slot, fC.slot] ∧ D'.slots[fV.slot]? = some (.ref s.heap.size) ∧ D'.slots[fC.slot]? = some (.int 0) ∧ Arr .byte s.heap.size V u ∧ V.vm = .none ∧ u.vm.findClass "[B" = some V.cls ∧ V.slots.size = len ∧ (∀ j, j < len → V.slots[j]? = some (.int (lo8 (cv A (o + j))))) ∧ (∀ (y : Addr) (c : Cell), y ≠ a → s.heap[y]? = some c → u.heap[y]? = some c) ∧ u.heap.size = s.heap.size + 1
theorem Got.mv {a : Addr} {D A : Cell} {fV fC : Field} {o len : Nat} : ∀ r (U U' V V' : State), U'.heap = U.heap → V.vm.Alike V'.vm → V'.heap = V.heap → Got a D fV fC A o len r U V → Got a D fV fC A o len r U' V' :=
  fun r U U' V V' h1 hal h2 ⟨e0, D', X, a1, a2, a3, a4, a5, a6, a7, a8, a9, a10, a11⟩ => ⟨e0, D', X, a1.mv hal h2, a2, by rw [h1]; exact a3, a4, by rw [h1]; exact a5.mv hal h2, a6, by rw [hal.findClass]; exact a7, a8, a9, by rw [h1, h2]; exact a10, by rw [h1, h2]; exact a11⟩
namespace New4
def yN : MethodName := ⟨"java/lang/String", "<init>", "([CIILjava/lang/Void;)V"⟩
abbrev yB : ByteArray := jdk_42_method_149_code
theorem d0 : decode yB 0 = .ok (.aload_n 0, 1) := by decide +kernel
theorem d1 : decode yB 1 = .ok (.invokespecial 1, 3) := by decide +kernel
theorem d4 : decode yB 4 = .ok (.iload_n 3, 1) := by decide +kernel
theorem d5 : decode yB 5 = .ok (.ifCond (.ne) 22, 3) := by decide +kernel
theorem d27 : decode yB 27 = .ok (.getstatic 38, 3) := by decide +kernel
theorem d30 : decode yB 30 = .ok (.ifCond (.eq) 28, 3) := by decide +kernel
theorem d33 : decode yB 33 = .ok (.aload_n 1, 1) := by decide +kernel
theorem d34 : decode yB 34 = .ok (.iload_n 2, 1) := by decide +kernel
theorem d35 : decode yB 35 = .ok (.iload_n 3, 1) := by decide +kernel
theorem d36 : decode yB 36 = .ok (.invokestatic 177, 3) := by decide +kernel
theorem d39 : decode yB 39 = .ok (.astore 5, 2) := by decide +kernel
theorem d41 : decode yB 41 = .ok (.aload_n 0, 1) := by decide +kernel
theorem d42 : decode yB 42 = .ok (.aload 5, 2) := by decide +kernel
theorem d44 : decode yB 44 = .ok (.iload_n 3, 1) := by decide +kernel
theorem d45 : decode yB 45 = .ok (.invokestatic 47, 3) := by decide +kernel
theorem d48 : decode yB 48 = .ok (.putfield 15, 3) := by decide +kernel
theorem d51 : decode yB 51 = .ok (.aload_n 0, 1) := by decide +kernel
theorem d52 : decode yB 52 = .ok (.aload 5, 2) := by decide +kernel
theorem d54 : decode yB 54 = .ok (.putfield 9, 3) := by decide +kernel
theorem d57 : decode yB 57 = .ok (.return_, 1) := by decide +kernel
def site : List Cond := [.fieldLink "java/lang/String" 38 "java/lang/String" "COMPACT_STRINGS" "Z", Cmp3.tab, CodL.tab, .laysFinal "java/lang/String" "java/lang/String" "value" "[B", .fieldLink "java/lang/String" 9 "java/lang/String" "value" "[B", .laysFinal "java/lang/String" "java/lang/String" "coder" "B", .fieldLink "java/lang/String" 15 "java/lang/String" "coder" "B"] ++ objW "java/lang/String" 1 ++ staticW "java/lang/String" 177 Cmp3.yN ++ staticW "java/lang/String" 47 CodL.yN
def tab : Cond := tabOf yN yB 6 none site
def P (a : Addr) (D : Cell) (fV fC : Field) (b : Addr) (A : Cell) (z : Int32) (o len : Nat) (args : Array Value) (s : State) : Prop := args = #[.ref a, .ref b, .int (Int32.ofNat o), .int (Int32.ofNat len), .null] ∧ Blank "java/lang/String" a D s ∧ Found "java/lang/String" "value" "[B" fV s ∧ Found "java/lang/String" "coder" "B" fC s ∧ Ch b A s ∧ StaticIs s "java/lang/String" "COMPACT_STRINGS" "Z" (.int z) ∧ ¬ z = 0 ∧ 0 < len ∧ o + len ≤ A.slots.size ∧ len ≤ 536870912 ∧ ∀ i, i < len → ¬ 255 < cv A (o + i)
def E (a : Addr) (D : Cell) (fV fC : Field) (A : Cell) (o len : Nat) (r : Option Value) (s u : State) : Prop := Got a D fV fC A o len r s u
/-- len > 0, no char of the range above 255: a Latin-1 String of their low bytes -/
theorem law (l : Launch) (a : Addr) (D : Cell) (fV fC : Field) (b : Addr) (A : Cell) (z : Int32) (o len : Nat) : Law l yN 5 4 2 35 yB 6 none site (P a D fV fC b A z o len) (E a D fV fC A o len) [⟨a, fC.slot⟩, ⟨a, fV.slot⟩] 1 len := by
  refine Law.of_walk (plainFor_of_name (by decide +kernel)) (by decide +kernel) (by decide +kernel) (by decide) (fun _ _ h => by rw [h.1]; rfl) (fun _ U U' hal hh h => ⟨h.1, h.2.1.mv hal hh, h.2.2.1.al hal, h.2.2.2.1.al hal, h.2.2.2.2.1.mv hal hh, h.2.2.2.2.2.1.there hal hh, h.2.2.2.2.2.2⟩) (fun r U U' V V' h1 hal h2 h => Got.mv r U U' V V' h1 hal h2 h) ?_
  intro p e s m args below meth c s₁ X0 hexec hbytes hml hret hlk hnm hown hh0 W hP
  obtain ⟨rfl, hB, f1, f2, hA, s1, hz, l0, l1, l2, hp⟩ := hP
  have a31 := hA.1.2.2.2
  have c1 : Steps p.tables e below (s₁.setTop (entryFrame m #[.ref a, .ref b, .int (Int32.ofNat o), .int (Int32.ofNat len), .null] 6)) (s₁.setTop (mkF m 0 #[.val (.ref a), .val (.ref b), .val (.int (Int32.ofNat o)), .val (.int (Int32.ofNat len)), .val .null, .unset] [])) := entry rfl
  have c2 : Steps p.tables e below (s₁.setTop (entryFrame m #[.ref a, .ref b, .int (Int32.ofNat o), .int (Int32.ofNat len), .null] 6)) (s₁.setTop (mkF m 1 #[.val (.ref a), .val (.ref b), .val (.int (Int32.ofNat o)), .val (.int (Int32.ofNat len)), .val .null, .unset] [.ref a])) := c1.trans (by
    refine XS.aloadN X0.here hexec rfl (hb hbytes d0) rfl rfl ?_
    exact Steps.refl _)
  obtain ⟨T3, X3, q3, st3⟩ := X0.oinit hexec hown (wks W (objW "java/lang/String" 1)) (g := (mkF m 1 #[.val (.ref a), .val (.ref b), .val (.int (Int32.ofNat o)), .val (.int (Int32.ofNat len)), .val .null, .unset] [.ref a])) rfl (by rw [hml]; rfl) (rest := []) rfl (hb hbytes d1) (W := 0) (by show 2 * 0 + 0 ≤ _; decide) (Nat.le_of_ble_eq_true rfl) (Nat.le_of_ble_eq_true rfl)
  have hh3 := q3.trans hh0
  have c4 : Steps p.tables e below (s₁.setTop (entryFrame m #[.ref a, .ref b, .int (Int32.ofNat o), .int (Int32.ofNat len), .null] 6)) (T3.setTop (mkF m 27 #[.val (.ref a), .val (.ref b), .val (.int (Int32.ofNat o)), .val (.int (Int32.ofNat len)), .val .null, .unset] [])) := (c2.trans (st3 _ (Steps.refl _))).trans (by
    refine XS.iloadN X3.here hexec rfl (hb hbytes d4) rfl ?_
    refine XS.ifYes X3.here hexec rfl (pc0 := 5) rfl (hb hbytes d5) rfl (i0_ne_t (nz32 (by omega) l0)) (by decide) rfl ?_
    exact Steps.refl _)
  obtain ⟨T5, X5, q5, st5⟩ := X3.sget hexec hown (wk W (.fieldLink "java/lang/String" 38 "java/lang/String" "COMPACT_STRINGS" "Z")) s1 (fun _ _ h => by rw [hh3]; exact h) (g := (mkF m 27 #[.val (.ref a), .val (.ref b), .val (.int (Int32.ofNat o)), .val (.int (Int32.ofNat len)), .val .null, .unset] [])) rfl (hb hbytes d27)
  have hh5 := q5.trans hh3
  have c6 : Steps p.tables e below (s₁.setTop (entryFrame m #[.ref a, .ref b, .int (Int32.ofNat o), .int (Int32.ofNat len), .null] 6)) (T5.setTop (mkF m 30 #[.val (.ref a), .val (.ref b), .val (.int (Int32.ofNat o)), .val (.int (Int32.ofNat len)), .val .null, .unset] [.int z])) := c4.trans (st5 _ (Steps.refl _))
  have c7 : Steps p.tables e below (s₁.setTop (entryFrame m #[.ref a, .ref b, .int (Int32.ofNat o), .int (Int32.ofNat len), .null] 6)) (T5.setTop (mkF m 36 #[.val (.ref a), .val (.ref b), .val (.int (Int32.ofNat o)), .val (.int (Int32.ofNat len)), .val .null, .unset] [.int (Int32.ofNat len), .int (Int32.ofNat o), .ref b])) := c6.trans (by
    refine XS.ifNo X5.here hexec rfl (hb hbytes d30) rfl (i0_eq_f hz) ?_
    refine XS.aloadN X5.here hexec rfl (hb hbytes d33) rfl rfl ?_
    refine XS.iloadN X5.here hexec rfl (hb hbytes d34) rfl ?_
    refine XS.iloadN X5.here hexec rfl (hb hbytes d35) rfl ?_
    exact Steps.refl _)
  obtain ⟨v8, T8, X8, E8, g8⟩ := X5.callS hexec (Cmp3.law l b A o len) hown (wks W (staticW "java/lang/String" 177 Cmp3.yN)) (wk W Cmp3.tab) (W := 0) (Nat.le_of_ble_eq_true rfl) (Nat.le_of_ble_eq_true rfl) (Nat.le_refl _) (by show 0 + len ≤ len; omega) (g := (mkF m 36 #[.val (.ref a), .val (.ref b), .val (.int (Int32.ofNat o)), .val (.int (Int32.ofNat len)), .val .null, .unset] [.int (Int32.ofNat len), .int (Int32.ofNat o), .ref b])) rfl (by rw [hml]; rfl) c7 (argsL := [.ref b, .int (Int32.ofNat o), .int (Int32.ofNat len)]) (rest := []) rfl rfl (by show 2 * 0 + 0 ≤ _; decide) (hb hbytes d36) (⟨rfl, hA.mv X5.warmed.alike hh5, l1, l2, hp⟩)
  obtain ⟨e8, z8⟩ := E8
  obtain ⟨rfl, N, n1, n2, n3, n4, n5, n6⟩ := NewArr.mv _ T5 s _ _ hh5.symm (Vm.Alike.refl _) rfl e8
  rw [hh5] at z8
  have hB1 := hB.keep X8.warmed.alike (n6 _ _ hB.1)
  have hne : s.heap.size ≠ a := (Nat.ne_of_lt (Array.getElem?_eq_some_iff.mp hB.1).1).symm
  have c9 : Steps p.tables e below (s₁.setTop (entryFrame m #[.ref a, .ref b, .int (Int32.ofNat o), .int (Int32.ofNat len), .null] 6)) (T8.setTop (mkF m 39 #[.val (.ref a), .val (.ref b), .val (.int (Int32.ofNat o)), .val (.int (Int32.ofNat len)), .val .null, .unset] [.ref s.heap.size])) := g8
  have c10 : Steps p.tables e below (s₁.setTop (entryFrame m #[.ref a, .ref b, .int (Int32.ofNat o), .int (Int32.ofNat len), .null] 6)) (T8.setTop (mkF m 45 #[.val (.ref a), .val (.ref b), .val (.int (Int32.ofNat o)), .val (.int (Int32.ofNat len)), .val .null, .val (.ref s.heap.size)] [.int (Int32.ofNat N.slots.size), .ref s.heap.size, .ref a])) := by
    have hc : Steps p.tables e below (s₁.setTop (entryFrame m #[.ref a, .ref b, .int (Int32.ofNat o), .int (Int32.ofNat len), .null] 6)) (T8.setTop (mkF m 45 #[.val (.ref a), .val (.ref b), .val (.int (Int32.ofNat o)), .val (.int (Int32.ofNat len)), .val .null, .val (.ref s.heap.size)] [.int (Int32.ofNat len), .ref s.heap.size, .ref a])) := c9.trans (by
      refine XS.astore X8.here hexec rfl (hb hbytes d39) rfl rfl rfl ?_
      refine XS.aloadN X8.here hexec rfl (hb hbytes d41) rfl rfl ?_
      refine XS.aload X8.here hexec rfl (hb hbytes d42) rfl rfl ?_
      refine XS.iloadN X8.here hexec rfl (hb hbytes d44) rfl ?_
      exact Steps.refl _)
    rw [n4]; exact hc
  obtain ⟨v11, T11, X11, E11, g11⟩ := X8.callS hexec (CodL.law l s.heap.size N) hown (wks W (staticW "java/lang/String" 47 CodL.yN)) (wk W CodL.tab) (W := 1) (Nat.le_of_ble_eq_true rfl) (Nat.le_of_ble_eq_true rfl) (Nat.le_refl _) (by show 0 + len + 0 ≤ len; omega) (g := (mkF m 45 #[.val (.ref a), .val (.ref b), .val (.int (Int32.ofNat o)), .val (.int (Int32.ofNat len)), .val .null, .val (.ref s.heap.size)] [.int (Int32.ofNat N.slots.size), .ref s.heap.size, .ref a])) rfl (by rw [hml]; rfl) c10 (argsL := [.ref s.heap.size, .int (Int32.ofNat N.slots.size)]) (rest := [.ref a]) rfl rfl (by show 2 * 0 + (1 + 0) ≤ _; decide) (hb hbytes d45) (⟨rfl, n1⟩)
  obtain ⟨rfl, q11⟩ := E11
  have hB11 := hB1.mv (X8.warmed.alike.symm.trans X11.warmed.alike) q11
  have c12 : Steps p.tables e below (s₁.setTop (entryFrame m #[.ref a, .ref b, .int (Int32.ofNat o), .int (Int32.ofNat len), .null] 6)) (T11.setTop (mkF m 48 #[.val (.ref a), .val (.ref b), .val (.int (Int32.ofNat o)), .val (.int (Int32.ofNat len)), .val .null, .val (.ref s.heap.size)] [.int 0, .ref a])) := g11
  obtain ⟨T13, X13, p13, bl13, sl13, st13⟩ := X11.finit hexec hown (wk W (.fieldLink "java/lang/String" 15 "java/lang/String" "coder" "B")) (Or.inr ⟨_, (wk W (.laysFinal "java/lang/String" "java/lang/String" "coder" "B"))⟩) (Or.inl ⟨rfl, hnm⟩) f2 (Or.inl rfl) hB11 (t := .byte) (by decide +kernel) rfl (g := (mkF m 48 #[.val (.ref a), .val (.ref b), .val (.int (Int32.ofNat o)), .val (.int (Int32.ofNat len)), .val .null, .val (.ref s.heap.size)] [.int 0, .ref a])) rfl (rest := []) rfl (hb hbytes d48)
  have c14 : Steps p.tables e below (s₁.setTop (entryFrame m #[.ref a, .ref b, .int (Int32.ofNat o), .int (Int32.ofNat len), .null] 6)) (T13.setTop (mkF m 54 #[.val (.ref a), .val (.ref b), .val (.int (Int32.ofNat o)), .val (.int (Int32.ofNat len)), .val .null, .val (.ref s.heap.size)] [.ref s.heap.size, .ref a])) := (c12.trans (st13 _ (Steps.refl _))).trans (by
    refine XS.aloadN X13.here hexec rfl (hb hbytes d51) rfl rfl ?_
    refine XS.aload X13.here hexec rfl (hb hbytes d52) rfl rfl ?_
    exact Steps.refl _)
  obtain ⟨T15, X15, p15, bl15, sl15, st15⟩ := X13.finit hexec hown (wk W (.fieldLink "java/lang/String" 9 "java/lang/String" "value" "[B")) (Or.inr ⟨_, (wk W (.laysFinal "java/lang/String" "java/lang/String" "value" "[B"))⟩) (Or.inl ⟨rfl, hnm⟩) f1 (Or.inl rfl) bl13 (t := (.array .byte)) (by decide +kernel) rfl (g := (mkF m 54 #[.val (.ref a), .val (.ref b), .val (.int (Int32.ofNat o)), .val (.int (Int32.ofNat len)), .val .null, .val (.ref s.heap.size)] [.ref s.heap.size, .ref a])) rfl (rest := []) rfl (hb hbytes d54)
  have c16 : Steps p.tables e below (s₁.setTop (entryFrame m #[.ref a, .ref b, .int (Int32.ofNat o), .int (Int32.ofNat len), .null] 6)) (T15.setTop (mkF m 57 #[.val (.ref a), .val (.ref b), .val (.int (Int32.ofNat o)), .val (.int (Int32.ofNat len)), .val .null, .val (.ref s.heap.size)] [])) := c14.trans (st15 _ (Steps.refl _))
  have ap := apart (Or.inr ⟨_, (wk W (.laysFinal "java/lang/String" "java/lang/String" "value" "[B"))⟩) (Or.inr ⟨_, (wk W (.laysFinal "java/lang/String" "java/lang/String" "coder" "B"))⟩) f1 f2 (t₁ := .array .byte) (t₂ := .byte) (by decide +kernel) (by decide +kernel) (by decide)
  have al := X8.warmed.alike.symm.trans X15.warmed.alike
  have n7 : T11.heap[s.heap.size]? = some N := by rw [q11]; exact n1.1
  exact ⟨T15, none, _, _, _, X15, by simp, rfl, by omega, (fun _ => rfl), ⟨rfl, _, N, bl15, ((Same.refl D _).set _ (by simp)).set _ (by simp), sl15, (Cell.slots_setSlot_ne _ ap).trans sl13, n1.keep al (p15.other hne (p13.other hne n7)), n2, by rw [al.findClass]; exact n3, n4, n5, fun y c h1 h2 => p15.other h1 (p13.other h1 (by rw [q11]; exact n6 y c h2)), by rw [p15.2.2, p13.2.2, q11]; exact z8⟩, fun fs hl => c16.trans (X15.returnOut hexec hret (hb hbytes d57) hl)⟩
end New4
namespace New1
def yN : MethodName := ⟨"java/lang/String", "<init>", "([C)V"⟩
abbrev yB : ByteArray := jdk_42_method_3_code
theorem d0 : decode yB 0 = .ok (.aload_n 0, 1) := by decide +kernel
theorem d1 : decode yB 1 = .ok (.aload_n 1, 1) := by decide +kernel
theorem d2 : decode yB 2 = .ok (.iconst 0, 1) := by decide +kernel
theorem d3 : decode yB 3 = .ok (.aload_n 1, 1) := by decide +kernel
theorem d4 : decode yB 4 = .ok (.arraylength, 1) := by decide +kernel
theorem d5 : decode yB 5 = .ok (.aconst_null, 1) := by decide +kernel
theorem d6 : decode yB 6 = .ok (.invokespecial 27, 3) := by decide +kernel
theorem d9 : decode yB 9 = .ok (.return_, 1) := by decide +kernel
def site : List Cond := [New4.tab] ++ initW "java/lang/String" 27 New4.yN
def tab : Cond := tabOf yN yB 2 none site
def P (a : Addr) (D : Cell) (fV fC : Field) (b : Addr) (A : Cell) (z : Int32) (args : Array Value) (s : State) : Prop := args = #[.ref a, .ref b] ∧ Blank "java/lang/String" a D s ∧ Found "java/lang/String" "value" "[B" fV s ∧ Found "java/lang/String" "coder" "B" fC s ∧ Ch b A s ∧ StaticIs s "java/lang/String" "COMPACT_STRINGS" "Z" (.int z) ∧ ¬ z = 0 ∧ 0 < A.slots.size ∧ A.slots.size ≤ 536870912 ∧ ∀ i, i < A.slots.size → ¬ 255 < cv A i
def E (a : Addr) (D : Cell) (fV fC : Field) (A : Cell) (r : Option Value) (s u : State) : Prop := Got a D fV fC A 0 A.slots.size r s u
/-- new String(chars), not empty, no char above 255: a Latin-1 String of their low bytes -/
theorem law (l : Launch) (a : Addr) (D : Cell) (fV fC : Field) (b : Addr) (A : Cell) (z : Int32) : Law l yN 2 1 3 52 yB 2 none site (P a D fV fC b A z) (E a D fV fC A) [⟨a, fC.slot⟩, ⟨a, fV.slot⟩] 1 A.slots.size := by
  refine Law.of_walk (plainFor_of_name (by decide +kernel)) (by decide +kernel) (by decide +kernel) (by decide) (fun _ _ h => by rw [h.1]; rfl) (fun _ U U' hal hh h => ⟨h.1, h.2.1.mv hal hh, h.2.2.1.al hal, h.2.2.2.1.al hal, h.2.2.2.2.1.mv hal hh, h.2.2.2.2.2.1.there hal hh, h.2.2.2.2.2.2⟩) (fun r U U' V V' h1 hal h2 h => Got.mv r U U' V V' h1 hal h2 h) ?_
  intro p e s m args below meth c s₁ X0 hexec hbytes hml hret hlk hnm hown hh0 W hP
  obtain ⟨rfl, hB, f1, f2, hA, s1, hz, l0, l2, hp⟩ := hP
  have c1 : Steps p.tables e below (s₁.setTop (entryFrame m #[.ref a, .ref b] 2)) (s₁.setTop (mkF m 0 #[.val (.ref a), .val (.ref b)] [])) := entry rfl
  have c2 : Steps p.tables e below (s₁.setTop (entryFrame m #[.ref a, .ref b] 2)) (s₁.setTop (mkF m 6 #[.val (.ref a), .val (.ref b)] [.null, .int (Int32.ofNat A.slots.size), .int 0, .ref b, .ref a])) := c1.trans (by
    refine XS.aloadN X0.here hexec rfl (hb hbytes d0) rfl rfl ?_
    refine XS.aloadN X0.here hexec rfl (hb hbytes d1) rfl rfl ?_
    refine iconstV X0.here hexec rfl 0 (hb hbytes d2) (by decide) ?_
    refine XS.aloadN X0.here hexec rfl (hb hbytes d3) rfl rfl ?_
    refine X0.alen hexec (hA.1.mv X0.warmed.alike hh0) rfl rfl (hb hbytes d4) ?_
    refine XS.aconstNull X0.here hexec rfl (hb hbytes d5) ?_
    exact Steps.refl _)
  obtain ⟨v3, T3, X3, E3, g3⟩ := X0.callN hexec (New4.law l a D fV fC b A z 0 A.slots.size) rfl hown (wks W (initW "java/lang/String" 27 New4.yN)) (W New4.tab (by simp only [site, List.mem_cons, List.mem_append, true_or, or_true])) (W := 0) (Nat.le_of_ble_eq_true rfl) (Nat.le_of_ble_eq_true rfl) (Nat.le_refl _) (by show 0 + A.slots.size ≤ A.slots.size; omega) (g := (mkF m 6 #[.val (.ref a), .val (.ref b)] [.null, .int (Int32.ofNat A.slots.size), .int (Int32.ofNat 0), .ref b, .ref a])) rfl (by rw [hml]; rfl) c2 (argsL := [.ref b, .int (Int32.ofNat 0), .int (Int32.ofNat A.slots.size), .null]) (rest := []) rfl rfl (by show 2 * 0 + 0 ≤ _; decide) (hb hbytes d6) (⟨rfl, hB.mv X0.warmed.alike hh0, f1.al X0.warmed.alike, f2.al X0.warmed.alike, hA.mv X0.warmed.alike hh0, s1.there X0.warmed.alike hh0, hz, l0, by omega, l2, fun i hi => by rw [Nat.zero_add]; exact hp i hi⟩)
  have e0 := Got.mv _ s₁ s _ _ hh0.symm (Vm.Alike.refl _) rfl E3
  obtain rfl := e0.1
  have c4 : Steps p.tables e below (s₁.setTop (entryFrame m #[.ref a, .ref b] 2)) (T3.setTop (mkF m 9 #[.val (.ref a), .val (.ref b)] [])) := g3
  exact ⟨T3, none, _, _, _, X3, by simp, rfl, by omega, (fun _ => rfl), e0, fun fs hl => c4.trans (X3.returnOut hexec hret (hb hbytes d9) hl)⟩
theorem pays {l : Launch} {R : Room} {p : Program} {e : Env} {below : List Frame} {s : State} {sargs : Array Value} {len W : Nat} (a : Addr) (D : Cell) (fV fC : Field) (b : Addr) (A : Cell) (z : Int32) (htab : tab.before sargs s = true) (hfr : 4 ≤ R.frames) (hlo : W + 65 ≤ R.locals) :
    Back l R p e below s sargs yN len W (fun A₁ a₁ => A₁.cells + 1 ≤ R.cells ∧ A₁.slots + A.slots.size ≤ R.slots ∧ P a D fV fC b A z a₁ A₁.U) (fun A₁ _ v₁ B₁ => E a D fV fC A v₁ A₁.U B₁.U ∧ B₁.locs = A₁.locs ++ [⟨a, fC.slot⟩, ⟨a, fV.slot⟩] ∧ B₁.cells = A₁.cells + 1 ∧ B₁.slots = A₁.slots + A.slots.size) :=
  (law l a D fV fC b A z).pays htab hfr (by omega)
end New1
/-- the byte, read back as charAt reads it, is the char -/
theorem lo8_mask {x : Int32} (h0 : ¬ x < 0) (h1 : ¬ 255 < x) : lo8 x &&& 255 = x := by
  have t : ∀ k : Fin 256, lo8 (Int32.ofNat k.val) &&& 255 = Int32.ofNat k.val := by decide +kernel
  rw [Int32.lt_iff_toInt_lt] at h0 h1
  have e0 : (0 : Int32).toInt = 0 := rfl
  have e1 : (255 : Int32).toInt = 255 := rfl
  obtain ⟨k, hk⟩ : ∃ k : Nat, x.toInt = k := ⟨x.toInt.toNat, by omega⟩
  have hx : x = Int32.ofNat k := Int32.toInt_inj.mp (by rw [hk, Int32.toInt_ofNat_small (by omega)])
  rw [hx]
  exact t ⟨k, by omega⟩
end StrChars
namespace StrChars.Road
open Jvm Sem ClassFile Op Lib Jvm.Stand Jvm.Free Jvm.Free.XT
open Jvm.Lib.Cold (StaticIs)
abbrev ST : String := "java/lang/String"
/-- every table word that New1's law asks, flat -/
abbrev words : List Jvm.Cond := [.code New1.yN New1.yB 2 none, .initialized ST, .methodLink ST 27 New4.yN, .instanceMethod New4.yN,
  .code New4.yN New4.yB 6 none, .fieldLink ST 38 ST "COMPACT_STRINGS" "Z", .laysFinal ST ST "value" "[B", .fieldLink ST 9 ST "value" "[B", .laysFinal ST ST "coder" "B", .fieldLink ST 15 ST "coder" "B",
  .methodLink ST 1 Lib.objectInit, .instanceMethod Lib.objectInit, .code Lib.objectInit ⟨#[0xb1]⟩ 1 none, .methodLink ST 177 Cmp3.yN, .static Cmp3.yN, .methodLink ST 47 CodL.yN, .static CodL.yN,
  .code Cmp3.yN Cmp3.yB 6 (some (.array .byte)), .initialized U16, .arrayClass .byte, .methodLink U16 115 Cmp5.yN, .static Cmp5.yN, .code Cmp5.yN Cmp5.yB 7 (some .int), .code CodL.yN CodL.yB 2 (some .byte)]
theorem tab_of {a : Array Value} {s : State} (h : ∀ w ∈ words, w.before a s = true) : New1.tab.before a s = true := by
  have h5 : Cmp5.tab.before a s = true := unparts (wk h (.code Cmp5.yN Cmp5.yB 7 (some .int))) (wks h (.initialized Cmp5.yN.cls :: Cmp5.site))
  have hc : CodL.tab.before a s = true := unparts (wk h (.code CodL.yN CodL.yB 2 (some .byte))) (wks h (.initialized CodL.yN.cls :: CodL.site))
  have q5 : ∀ w ∈ Cmp5.tab :: words, w.before a s = true := fun w hw => (List.mem_cons.mp hw).elim (fun e => e ▸ h5) (h w)
  have h3 : Cmp3.tab.before a s = true := unparts (wk q5 (.code Cmp3.yN Cmp3.yB 6 (some (.array .byte)))) (wks q5 (.initialized Cmp3.yN.cls :: Cmp3.site))
  have q3 : ∀ w ∈ Cmp3.tab :: CodL.tab :: words, w.before a s = true := fun w hw => (List.mem_cons.mp hw).elim (fun e => e ▸ h3) fun hw => (List.mem_cons.mp hw).elim (fun e => e ▸ hc) (h w)
  have h4 : New4.tab.before a s = true := unparts (wk q3 (.code New4.yN New4.yB 6 none)) (wks q3 (.initialized New4.yN.cls :: New4.site))
  have q4 : ∀ w ∈ New4.tab :: words, w.before a s = true := fun w hw => (List.mem_cons.mp hw).elim (fun e => e ▸ h4) (h w)
  exact unparts (wk q4 (.code New1.yN New1.yB 2 none)) (wks q4 (.initialized New1.yN.cls :: New1.site))
/-- the words ride from the start Z to the walk's own state -/
theorem moved {Z s : State} {a0 args : Array Value} (hZ : Z.Warmed39 s.vm) (hw : ∀ d ∈ words, d.before a0 Z = true) : ∀ d ∈ words, d.before args s = true := fun d hd => by
  have q := hw d hd
  have t : ∀ d ∈ words, d = .arrayClass .byte ∨ (d.onTables && d.keepsFace) = true := by decide +kernel
  rcases t d hd with rfl | t
  · exact RoadKit.mvA hZ q
  · exact RoadKit.mv hZ q t
/-- WHAT COMES BACK, over the tables of the start Z: h the heap at the call, h' behind it -/
def Q (Z : State) (x : Addr) (A : Cell) (h : Heap) (v : Option Value) (h' : Heap) (L : List Loc) : Prop := v = none ∧ (∀ y ∈ L, y.base = x) ∧ RoadKit.Keep h h' [x] ∧ h'.size = h.size + 1 ∧ RoadKit.Exa Z h' x ST ∧ RoadKit.Fld Z h' x ST "value" "[B" (.ref h.size) ∧ RoadKit.Fld Z h' x ST "coder" "B" (.int 0) ∧
  (∃ V : Cell, RoadKit.Arr Z h' h.size V .byte ∧ V.vm = .none ∧ Z.vm.findClass "[B" = some V.cls ∧ V.slots.size = A.slots.size ∧ ∀ j, j < A.slots.size → V.slots[j]? = some (.int (lo8 (cv A j)))) ∧
  ∀ (O n d : String) (w : Value), RoadKit.Fld Z h x O n d w → RoadKit.slotOf Z O n d ≠ RoadKit.slotOf Z ST "value" "[B" → RoadKit.slotOf Z O n d ≠ RoadKit.slotOf Z ST "coder" "B" → RoadKit.Fld Z h' x O n d w
/-- **new String(chars) AT A CALL, IN THE ROAD'S FORM**: for specialBack behind newO: x the fresh String, b the char[] with the cell A -/
theorem back {p : Program} {l : Launch} {e : Env} {R : Room} {s : State} {args : Array Value} {below : List Frame} {len W : Nat} {Z : State} {a0 : Array Value} {h : Heap} (hZ : Z.Warmed39 s.vm) (hw : ∀ d ∈ words, d.before a0 Z = true) {kI : Nat} (wi : (Jvm.Cond.instantiable ST kI).before a0 Z = true)
    {x b : Addr} {A : Cell} {z : Int32} {v0 c0 : Value} (E : RoadKit.Exa Z h x ST) (V : RoadKit.Fld Z h x ST "value" "[B" v0) (C : RoadKit.Fld Z h x ST "coder" "B" c0) (K : RoadKit.Arr Z h b A .char) (hty : Typed .char A) (S : RoadKit.Sta Z h ST "COMPACT_STRINGS" "Z" (.int z)) (hz : ¬ z = 0)
    (l0 : 0 < A.slots.size) (l2 : A.slots.size ≤ 536870912) (hp : ∀ i, i < A.slots.size → ¬ 255 < cv A i) (hfr : 4 ≤ R.frames) (hlo : W + 65 ≤ R.locals) :
    Back l R p e below s args New1.yN len W (fun P a => a = #[.ref x, .ref b] ∧ P.U.heap = h ∧ P.cells + 1 ≤ R.cells ∧ P.slots + A.slots.size ≤ R.slots)
      (fun P _ v B => ∃ L, Q Z x A h v B.U.heap L ∧ B.locs = P.locs ++ L ∧ B.cells = P.cells + 1 ∧ B.slots = P.slots + A.slots.size) := by
  intro m meth c P g ig mk a X hg hsize hdg hW hn hp'
  obtain ⟨rfl, rfl, r1, r2⟩ := hp'
  have al : Z.vm.Alike P.U.vm := hZ.alike.trans X.warmed.alike
  obtain ⟨D, cfV, kV, iV, fV, hD, gV, stV, knV, obV, asV, slV⟩ := id V
  obtain ⟨D', cfC, kC, iC, fC, hD', gC, stC, -, -, asC, slC⟩ := id C
  cases hD.symm.trans hD'
  obtain ⟨D2, kD, e1, e2, e3, e4, e5⟩ := id E
  cases hD.symm.trans e1
  obtain ⟨c2, k2, i1, i2, i3, -⟩ := Cond.instantiable_spec wi
  cases e2.symm.trans i1
  cases e3.symm.trans i2
  obtain ⟨kU, u1, u2⟩ := al.2.2 _ _ e3
  have hB : Blank ST x D P.U := ⟨hD, ⟨knV, fun q hq => by rw [hq] at obV; cases obV⟩, by rw [al.findClass]; exact e2, kU, u1, by rw [u2]; exact i3, by rw [u2]; exact e5 i3⟩
  have F1 : Found ST "value" "[B" fV P.U := ⟨SBG.found_only al ⟨cfV, kV, iV, gV⟩, stV⟩
  have F2 : Found ST "coder" "B" fC P.U := ⟨SBG.found_only al ⟨cfC, kC, iC, gC⟩, stC⟩
  have hA : Ch b A P.U := ⟨⟨K.1, State.isArrayOf_alike al K.2.1, K.2.2, by omega⟩, hty⟩
  have hS : StaticIs P.U ST "COMPACT_STRINGS" "Z" (.int z) := by
    obtain ⟨cfS, iS, kS, fS, st, cS, t1, t2, t3, t4, t5, t6, t7⟩ := S
    exact StaticIs.there (s := { Z with heap := P.U.heap }) ⟨cfS, iS, kS, fS, st, cS, t1, t2, t3, t4, t5, (fun q => by rw [q] at t6; cases t6), t7⟩ al rfl
  obtain ⟨v, B, X', ⟨⟨hv, E', V', q1, q2, q3, q4, q5, q6, q7, q8, q9, q10, q11⟩, hl, hc, hs⟩, st⟩ := New1.pays x D fV fC b A z (tab_of (moved hZ hw)) hfr hlo m meth c P g ig mk _ X hg hsize hdg hW hn ⟨r1, r2, rfl, hB, F1, F2, hA, hS, hz, l0, l2, hp⟩
  have al' : Z.vm.Alike B.U.vm := hZ.alike.trans X'.warmed.alike
  have hsz : E'.slots.size = D.slots.size := by
    obtain ⟨-, -, -, kB, w1, w2, w3⟩ := q1
    obtain ⟨kB', y1, y2⟩ := al'.2.2 _ _ e3
    rw [q2.2.1] at w1
    cases w1.symm.trans y1
    rw [w3, e5 i3, y2]
  refine ⟨v, B, X', ⟨_, ⟨hv, ?_, ⟨by omega, fun y cy hy hn' => q10 y cy (by simpa using hn') hy, fun y cy hy => ?_⟩, q11, ⟨E', _, q1.1, by rw [q2.2.1]; exact e2, by rw [q2.2.1]; exact e3, by rw [q2.1]; exact obV, fun _ => by rw [hsz]; exact e5 i3⟩,
    ⟨E', cfV, kV, iV, fV, q1.1, gV, stV, by rw [q2.1]; exact knV, by rw [q2.1]; exact obV, by rw [q2.2.1]; exact asV, q3⟩, ⟨E', cfC, kC, iC, fC, q1.1, gC, stC, by rw [q2.1]; exact knV, by rw [q2.1]; exact obV, by rw [q2.2.1]; exact asC, q4⟩,
    ⟨V', ⟨q5.1, State.isArrayOf_alike al'.symm q5.2.1, q5.2.2.1⟩, q6, by rw [← al'.findClass]; exact q7, q8, fun j hj => by have := q9 j hj; rwa [Nat.zero_add] at this⟩, fun O n d w F n1 n2 => ?_⟩, hl, hc, hs⟩, st⟩
  · intro y hy
    simp only [List.mem_cons, List.not_mem_nil, or_false] at hy
    rcases hy with rfl | rfl <;> rfl
  · by_cases q : y = x
    · subst q
      cases hD.symm.trans hy
      exact ⟨E', q1.1, q2.2.1, q2.1, hsz⟩
    · exact ⟨cy, q10 y cy q hy, rfl, rfl, rfl⟩
  · obtain ⟨D3, cf, k, i, f, g1, g2, g3, g4, g5, g6, g7⟩ := F
    cases hD.symm.trans g1
    simp only [RoadKit.slotOf, g2, gV, gC, Option.map_some, Option.getD_some] at n1 n2
    exact ⟨E', cf, k, i, f, q1.1, g2, g3, by rw [q2.1]; exact g4, by rw [q2.1]; exact g5, by rw [q2.2.1]; exact g6, by rw [q2.2.2 f.slot (by simp [n1, n2])]; exact g7⟩
end StrChars.Road
namespace StrChars.Road
open Jvm Sem ClassFile Op Lib Jvm.Stand Jvm.Free Jvm.Free.XT
/-- WHAT COMES BACK, the byte[] as a list of values -/
def QA (Z : State) (x : Addr) (zn : Int32) (cs : List Int32) (h : Heap) (v : Option Value) (h' : Heap) (L : List Loc) : Prop := v = none ∧ (∀ y ∈ L, y.base = x) ∧ RoadKit.Keep h h' [x] ∧ h'.size = h.size + 1 ∧ RoadKit.Exa Z h' x ST ∧ RoadKit.Fld Z h' x ST "value" "[B" (.ref h.size) ∧ RoadKit.Fld Z h' x ST "coder" "B" (.int 0) ∧
  (∃ kb, Z.vm.findClass "[B" = some kb ∧ RoadKit.Arv Z h' h.size kb .byte zn (cs.map fun c => .int (lo8 c)) (.int 0)) ∧
  ∀ (O n d : String) (w : Value), RoadKit.Fld Z h x O n d w → RoadKit.slotOf Z O n d ≠ RoadKit.slotOf Z ST "value" "[B" → RoadKit.slotOf Z O n d ≠ RoadKit.slotOf Z ST "coder" "B" → RoadKit.Fld Z h' x O n d w
/-- **new String(chars) AT A CALL, THE ARRAYS AS LISTS**: the char[] at b holds cs, not empty, no char above 255 -/
theorem backArv {p : Program} {l : Launch} {e : Env} {R : Room} {s : State} {args : Array Value} {below : List Frame} {len W : Nat} {Z : State} {a0 : Array Value} {h : Heap} (hZ : Z.Warmed39 s.vm) (hw : ∀ d ∈ words, d.before a0 Z = true) {kI : Nat} (wi : (Jvm.Cond.instantiable ST kI).before a0 Z = true)
    {x b : Addr} {k : ClassId} {zn z : Int32} {cs : List Int32} {dv v0 c0 : Value} (E : RoadKit.Exa Z h x ST) (V : RoadKit.Fld Z h x ST "value" "[B" v0) (C : RoadKit.Fld Z h x ST "coder" "B" c0) (K : RoadKit.Arv Z h b k .char zn (cs.map Value.int) dv) (S : RoadKit.Sta Z h ST "COMPACT_STRINGS" "Z" (.int z)) (hz : ¬ z = 0)
    (hlen : zn.toNatClampNeg = cs.length) (h0 : 0 < cs.length) (hbig : cs.length ≤ 536870912) (hall : ∀ c ∈ cs, ¬ 255 < c) (hfr : 4 ≤ R.frames) (hlo : W + 65 ≤ R.locals) :
    Back l R p e below s args New1.yN len W (fun P a => a = #[.ref x, .ref b] ∧ P.U.heap = h ∧ P.cells + 1 ≤ R.cells ∧ P.slots + cs.length ≤ R.slots)
      (fun P _ v B => ∃ L, QA Z x zn cs h v B.U.heap L ∧ B.locs = P.locs ++ L ∧ B.cells = P.cells + 1 ∧ B.slots = P.slots + cs.length) := by
  obtain ⟨A, K1, K2, K3, K4, K5, K6⟩ := K
  have e : A.slots.size = cs.length := K3.trans hlen
  have hat : ∀ (i : Nat) (hi : i < cs.length), A.slots[i]? = some (.int cs[i]) := fun i hi => by rw [K5 i (by omega)]; simp [List.getD_eq_getElem?_getD, hi]
  have hcv : ∀ (i : Nat) (hi : i < cs.length), cv A i = cs[i] := fun i hi => by unfold cv; rw [hat i hi]
  have hty : Typed .char A := fun i v hv => by
    have hi : i < A.slots.size := (Array.getElem?_eq_some_iff.mp hv).1
    have q := K5 i hi
    rw [hv] at q
    rw [Option.some.inj q]
    exact K6 i hi
  refine Back.mono (back hZ hw wi E V C K1 hty S hz (by omega) (by omega) (fun i hi => by rw [hcv i (by omega)]; exact hall _ (List.getElem_mem _)) hfr hlo) (fun P a hp => ⟨hp.1, hp.2.1, hp.2.2.1, by rw [e]; exact hp.2.2.2⟩) (fun P a v B hp hq => ?_)
  obtain ⟨L, ⟨q1, q2, q3, q4, q5, q6, q7, ⟨V', v1, v2, v3, v4, v5⟩, q9⟩, hl, hc, hs⟩ := hq
  refine ⟨L, ⟨q1, q2, q3, q4, q5, q6, q7, ⟨V'.cls, v3, V', v1, rfl, by rw [v4, e, hlen], K4, fun i hi => ?_, fun i hi => ?_⟩, q9⟩, hl, hc, by rw [hs, e]⟩
  · have hi' : i < cs.length := by omega
    rw [v5 i (by omega), hcv i hi']; simp [List.getD_eq_getElem?_getD, hi']
  · have hi' : i < cs.length := by omega
    simp only [List.getD_eq_getElem?_getD, List.getElem?_map, List.getElem?_eq_getElem hi', Option.map_some, Option.getD_some]
    exact fits_lo8 _
end StrChars.Road
namespace StrChars.Road
open Jvm Sem ClassFile Op Lib Jvm.Stand Jvm.Free Jvm.Free.XT
/-- WHAT COMES BACK, in the writer's own shape -/
def QV (Z : State) (x : Addr) (N : Int32) (bs : List Int32) (h : Heap) (n0 : Nat) (v : Option Value) (h' : Heap) (L : List Loc) : Prop := v = none ∧ RoadKit.Fr n0 L ∧ RoadKit.Keep h h' [x] ∧ RoadKit.Exa Z h' x ST ∧ RoadKit.Fld Z h' x ST "coder" "B" (.int 0) ∧
  ∃ (t : Addr) (kb : ClassId), n0 ≤ t ∧ h.size ≤ t ∧ ¬ t = x ∧ RoadKit.Fld Z h' x ST "value" "[B" (.ref t) ∧ RoadKit.Arv Z h' t kb .byte N (bs.map Value.int) (.int 0)
/-- **new String(chars) AT A CALL, FOR THE WRITER**: a char[] of n known ints, each 0 to 255 -/
theorem backV {p : Program} {l : Launch} {e : Env} {R : Room} {s : State} {args : Array Value} {below : List Frame} {len W : Nat} {Z : State} {a0 : Array Value} {h : Heap} (hZ : Z.Warmed39 s.vm) (hw : ∀ d ∈ words, d.before a0 Z = true) {kI : Nat} (wi : (Jvm.Cond.instantiable ST kI).before a0 Z = true)
    {x b : Addr} {kC : ClassId} {cs bs : List Int32} {d v0 c0 : Value} {z N : Int32} {n n0 : Nat} (hx0 : n0 ≤ x) (hh0 : n0 ≤ h.size) (E : RoadKit.Exa Z h x ST) (V : RoadKit.Fld Z h x ST "value" "[B" v0) (C : RoadKit.Fld Z h x ST "coder" "B" c0) (K : RoadKit.Arv Z h b kC .char N (cs.map Value.int) d) (S : RoadKit.Sta Z h ST "COMPACT_STRINGS" "Z" (.int z)) (hz : ¬ z = 0)
    (hn : cs.length = n) (hN : N = Int32.ofNat n) (l0 : 0 < n) (l2 : n ≤ 4000) (hp : ∀ c ∈ cs, ¬ c < 0 ∧ ¬ (255 : Int32) < c) (hb : bs = cs.map (fun c => c.toInt8.toInt32)) (hfr : 4 ≤ R.frames) (hlo : W + 65 ≤ R.locals) :
    Back l R p e below s args (⟨"java/lang/String", "<init>", "([C)V"⟩ : MethodName) len W (fun P a => a = #[.ref x, .ref b] ∧ P.U.heap = h ∧ P.cells + 1 ≤ R.cells ∧ P.slots + n ≤ R.slots)
      (fun P _ v B => ∃ L, QV Z x N bs h n0 v B.U.heap L ∧ B.locs = P.locs ++ L ∧ B.cells = P.cells + 1 ∧ B.slots = P.slots + n) := by
  subst hn hN hb
  refine Back.mono (backArv hZ hw wi E V C K S hz (n32 (by omega)) l0 (by omega) (fun c hc => (hp c hc).2) hfr hlo) (fun P a hp => hp) (fun P a v B hp hq => ?_)
  obtain ⟨L, ⟨q1, q2, q3, q4, q5, q6, q7, ⟨kb, v1, v2⟩, q9⟩, hl, hc, hs⟩ := hq
  exact ⟨L, ⟨q1, fun y hy => by rw [q2 y hy]; exact hx0, q3, q5, q7, h.size, kb, hh0, Nat.le_refl _, Nat.ne_of_gt E.lt, q6, by rw [List.map_map]; exact v2⟩, hl, hc, hs⟩
end StrChars.Road
namespace StrChars
open Jvm Sem ClassFile Op Lib Jvm.Stand Jvm.Free.XT Jvm.Free.ALB Jvm.Free.JM Jvm.Free
open Jvm.Lib.Cold (StaticIs)
def hi8 (x : Int32) : Int32 := lo8 (x >>> ((8 : Int32) &&& 31))
/-- what StringUTF16.getChar makes of two bytes -/
def pairCh (u v : Int32) : Int32 := (((u &&& 255) <<< ((0 : Int32) &&& 31)) ||| ((v &&& 255) <<< ((8 : Int32) &&& 31))).toUInt32.toUInt16.toUInt32.toInt32
theorem shr0 (c : Int32) : c >>> ((0 : Int32) &&& 31) = c := by
  have e : ((0 : Int32) &&& 31) = 0 := by decide
  rw [e]
  apply Int32.toBitVec_inj.mp
  rw [Int32.toBitVec_shiftRight]
  have e1 : ((0 : Int32).toBitVec.smod 32) = 0#32 := by decide
  rw [e1, BitVec.sshiftRight_eq']
  exact BitVec.sshiftRight_zero
theorem lo8_and (x : Int32) : (lo8 x &&& 255).toBitVec.toNat = x.toBitVec.toNat % 256 := by
  have h : (lo8 x).toBitVec = (x.toBitVec.signExtend 8).signExtend 32 := by rw [lo8, Int8.toBitVec_toInt32, Int32.toBitVec_toInt8]
  rw [Int32.toBitVec_and, BitVec.toNat_and, h]
  have e : ((x.toBitVec.signExtend 8).signExtend 32).toNat % 256 = x.toBitVec.toNat % 256 := by
    rw [BitVec.toNat_signExtend]
    have hlt := x.toBitVec.isLt
    simp only [BitVec.toNat_setWidth, BitVec.toNat_signExtend]
    split <;> split <;> omega
  rw [← e]
  exact Nat.and_two_pow_sub_one_eq_mod _ 8
theorem pair_says {c : Int32} (h0 : ¬ c < 0) (h1 : ¬ 65535 < c) : pairCh (lo8 c) (hi8 c) = c := by
  rw [Int32.lt_iff_toInt_lt] at h0 h1
  have e0 : (0 : Int32).toInt = 0 := rfl
  have e1 : (65535 : Int32).toInt = 65535 := rfl
  have hc : c.toInt = c.toBitVec.toNat := by
    have := c.toBitVec.isLt
    have e : c.toInt = c.toBitVec.toInt := rfl
    rw [e] at h0 h1
    rw [e]
    rw [BitVec.toInt_eq_toNat_cond] at h0 h1 ⊢
    split at h0 <;> split <;> omega
  have hn : c.toBitVec.toNat < 65536 := by omega
  have a1 := lo8_and c
  have a2 : (hi8 c &&& 255).toBitVec.toNat = c.toBitVec.toNat / 256 := by
    rw [hi8, lo8_and]
    have e : ((8 : Int32) &&& 31) = 8 := by decide
    rw [e, Int32.toBitVec_shiftRight]
    have e2 : ((8 : Int32).toBitVec.smod 32) = 8#32 := by decide
    rw [e2, BitVec.sshiftRight_eq', BitVec.toNat_sshiftRight_of_msb_false (by rw [BitVec.msb_eq_false_iff_two_mul_lt]; omega)]
    show c.toBitVec.toNat >>> 8 % 256 = _
    rw [Nat.shiftRight_eq_div_pow]
    omega
  unfold pairCh
  apply Int32.toBitVec_inj.mp
  apply BitVec.eq_of_toNat_eq
  have f0 : ((0 : Int32) &&& 31) = 0 := by decide
  have f8 : ((8 : Int32) &&& 31) = 8 := by decide
  rw [f0, f8]
  have g : (((lo8 c &&& 255) <<< (0 : Int32)) ||| ((hi8 c &&& 255) <<< (8 : Int32))).toBitVec.toNat = c.toBitVec.toNat := by
    rw [Int32.toBitVec_or, Int32.toBitVec_shiftLeft, Int32.toBitVec_shiftLeft]
    have s0 : ((0 : Int32).toBitVec.smod 32) = 0#32 := by decide
    have s8 : ((8 : Int32).toBitVec.smod 32) = 8#32 := by decide
    rw [s0, s8, BitVec.toNat_or]
    simp only [BitVec.shiftLeft_eq', BitVec.toNat_shiftLeft, a1, a2]
    show (c.toBitVec.toNat % 256) <<< 0 % 2 ^ 32 ||| (c.toBitVec.toNat / 256) <<< 8 % 2 ^ 32 = _
    rw [Nat.shiftLeft_zero, Nat.mod_eq_of_lt (show c.toBitVec.toNat % 256 < 2 ^ 32 by omega), Nat.mod_eq_of_lt (show (c.toBitVec.toNat / 256) <<< 8 < 2 ^ 32 by rw [Nat.shiftLeft_eq]; omega), Nat.or_comm, ← Nat.shiftLeft_add_eq_or_of_lt (by omega), Nat.shiftLeft_eq]
    omega
  show BitVec.toNat (((((lo8 c &&& 255) <<< (0 : Int32)) ||| ((hi8 c &&& 255) <<< (8 : Int32))).toBitVec.setWidth 16).setWidth 32) = _
  rw [BitVec.toNat_setWidth, BitVec.toNat_setWidth, g]
  omega
end StrChars
namespace StrChars
open Jvm Sem ClassFile Op Lib Jvm.Stand Jvm.Free.XT Jvm.Free.ALB Jvm.Free.JM Jvm.Free
open Jvm.Lib.Cold (StaticIs)
theorem shr1 {n : Nat} (h : 2 * n < 2 ^ 31) : Int32.ofNat (2 * n) >>> ((1 : Int32) &&& 31) = Int32.ofNat n := by
  have e : ((1 : Int32) &&& 31) = 1 := by decide
  rw [e]
  apply Int32.toBitVec_inj.mp
  rw [Int32.toBitVec_shiftRight]
  have e1 : ((1 : Int32).toBitVec.smod 32) = 1#32 := by decide
  have hm : (BitVec.ofNat 32 (2 * n)).toNat = 2 * n := by rw [BitVec.toNat_ofNat, Nat.mod_eq_of_lt (by omega)]
  rw [e1, BitVec.sshiftRight_eq']
  apply BitVec.eq_of_toNat_eq
  show ((BitVec.ofNat 32 (2 * n)).sshiftRight 1).toNat = (BitVec.ofNat 32 n).toNat
  rw [BitVec.toNat_sshiftRight_of_msb_false (by rw [BitVec.msb_eq_false_iff_two_mul_lt, hm]; omega), hm, BitVec.toNat_ofNat, Nat.shiftRight_eq_div_pow]
  omega
/-- charAt's cast of a byte read back -/
def chr8 (u : Int32) : Int32 := (u &&& 255).toUInt32.toUInt16.toUInt32.toInt32
theorem chr8_lo8 {c : Int32} (h0 : ¬ c < 0) (h1 : ¬ 255 < c) : chr8 (lo8 c) = c := by
  have t : ∀ k : Fin 256, (Int32.ofNat k.val).toUInt32.toUInt16.toUInt32.toInt32 = Int32.ofNat k.val := by decide +kernel
  unfold chr8
  rw [lo8_mask h0 h1]
  rw [Int32.lt_iff_toInt_lt] at h0 h1
  have e0 : (0 : Int32).toInt = 0 := rfl
  have e1 : (255 : Int32).toInt = 255 := rfl
  obtain ⟨k, hk⟩ : ∃ k : Nat, c.toInt = k := ⟨c.toInt.toNat, by omega⟩
  have hx : c = Int32.ofNat k := Int32.toInt_inj.mp (by rw [hk, Int32.toInt_ofNat_small (by omega)])
  rw [hx]
  exact t ⟨k, by omega⟩
theorem narrow_ch {c : Int32} (h0 : ¬ c < 0) (h1 : ¬ 65535 < c) : narrow .char (.int c) = .int c := by
  have q : narrow .char (.int (pairCh (lo8 c) (hi8 c))) = .int (pairCh (lo8 c) (hi8 c)) := narrow_c _
  rwa [pair_says h0 h1] at q
/-- the array's cell V codes the n chars f 0 .. f (n - 1) by the coder cd, as the JDK does: coder 1 just where some char is above 255 -/
def Cod (cd : Int32) (n : Nat) (f : Nat → Int32) (V : Cell) : Prop := (cd = 0 ∧ V.slots.size = n ∧ ∀ j, j < n → V.slots[j]? = some (.int (lo8 (f j))) ∧ ¬ 255 < f j) ∨ (cd = 1 ∧ V.slots.size = 2 * n ∧ (∀ j, j < n → V.slots[2 * j]? = some (.int (lo8 (f j))) ∧ V.slots[2 * j + 1]? = some (.int (hi8 (f j)))) ∧ ∃ j, j < n ∧ 255 < f j)
theorem Cod.cd {cd : Int32} {n : Nat} {f : Nat → Int32} {V : Cell} (h : Cod cd n f V) : cd = 0 ∨ cd = 1 := h.imp (fun q => q.1) fun q => q.1
theorem Cod.len {cd : Int32} {n : Nat} {f : Nat → Int32} {V : Cell} (h : Cod cd n f V) (hs : V.slots.size < 2 ^ 31) : Int32.ofNat V.slots.size >>> (cd &&& 31) = Int32.ofNat n := by
  rcases h with ⟨rfl, h, -⟩ | ⟨rfl, h, -⟩
  · rw [shr0, h]
  · rw [h, shr1 (by omega)]
/-- **x is a String of the n chars f 0 .. f (n - 1)**, Latin-1 or UTF-16; its array at t has the cell V -/
def Txt (x t : Addr) (V : Cell) (cd : Int32) (n : Nat) (f : Nat → Int32) (U : State) : Prop := Exact "java/lang/String" x U ∧ Has x "java/lang/String" "value" "[B" (.ref t) U ∧ Has x "java/lang/String" "coder" "B" (.int cd) U ∧ XT.Arr .byte t V U ∧ Cod cd n f V ∧ ∀ j, j < n → ¬ f j < 0 ∧ ¬ 65535 < f j
theorem Txt.mv {x t : Addr} {V : Cell} {cd : Int32} {n : Nat} {f : Nat → Int32} {U U' : State} (h : Txt x t V cd n f U) (hal : U.vm.Alike U'.vm) (hh : U'.heap = U.heap) : Txt x t V cd n f U' := ⟨h.1.mv hal hh, h.2.1.mv hal hh, h.2.2.1.mv hal hh, h.2.2.2.1.mv hal hh, h.2.2.2.2⟩
namespace Cdr
def yN : MethodName := ⟨"java/lang/String", "coder", "()B"⟩
abbrev yB : ByteArray := jdk_42_method_152_code
theorem d0 : decode yB 0 = .ok (.getstatic 38, 3) := by decide +kernel
theorem d3 : decode yB 3 = .ok (.ifCond (.eq) 10, 3) := by decide +kernel
theorem d6 : decode yB 6 = .ok (.aload_n 0, 1) := by decide +kernel
theorem d7 : decode yB 7 = .ok (.getfield 15, 3) := by decide +kernel
theorem d10 : decode yB 10 = .ok (.goto 4, 3) := by decide +kernel
theorem d14 : decode yB 14 = .ok (.ireturn, 1) := by decide +kernel
def site : List Cond := [.fieldLink "java/lang/String" 38 "java/lang/String" "COMPACT_STRINGS" "Z", .fieldLink "java/lang/String" 15 "java/lang/String" "coder" "B"]
def tab : Cond := tabOf yN yB 1 (some .byte) site
def P (x : Addr) (cd z : Int32) (args : Array Value) (s : State) : Prop := args = #[.ref x] ∧ Has x "java/lang/String" "coder" "B" (.int cd) s ∧ (cd = 0 ∨ cd = 1) ∧ StaticIs s "java/lang/String" "COMPACT_STRINGS" "Z" (.int z) ∧ ¬ z = 0
def E (cd : Int32) (r : Option Value) (s u : State) : Prop := XT.PureE (some (.int cd)) r s u
theorem law (l : Launch) (x : Addr) (cd z : Int32) : Law l yN 1 0 0 0 yB 1 (some .byte) site (P x cd z) (E cd) [] 0 0 := by
  refine Law.of_walk (plainFor_of_name (by decide +kernel)) (by decide +kernel) (by decide +kernel) (by decide) (fun _ _ h => by rw [h.1]; rfl) (fun _ U U' hal hh h => ⟨h.1, h.2.1.mv hal hh, h.2.2.1, h.2.2.2.1.there hal hh, h.2.2.2.2⟩) (fun r U U' V V' h1 hal h2 h => XT.PureE.mv r U U' V V' h1 hal h2 h) ?_
  intro p e s m args below meth c s₁ X0 hexec hbytes hml hret hlk hnm hown hh0 W hP
  obtain ⟨rfl, hx, hc, s1, hz⟩ := hP
  have c1 : Steps p.tables e below (s₁.setTop (entryFrame m #[.ref x] 1)) (s₁.setTop (mkF m 0 #[.val (.ref x)] [])) := entry rfl
  obtain ⟨T2, X2, q2, st2⟩ := X0.sget hexec hown (wk W (.fieldLink "java/lang/String" 38 "java/lang/String" "COMPACT_STRINGS" "Z")) s1 (fun _ _ h => by rw [hh0]; exact h) (g := (mkF m 0 #[.val (.ref x)] [])) rfl (hb hbytes d0)
  have hh2 := q2.trans hh0
  have c3 : Steps p.tables e below (s₁.setTop (entryFrame m #[.ref x] 1)) (T2.setTop (mkF m 7 #[.val (.ref x)] [.ref x])) := (c1.trans (st2 _ (Steps.refl _))).trans (by
    refine XS.ifNo X2.here hexec rfl (hb hbytes d3) rfl (i0_eq_f hz) ?_
    refine XS.aloadN X2.here hexec rfl (hb hbytes d6) rfl rfl ?_
    exact Steps.refl _)
  obtain ⟨T4, X4, q4, st4⟩ := X2.hget hexec hown (wk W (.fieldLink "java/lang/String" 15 "java/lang/String" "coder" "B")) (hx.mv X2.warmed.alike hh2) (g := (mkF m 7 #[.val (.ref x)] [.ref x])) rfl (rest := []) rfl (hb hbytes d7)
  have c5 : Steps p.tables e below (s₁.setTop (entryFrame m #[.ref x] 1)) (T4.setTop (mkF m 14 #[.val (.ref x)] [.int cd])) := (c3.trans (st4 _ (Steps.refl _))).trans (by
    refine XS.goto X4.here hexec rfl (pc0 := 10) rfl (hb hbytes d10) (by decide) rfl ?_
    exact Steps.refl _)
  exact ⟨T4, some (.int cd), _, _, _, X4, rfl, rfl, rfl, (fun h => by cases h), ⟨rfl, q4.trans hh2⟩, fun fs hl => c5.trans (X4.ireturnOut hexec hret (by rcases hc with rfl | rfl <;> rfl) (Or.inr (Or.inr (Or.inl rfl))) (hb hbytes d14) hl)⟩
end Cdr
namespace Len
def yN : MethodName := ⟨"java/lang/String", "length", "()I"⟩
abbrev yB : ByteArray := jdk_42_method_54_code
theorem d0 : decode yB 0 = .ok (.aload_n 0, 1) := by decide +kernel
theorem d1 : decode yB 1 = .ok (.getfield 9, 3) := by decide +kernel
theorem d4 : decode yB 4 = .ok (.arraylength, 1) := by decide +kernel
theorem d5 : decode yB 5 = .ok (.aload_n 0, 1) := by decide +kernel
theorem d6 : decode yB 6 = .ok (.invokevirtual 335, 3) := by decide +kernel
theorem d9 : decode yB 9 = .ok (.ishr, 1) := by decide +kernel
theorem d10 : decode yB 10 = .ok (.ireturn, 1) := by decide +kernel
def site : List Cond := [.fieldLink "java/lang/String" 9 "java/lang/String" "value" "[B", Cdr.tab] ++ virtW "java/lang/String" 335 "java/lang/String" Cdr.yN Cdr.yN
def tab : Cond := tabOf yN yB 1 (some .int) site
def P (x t : Addr) (V : Cell) (cd : Int32) (n : Nat) (f : Nat → Int32) (z : Int32) (args : Array Value) (s : State) : Prop := args = #[.ref x] ∧ Txt x t V cd n f s ∧ StaticIs s "java/lang/String" "COMPACT_STRINGS" "Z" (.int z) ∧ ¬ z = 0
def E (n : Nat) (r : Option Value) (s u : State) : Prop := XT.PureE (some (.int (Int32.ofNat n))) r s u
/-- length() of a String of n chars, in either coding -/
theorem law (l : Launch) (x t : Addr) (V : Cell) (cd : Int32) (n : Nat) (f : Nat → Int32) (z : Int32) : Law l yN 1 0 1 13 yB 1 (some .int) site (P x t V cd n f z) (E n) [] 0 0 := by
  refine Law.of_walk (plainFor_of_name (by decide +kernel)) (by decide +kernel) (by decide +kernel) (by decide) (fun _ _ h => by rw [h.1]; rfl) (fun _ U U' hal hh h => ⟨h.1, h.2.1.mv hal hh, h.2.2.1.there hal hh, h.2.2.2⟩) (fun r U U' V V' h1 hal h2 h => XT.PureE.mv r U U' V V' h1 hal h2 h) ?_
  intro p e s m args below meth c s₁ X0 hexec hbytes hml hret hlk hnm hown hh0 W hP
  obtain ⟨rfl, hx, s1, hz⟩ := hP
  have v31 := hx.2.2.2.1.2.2.2
  have c1 : Steps p.tables e below (s₁.setTop (entryFrame m #[.ref x] 1)) (s₁.setTop (mkF m 1 #[.val (.ref x)] [.ref x])) := Steps.trans (entry rfl) (by
    show Steps p.tables e below (s₁.setTop (mkF m 0 #[.val (.ref x)] [])) _
    refine XS.aloadN X0.here hexec rfl (hb hbytes d0) rfl rfl ?_
    exact Steps.refl _)
  obtain ⟨T2, X2, q2, st2⟩ := X0.hget hexec hown (wk W (.fieldLink "java/lang/String" 9 "java/lang/String" "value" "[B")) (hx.mv X0.warmed.alike hh0).2.1 (g := (mkF m 1 #[.val (.ref x)] [.ref x])) rfl (rest := []) rfl (hb hbytes d1)
  have hh2 := q2.trans hh0
  have hx2 := hx.mv X2.warmed.alike hh2
  have c3 : Steps p.tables e below (s₁.setTop (entryFrame m #[.ref x] 1)) (T2.setTop (mkF m 6 #[.val (.ref x)] [.ref x, .int (Int32.ofNat V.slots.size)])) := (c1.trans (st2 _ (Steps.refl _))).trans (by
    refine X2.alen hexec hx2.2.2.2.1 rfl rfl (hb hbytes d4) ?_
    refine XS.aloadN X2.here hexec rfl (hb hbytes d5) rfl rfl ?_
    exact Steps.refl _)
  obtain ⟨v4, T4, X4, E4, g4⟩ := X2.callV hexec (Cdr.law l x cd z) hown (wks W (virtW "java/lang/String" 335 "java/lang/String" Cdr.yN Cdr.yN)) rfl (by decide) (wk W Cdr.tab) (W := 1) (Nat.le_of_ble_eq_true rfl) (Nat.le_of_ble_eq_true rfl) (Nat.le_refl _) (Nat.le_refl _) (hx2.1.fc X2.warmed.alike) hx2.1.is (g := (mkF m 6 #[.val (.ref x)] [.ref x, .int (Int32.ofNat V.slots.size)])) rfl (by rw [hml]; rfl) c3 (argsL := []) (rest := [.int (Int32.ofNat V.slots.size)]) rfl rfl (by show 2 * 0 + (1 + 0) ≤ _; decide) (hb hbytes d6) (⟨rfl, hx2.2.2.1, hx.2.2.2.2.1.cd, s1.there X2.warmed.alike hh2, hz⟩)
  obtain ⟨rfl, q4⟩ := E4
  have c5 : Steps p.tables e below (s₁.setTop (entryFrame m #[.ref x] 1)) (T4.setTop (mkF m 10 #[.val (.ref x)] [.int (Int32.ofNat V.slots.size >>> (cd &&& 31))])) := Steps.trans g4 (by
    refine ishr X4.here hexec rfl (hb hbytes d9) rfl ?_
    exact Steps.refl _)
  rw [hx.2.2.2.2.1.len v31] at c5
  exact ⟨T4, some (.int (Int32.ofNat n)), _, _, _, X4, rfl, rfl, rfl, (fun h => by cases h), ⟨rfl, q4.trans hh2⟩, fun fs hl => c5.trans (X4.ireturnOut hexec hret rfl (Or.inl rfl) (hb hbytes d10) hl)⟩
theorem pays {l : Launch} {R : Room} {p : Program} {e : Env} {below : List Frame} {s : State} {sargs : Array Value} {len W : Nat} (x t : Addr) (V : Cell) (cd : Int32) (n : Nat) (f : Nat → Int32) (z : Int32) (htab : tab.before sargs s = true) (hfr : 2 ≤ R.frames) (hlo : W + 25 ≤ R.locals) :
    Back l R p e below s sargs yN len W (fun A₁ a₁ => A₁.cells + 0 ≤ R.cells ∧ A₁.slots + 0 ≤ R.slots ∧ P x t V cd n f z a₁ A₁.U) (fun A₁ _ v₁ B₁ => E n v₁ A₁.U B₁.U ∧ B₁.locs = A₁.locs ++ [] ∧ B₁.cells = A₁.cells + 0 ∧ B₁.slots = A₁.slots + 0) :=
  (law l x t V cd n f z).pays htab hfr (by omega)
end Len
namespace IsL
def yN : MethodName := ⟨"java/lang/String", "isLatin1", "()Z"⟩
abbrev yB : ByteArray := jdk_42_method_154_code
theorem d0 : decode yB 0 = .ok (.getstatic 38, 3) := by decide +kernel
theorem d3 : decode yB 3 = .ok (.ifCond (.eq) 14, 3) := by decide +kernel
theorem d6 : decode yB 6 = .ok (.aload_n 0, 1) := by decide +kernel
theorem d7 : decode yB 7 = .ok (.getfield 15, 3) := by decide +kernel
theorem d10 : decode yB 10 = .ok (.ifCond (.ne) 7, 3) := by decide +kernel
theorem d13 : decode yB 13 = .ok (.iconst 1, 1) := by decide +kernel
theorem d14 : decode yB 14 = .ok (.goto 4, 3) := by decide +kernel
theorem d17 : decode yB 17 = .ok (.iconst 0, 1) := by decide +kernel
theorem d18 : decode yB 18 = .ok (.ireturn, 1) := by decide +kernel
def site : List Cond := [.fieldLink "java/lang/String" 38 "java/lang/String" "COMPACT_STRINGS" "Z", .fieldLink "java/lang/String" 15 "java/lang/String" "coder" "B"]
def tab : Cond := tabOf yN yB 1 (some .boolean) site
def P (x : Addr) (cd z : Int32) (args : Array Value) (s : State) : Prop := args = #[.ref x] ∧ Has x "java/lang/String" "coder" "B" (.int cd) s ∧ (cd = 0 ∨ cd = 1) ∧ StaticIs s "java/lang/String" "COMPACT_STRINGS" "Z" (.int z) ∧ ¬ z = 0
def E (cd : Int32) (r : Option Value) (s u : State) : Prop := XT.PureE (some (.int (1 - cd))) r s u
theorem law (l : Launch) (x : Addr) (cd z : Int32) : Law l yN 1 0 0 0 yB 1 (some .boolean) site (P x cd z) (E cd) [] 0 0 := by
  refine Law.of_walk (plainFor_of_name (by decide +kernel)) (by decide +kernel) (by decide +kernel) (by decide) (fun _ _ h => by rw [h.1]; rfl) (fun _ U U' hal hh h => ⟨h.1, h.2.1.mv hal hh, h.2.2.1, h.2.2.2.1.there hal hh, h.2.2.2.2⟩) (fun r U U' V V' h1 hal h2 h => XT.PureE.mv r U U' V V' h1 hal h2 h) ?_
  intro p e s m args below meth c s₁ X0 hexec hbytes hml hret hlk hnm hown hh0 W hP
  obtain ⟨rfl, hx, hc, s1, hz⟩ := hP
  have c1 : Steps p.tables e below (s₁.setTop (entryFrame m #[.ref x] 1)) (s₁.setTop (mkF m 0 #[.val (.ref x)] [])) := entry rfl
  obtain ⟨T2, X2, q2, st2⟩ := X0.sget hexec hown (wk W (.fieldLink "java/lang/String" 38 "java/lang/String" "COMPACT_STRINGS" "Z")) s1 (fun _ _ h => by rw [hh0]; exact h) (g := (mkF m 0 #[.val (.ref x)] [])) rfl (hb hbytes d0)
  have hh2 := q2.trans hh0
  have c3 : Steps p.tables e below (s₁.setTop (entryFrame m #[.ref x] 1)) (T2.setTop (mkF m 7 #[.val (.ref x)] [.ref x])) := (c1.trans (st2 _ (Steps.refl _))).trans (by
    refine XS.ifNo X2.here hexec rfl (hb hbytes d3) rfl (i0_eq_f hz) ?_
    refine XS.aloadN X2.here hexec rfl (hb hbytes d6) rfl rfl ?_
    exact Steps.refl _)
  obtain ⟨T4, X4, q4, st4⟩ := X2.hget hexec hown (wk W (.fieldLink "java/lang/String" 15 "java/lang/String" "coder" "B")) (hx.mv X2.warmed.alike hh2) (g := (mkF m 7 #[.val (.ref x)] [.ref x])) rfl (rest := []) rfl (hb hbytes d7)
  have c5 : Steps p.tables e below (s₁.setTop (entryFrame m #[.ref x] 1)) (T4.setTop (mkF m 10 #[.val (.ref x)] [.int cd])) := c3.trans (st4 _ (Steps.refl _))
  have c6 : Steps p.tables e below (s₁.setTop (entryFrame m #[.ref x] 1)) (T4.setTop (mkF m 18 #[.val (.ref x)] [.int (1 - cd)])) := by
    rcases hc with rfl | rfl
    · exact c5.trans (by
        refine XS.ifNo X4.here hexec rfl (hb hbytes d10) rfl (i0_ne_f rfl) ?_
        refine iconstV X4.here hexec rfl 1 (hb hbytes d13) (by decide) ?_
        refine XS.goto X4.here hexec rfl (pc0 := 14) rfl (hb hbytes d14) (by decide) rfl ?_
        exact Steps.refl _)
    · exact c5.trans (by
        refine XS.ifYes X4.here hexec rfl (pc0 := 10) rfl (hb hbytes d10) rfl (i0_ne_t (by decide)) (by decide) rfl ?_
        refine iconstV X4.here hexec rfl 0 (hb hbytes d17) (by decide) ?_
        exact Steps.refl _)
  exact ⟨T4, some (.int (1 - cd)), _, _, _, X4, rfl, rfl, rfl, (fun h => by cases h), ⟨rfl, q4.trans hh2⟩, fun fs hl => c6.trans (X4.ireturnOut hexec hret (by rcases hc with rfl | rfl <;> rfl) (Or.inr (Or.inl rfl)) (hb hbytes d18) hl)⟩
end IsL
namespace LChA
def yN : MethodName := ⟨"java/lang/StringLatin1", "charAt", "([BI)C"⟩
abbrev yB : ByteArray := jdk_43_method_2_code
theorem d0 : decode yB 0 = .ok (.iload_n 1, 1) := by decide +kernel
theorem d1 : decode yB 1 = .ok (.aload_n 0, 1) := by decide +kernel
theorem d2 : decode yB 2 = .ok (.arraylength, 1) := by decide +kernel
theorem d3 : decode yB 3 = .ok (.invokestatic 9, 3) := by decide +kernel
theorem d6 : decode yB 6 = .ok (.aload_n 0, 1) := by decide +kernel
theorem d7 : decode yB 7 = .ok (.iload_n 1, 1) := by decide +kernel
theorem d8 : decode yB 8 = .ok (.baload, 1) := by decide +kernel
theorem d9 : decode yB 9 = .ok (.sipush 255, 3) := by decide +kernel
theorem d12 : decode yB 12 = .ok (.iand, 1) := by decide +kernel
theorem d13 : decode yB 13 = .ok (.i2c, 1) := by decide +kernel
theorem d14 : decode yB 14 = .ok (.ireturn, 1) := by decide +kernel
def site : List Cond := [JO.Str_checkIndex.tab] ++ staticW "java/lang/StringLatin1" 9 JO.Str_checkIndex.yN
def tab : Cond := tabOf yN yB 2 (some .char) site
def P (t : Addr) (V : Cell) (i : Nat) (u : Int32) (fm : Value) (args : Array Value) (s : State) : Prop := args = #[.ref t, .int (Int32.ofNat i)] ∧ XT.Arr .byte t V s ∧ V.slots[i]? = some (.int u) ∧ (StaticIs s "jdk/internal/util/Preconditions" "SIOOBE_FORMATTER" "Ljava/util/function/BiFunction;" fm ∧ fm.isRef = true)
def E (u : Int32) (r : Option Value) (s w : State) : Prop := XT.PureE (some (.int (chr8 u))) r s w
theorem law (l : Launch) (t : Addr) (V : Cell) (i : Nat) (u : Int32) (fm : Value) : Law l yN 2 2 2 27 yB 2 (some .char) site (P t V i u fm) (E u) [] 0 0 := by
  refine Law.of_walk (plainFor_of_name (by decide +kernel)) (by decide +kernel) (by decide +kernel) (by decide) (fun _ _ h => by rw [h.1]; rfl) (fun _ U U' hal hh h => ⟨h.1, h.2.1.mv hal hh, h.2.2.1, h.2.2.2.1.there hal hh, h.2.2.2.2⟩) (fun r U U' V V' h1 hal h2 h => XT.PureE.mv r U U' V V' h1 hal h2 h) ?_
  intro p e s m args below meth c s₁ X0 hexec hbytes hml hret hlk hnm hown hh0 W hP
  obtain ⟨rfl, hV, hu, s1, rf⟩ := hP
  have v31 := hV.2.2.2
  have hi : i < V.slots.size := (Array.getElem?_eq_some_iff.mp hu).1
  have c1 : Steps p.tables e below (s₁.setTop (entryFrame m #[.ref t, .int (Int32.ofNat i)] 2)) (s₁.setTop (mkF m 0 #[.val (.ref t), .val (.int (Int32.ofNat i))] [])) := entry rfl
  have c2 : Steps p.tables e below (s₁.setTop (entryFrame m #[.ref t, .int (Int32.ofNat i)] 2)) (s₁.setTop (mkF m 3 #[.val (.ref t), .val (.int (Int32.ofNat i))] [.int (Int32.ofNat V.slots.size), .int (Int32.ofNat i)])) := c1.trans (by
    refine XS.iloadN X0.here hexec rfl (hb hbytes d0) rfl ?_
    refine XS.aloadN X0.here hexec rfl (hb hbytes d1) rfl rfl ?_
    refine X0.alen hexec (hV.mv X0.warmed.alike hh0) rfl rfl (hb hbytes d2) ?_
    exact Steps.refl _)
  obtain ⟨v3, T3, X3, E3, g3⟩ := X0.callS hexec (JO.Str_checkIndex.law l (Int32.ofNat i) (Int32.ofNat V.slots.size) fm) hown (wks W (staticW "java/lang/StringLatin1" 9 JO.Str_checkIndex.yN)) (wk W JO.Str_checkIndex.tab) (W := 0) (Nat.le_of_ble_eq_true rfl) (Nat.le_of_ble_eq_true rfl) (Nat.le_refl _) (Nat.le_refl _) (g := (mkF m 3 #[.val (.ref t), .val (.int (Int32.ofNat i))] [.int (Int32.ofNat V.slots.size), .int (Int32.ofNat i)])) rfl (by rw [hml]; rfl) c2 (argsL := [.int (Int32.ofNat i), .int (Int32.ofNat V.slots.size)]) (rest := []) rfl rfl (by show 2 * 0 + 0 ≤ _; decide) (hb hbytes d3) (⟨rfl, rf, s1.there X0.warmed.alike hh0, Int32.ofNat_not_neg (by omega), lt32 v31 hi⟩)
  obtain ⟨rfl, q3⟩ := E3
  have hh3 := q3.trans hh0
  have c4 : Steps p.tables e below (s₁.setTop (entryFrame m #[.ref t, .int (Int32.ofNat i)] 2)) (T3.setTop (mkF m 14 #[.val (.ref t), .val (.int (Int32.ofNat i))] [.int (chr8 u)])) := Steps.trans g3 (by
    refine XS.aloadN X3.here hexec rfl (hb hbytes d6) rfl rfl ?_
    refine XS.iloadN X3.here hexec rfl (hb hbytes d7) rfl ?_
    refine X3.aget hexec (hV.mv X3.warmed.alike hh3) rfl hu rfl rfl (hb hbytes d8) ?_
    refine sipushV X3.here hexec rfl 255 (hb hbytes d9) (by decide) ?_
    refine XS.iand X3.here hexec rfl (hb hbytes d12) rfl ?_
    refine i2c X3.here hexec rfl (hb hbytes d13) rfl ?_
    exact Steps.refl _)
  exact ⟨T3, some (.int (chr8 u)), _, _, _, X3, rfl, rfl, rfl, (fun h => by cases h), ⟨rfl, hh3⟩, fun fs hl => c4.trans (X3.ireturnOut hexec hret (narrow_c _) (Or.inr (Or.inr (Or.inr (Or.inl rfl)))) (hb hbytes d14) hl)⟩
end LChA
end StrChars
namespace StrChars.Road
open Jvm Sem ClassFile Op Lib Jvm.Stand Jvm.Free Jvm.Free.XT
open Jvm.Lib.Cold (StaticIs)
theorem consq {a : Array Value} {s : State} {c : Jvm.Cond} {L : List Jvm.Cond} (h0 : c.before a s = true) (h : ∀ w ∈ L, w.before a s = true) : ∀ w ∈ c :: L, w.before a s = true := fun w hw => (List.mem_cons.mp hw).elim (fun e => e ▸ h0) (h w)
/-- the words of String.length(), either coding -/
abbrev wordsLen : List Jvm.Cond := [.code Len.yN Len.yB 1 (some .int), .initialized ST, .fieldLink ST 9 ST "value" "[B", .fieldLink ST 38 ST "COMPACT_STRINGS" "Z", .fieldLink ST 15 ST "coder" "B", .code Cdr.yN Cdr.yB 1 (some .byte), .methodLink ST 335 Cdr.yN, .declares Cdr.yN, .selects ST Cdr.yN Cdr.yN, .instanceMethod Cdr.yN]
theorem tabLen_of {a : Array Value} {s : State} (h : ∀ w ∈ wordsLen, w.before a s = true) : Len.tab.before a s = true := by
  have hc : Cdr.tab.before a s = true := unparts (wk h (.code Cdr.yN Cdr.yB 1 (some .byte))) (wks h (.initialized Cdr.yN.cls :: Cdr.site))
  have q := consq hc h
  exact unparts (wk q (.code Len.yN Len.yB 1 (some .int))) (wks q (.initialized Len.yN.cls :: Len.site))
theorem movedLen {Z s : State} {a0 args : Array Value} (hZ : Z.Warmed39 s.vm) (hw : ∀ d ∈ wordsLen, d.before a0 Z = true) : ∀ d ∈ wordsLen, d.before args s = true := fun d hd => by
  have q := hw d hd
  have t : ∀ d ∈ wordsLen, d = .arrayClass .byte ∨ (d.onTables && d.keepsFace) = true := by decide +kernel
  rcases t d hd with rfl | t
  · exact RoadKit.mvA hZ q
  · exact RoadKit.mv hZ q t
/-- the bytes of the chars cs, low before high -/
def wideBytes : List Int32 → List Value
  | [] => []
  | c :: cs => .int (lo8 c) :: .int (hi8 c) :: wideBytes cs
theorem wide_lo (d : Value) : ∀ (cs : List Int32) (j : Nat), j < cs.length → (wideBytes cs).getD (2 * j) d = .int (lo8 (cs.getD j 0))
  | [], j, h => absurd h (Nat.not_lt_zero j)
  | c :: cs, 0, _ => rfl
  | c :: cs, j + 1, h => by
    have q := wide_lo d cs j (by simpa using h)
    rw [show 2 * (j + 1) = 2 * j + 1 + 1 from by omega]
    simpa [wideBytes] using q
theorem wide_hi (d : Value) : ∀ (cs : List Int32) (j : Nat), j < cs.length → (wideBytes cs).getD (2 * j + 1) d = .int (hi8 (cs.getD j 0))
  | [], j, h => absurd h (Nat.not_lt_zero j)
  | c :: cs, 0, _ => rfl
  | c :: cs, j + 1, h => by
    have q := wide_hi d cs j (by simpa using h)
    rw [show 2 * (j + 1) + 1 = 2 * j + 1 + 1 + 1 from by omega]
    simpa [wideBytes] using q
theorem low_at (d : Value) (cs : List Int32) (j : Nat) (h : j < cs.length) : (cs.map fun c => Value.int (lo8 c)).getD j d = .int (lo8 (cs.getD j 0)) := by
  simp [List.getD_eq_getElem?_getD, h]
/-- an array of N2 bytes vs codes the chars cs by the coder cd -/
def CodA (cs : List Int32) (cd N2 : Int32) (vs : List Value) : Prop := (cd = 0 ∧ N2 = Int32.ofNat cs.length ∧ vs = (cs.map fun c => Value.int (lo8 c)) ∧ ∀ c ∈ cs, ¬ 255 < c) ∨ (cd = 1 ∧ N2 = Int32.ofNat (2 * cs.length) ∧ vs = wideBytes cs ∧ ∃ c ∈ cs, 255 < c)
theorem CodA.cod {cs : List Int32} {cd N2 : Int32} {vs : List Value} {V : Cell} (h : CodA cs cd N2 vs) (hn : 2 * cs.length < 2 ^ 31) (hs : V.slots.size = N2.toNatClampNeg) (hv : RoadKit.Has V vs (.int 0)) : Cod cd cs.length (fun j => cs.getD j 0) V := by
  rcases h with ⟨rfl, rfl, rfl, h⟩ | ⟨rfl, rfl, rfl, c, hc, hw⟩
  · rw [n32 (by omega)] at hs
    exact Or.inl ⟨rfl, hs, fun j hj => ⟨by rw [hv j (by omega), low_at _ _ _ hj], by
      have e : cs.getD j 0 = cs[j] := by simp [List.getD_eq_getElem?_getD, hj]
      show ¬ 255 < cs.getD j 0
      rw [e]; exact h _ (List.getElem_mem _)⟩⟩
  · rw [n32 (by omega)] at hs
    obtain ⟨j, hj, rfl⟩ := List.getElem_of_mem hc
    exact Or.inr ⟨rfl, hs, fun j hj => ⟨by rw [hv _ (by omega), wide_lo _ _ _ hj], by rw [hv _ (by omega), wide_hi _ _ _ hj]⟩, j, hj, by
      have e : cs.getD j 0 = cs[j] := by simp [List.getD_eq_getElem?_getD, hj]
      show 255 < cs.getD j 0
      rw [e]; exact hw⟩
/-- an object of exactly java/lang/String, its two fields found: as the laws ask it -/
theorem strObj {Z U : State} {a0 : Array Value} {kI : Nat} (wi : (Jvm.Cond.instantiable ST kI).before a0 Z = true) (al : Z.vm.Alike U.vm) {x : Addr} {v0 c0 : Value} (E : RoadKit.Exa Z U.heap x ST) (V : RoadKit.Fld Z U.heap x ST "value" "[B" v0) (C : RoadKit.Fld Z U.heap x ST "coder" "B" c0) :
    ∃ (D : Cell) (fV fC : Field), Blank ST x D U ∧ Found ST "value" "[B" fV U ∧ Found ST "coder" "B" fC U ∧ D.slots[fV.slot]? = some v0 ∧ D.slots[fC.slot]? = some c0 ∧ RoadKit.slotOf Z ST "value" "[B" = fV.slot ∧ RoadKit.slotOf Z ST "coder" "B" = fC.slot := by
  obtain ⟨D, cfV, kV, iV, fV, hD, gV, stV, knV, obV, asV, slV⟩ := V
  obtain ⟨D', cfC, kC, iC, fC, hD', gC, stC, -, -, asC, slC⟩ := C
  cases hD.symm.trans hD'
  obtain ⟨D2, kD, e1, e2, e3, e4, e5⟩ := E
  cases hD.symm.trans e1
  obtain ⟨c2, k2, i1, i2, i3, -⟩ := Cond.instantiable_spec wi
  cases e2.symm.trans i1
  cases e3.symm.trans i2
  obtain ⟨kU, u1, u2⟩ := al.2.2 _ _ e3
  exact ⟨D, fV, fC, ⟨hD, ⟨knV, fun q hq => by rw [hq] at obV; cases obV⟩, by rw [al.findClass]; exact e2, kU, u1, by rw [u2]; exact i3, by rw [u2]; exact e5 i3⟩, ⟨SBG.found_only al ⟨cfV, kV, iV, gV⟩, stV⟩, ⟨SBG.found_only al ⟨cfC, kC, iC, gC⟩, stC⟩, slV, slC, by simp [RoadKit.slotOf, gV], by simp [RoadKit.slotOf, gC]⟩
theorem sta_is {Z U : State} (al : Z.vm.Alike U.vm) {C n d : String} {v : Value} (S : RoadKit.Sta Z U.heap C n d v) : StaticIs U C n d v := by
  obtain ⟨cfS, iS, kS, fS, st, cS, t1, t2, t3, t4, t5, t6, t7⟩ := S
  exact StaticIs.there (s := { Z with heap := U.heap }) ⟨cfS, iS, kS, fS, st, cS, t1, t2, t3, t4, t5, (fun q => by rw [q] at t6; cases t6), t7⟩ al rfl
/-- **length() OF SUCH A STRING** -/
theorem lenW {p : Program} {l : Launch} {e : Env} {R : Room} {s : State} {args : Array Value} {below : List Frame} {len W : Nat} {Z : State} {a0 : Array Value} {h : Heap} (hZ : Z.Warmed39 s.vm) (hw : ∀ d ∈ wordsLen, d.before a0 Z = true) {kI : Nat} (wi : (Jvm.Cond.instantiable ST kI).before a0 Z = true)
    {x t : Addr} {kb : ClassId} {cs : List Int32} {cd N2 z : Int32} {vs : List Value} (E : RoadKit.Exa Z h x ST) (V : RoadKit.Fld Z h x ST "value" "[B" (.ref t)) (C : RoadKit.Fld Z h x ST "coder" "B" (.int cd)) (K : RoadKit.Arv Z h t kb .byte N2 vs (.int 0)) (hc : CodA cs cd N2 vs) (hb : ∀ c ∈ cs, ¬ c < 0 ∧ ¬ (65535 : Int32) < c)
    (S : RoadKit.Sta Z h ST "COMPACT_STRINGS" "Z" (.int z)) (hz : ¬ z = 0) (l2 : cs.length ≤ 4000) (hfr : 2 ≤ R.frames) (hlo : W + 25 ≤ R.locals) :
    Back l R p e below s args (⟨"java/lang/String", "length", "()I"⟩ : MethodName) len W (fun P a => a = #[.ref x] ∧ P.U.heap = h ∧ P.cells + 0 ≤ R.cells ∧ P.slots + 0 ≤ R.slots)
      (fun P _ v B => ∃ L, (v = some (.int (Int32.ofNat cs.length)) ∧ L = [] ∧ B.U.heap = h) ∧ B.locs = P.locs ++ L ∧ B.cells = P.cells + 0 ∧ B.slots = P.slots + 0) := by
  obtain ⟨A, K1, K2, K3, K4, K5, K6⟩ := K
  have hcod := hc.cod (by omega) K3 K5
  intro m meth c P g ig mk a X hg hsize hdg hW hn hp'
  obtain ⟨rfl, rfl, r1, r2⟩ := hp'
  have al : Z.vm.Alike P.U.vm := hZ.alike.trans X.warmed.alike
  obtain ⟨D, fV, fC, hB, F1, F2, g1, g2, -, -⟩ := strObj wi al E V C
  have hx : Txt x t A cd cs.length (fun j => cs.getD j 0) P.U := ⟨⟨_, hB.2.2.1, D, hB.1, rfl, by cases q : D.vm <;> first | rfl | exact absurd q (hB.2.1.2 _)⟩, Has.of hB F1 g1, Has.of hB F2 g2, ⟨K1.1, State.isArrayOf_alike al K1.2.1, K1.2.2, by rcases hcod with ⟨-, q, -⟩ | ⟨-, q, -⟩ <;> omega⟩, hcod, fun j hj => by
    have e : cs.getD j 0 = cs[j] := by simp [List.getD_eq_getElem?_getD, hj]
    show ¬ cs.getD j 0 < 0 ∧ ¬ 65535 < cs.getD j 0
    rw [e]; exact hb _ (List.getElem_mem _)⟩
  obtain ⟨v, B, X', ⟨⟨hv, hh⟩, hl, hk, hs⟩, st⟩ := Len.pays x t A cd cs.length (fun j => cs.getD j 0) z (tabLen_of (movedLen hZ hw)) hfr hlo m meth c P g ig mk _ X hg hsize hdg hW hn ⟨r1, r2, rfl, hx, sta_is al S, hz⟩
  exact ⟨v, B, X', ⟨[], ⟨hv, rfl, hh⟩, hl, hk, hs⟩, st⟩
end StrChars.Road
namespace StrChars
open Jvm Sem ClassFile Op Lib Jvm.Stand Jvm.Free.XT Jvm.Free.ALB Jvm.Free.JM Jvm.Free
open Jvm.Lib.Cold (StaticIs)
/-- what place i of a byte[]'s cell holds -/
def yv (A : Cell) (i : Nat) : Int32 := match A.slots[i]? with | some (.int x) => x | _ => 0
theorem yv_get {a : Addr} {A : Cell} {U : State} (h : XT.Arr .byte a A U) (ht : Typed .byte A) {i : Nat} (hi : i < A.slots.size) : A.slots[i]? = some (.int (yv A i)) := by
  have e := Array.getElem?_eq_getElem hi
  have f := ht i _ e
  unfold yv; rw [e]
  generalize A.slots[i] = v at f
  cases v <;> simp [fits] at f ⊢
/-- the two arrays are equal, place for place -/
def EqC (A B : Cell) : Prop := A.slots.size = B.slots.size ∧ ∀ i, i < A.slots.size → yv A i = yv B i
/-- a boolean that says whether p -/
def Says01 (q : Prop) (r : Option Value) (s u : State) : Prop := ∃ v : Int32, r = some (.int v) ∧ u.heap = s.heap ∧ ((v = 1 ∧ q) ∨ (v = 0 ∧ ¬ q))
theorem Says01.mv {q : Prop} : ∀ r (U U' V V' : State), U'.heap = U.heap → V.vm.Alike V'.vm → V'.heap = V.heap → Says01 q r U V → Says01 q r U' V' :=
  fun r U U' V V' h1 _ h2 ⟨v, a, b, c⟩ => ⟨v, a, by rw [h1, h2]; exact b, c⟩
namespace LEq
def yN : MethodName := ⟨"java/lang/StringLatin1", "equals", "([B[B)Z"⟩
abbrev yB : ByteArray := jdk_43_method_13_code
theorem d0 : decode yB 0 = .ok (.aload_n 0, 1) := by decide +kernel
theorem d1 : decode yB 1 = .ok (.arraylength, 1) := by decide +kernel
theorem d2 : decode yB 2 = .ok (.aload_n 1, 1) := by decide +kernel
theorem d3 : decode yB 3 = .ok (.arraylength, 1) := by decide +kernel
theorem d4 : decode yB 4 = .ok (.if_icmp (.ne) 30, 3) := by decide +kernel
theorem d7 : decode yB 7 = .ok (.iconst 0, 1) := by decide +kernel
theorem d8 : decode yB 8 = .ok (.istore_n 2, 1) := by decide +kernel
theorem d9 : decode yB 9 = .ok (.iload_n 2, 1) := by decide +kernel
theorem d10 : decode yB 10 = .ok (.aload_n 0, 1) := by decide +kernel
theorem d11 : decode yB 11 = .ok (.arraylength, 1) := by decide +kernel
theorem d12 : decode yB 12 = .ok (.if_icmp (.ge) 20, 3) := by decide +kernel
theorem d15 : decode yB 15 = .ok (.aload_n 0, 1) := by decide +kernel
theorem d16 : decode yB 16 = .ok (.iload_n 2, 1) := by decide +kernel
theorem d17 : decode yB 17 = .ok (.baload, 1) := by decide +kernel
theorem d18 : decode yB 18 = .ok (.aload_n 1, 1) := by decide +kernel
theorem d19 : decode yB 19 = .ok (.iload_n 2, 1) := by decide +kernel
theorem d20 : decode yB 20 = .ok (.baload, 1) := by decide +kernel
theorem d21 : decode yB 21 = .ok (.if_icmp (.eq) 5, 3) := by decide +kernel
theorem d24 : decode yB 24 = .ok (.iconst 0, 1) := by decide +kernel
theorem d25 : decode yB 25 = .ok (.ireturn, 1) := by decide +kernel
theorem d26 : decode yB 26 = .ok (.iinc 2 1, 3) := by decide +kernel
theorem d29 : decode yB 29 = .ok (.goto (-20), 3) := by decide +kernel
theorem d32 : decode yB 32 = .ok (.iconst 1, 1) := by decide +kernel
theorem d33 : decode yB 33 = .ok (.ireturn, 1) := by decide +kernel
theorem d34 : decode yB 34 = .ok (.iconst 0, 1) := by decide +kernel
theorem d35 : decode yB 35 = .ok (.ireturn, 1) := by decide +kernel
def site : List Cond := []
def tab : Cond := tabOf yN yB 3 (some .boolean) site
def P (a : Addr) (A : Cell) (b : Addr) (B : Cell) (args : Array Value) (s : State) : Prop := args = #[.ref a, .ref b] ∧ XT.Arr .byte a A s ∧ Typed .byte A ∧ XT.Arr .byte b B s ∧ Typed .byte B
/-- whether two byte[] are equal, place for place -/
theorem law (l : Launch) (a : Addr) (A : Cell) (b : Addr) (B : Cell) : Law l yN 2 2 0 0 yB 3 (some .boolean) site (P a A b B) (Says01 (EqC A B)) [] 0 0 := by
  refine Law.of_walk (plainFor_of_name (by decide +kernel)) (by decide +kernel) (by decide +kernel) (by decide) (fun _ _ h => by rw [h.1]; rfl) (fun _ U U' hal hh h => ⟨h.1, h.2.1.mv hal hh, h.2.2.1, h.2.2.2.1.mv hal hh, h.2.2.2.2⟩) (fun r U U' V V' h1 hal h2 h => Says01.mv r U U' V V' h1 hal h2 h) ?_
  intro p e s m args below meth c s₁ X0 hexec hbytes hml hret hlk hnm hown hh0 W hP
  obtain ⟨rfl, hA, tA, hB, tB⟩ := hP
  have a31 := hA.2.2.2
  have b31 := hB.2.2.2
  have hA0 := hA.mv X0.warmed.alike hh0
  have hB0 := hB.mv X0.warmed.alike hh0
  have c1 : Steps p.tables e below (s₁.setTop (entryFrame m #[.ref a, .ref b] 3)) (s₁.setTop (mkF m 0 #[.val (.ref a), .val (.ref b), .unset] [])) := entry rfl
  have c2 : Steps p.tables e below (s₁.setTop (entryFrame m #[.ref a, .ref b] 3)) (s₁.setTop (mkF m 4 #[.val (.ref a), .val (.ref b), .unset] [.int (Int32.ofNat B.slots.size), .int (Int32.ofNat A.slots.size)])) := c1.trans (by
    refine XS.aloadN X0.here hexec rfl (hb hbytes d0) rfl rfl ?_
    refine X0.alen hexec hA0 rfl rfl (hb hbytes d1) ?_
    refine XS.aloadN X0.here hexec rfl (hb hbytes d2) rfl rfl ?_
    refine X0.alen hexec hB0 rfl rfl (hb hbytes d3) ?_
    exact Steps.refl _)
  by_cases hs : A.slots.size = B.slots.size
  · have c3 : Steps p.tables e below (s₁.setTop (entryFrame m #[.ref a, .ref b] 3)) (s₁.setTop (mkF m 9 #[.val (.ref a), .val (.ref b), .val (.int 0)] [])) := c2.trans (by
      refine XS.icmpNo X0.here hexec rfl (hb hbytes d4) rfl (ii_ne_f (by rw [hs])) ?_
      refine iconstV X0.here hexec rfl 0 (hb hbytes d7) (by decide) ?_
      refine XS.istoreN X0.here hexec rfl (hb hbytes d8) rfl rfl ?_
      exact Steps.refl _)
    have loop : ∀ (r i : Nat), i + r = A.slots.size → (∀ j, j < i → yv A j = yv B j) → Steps p.tables e below (s₁.setTop (entryFrame m #[.ref a, .ref b] 3)) (s₁.setTop (mkF m 9 #[.val (.ref a), .val (.ref b), .val (.int (Int32.ofNat i))] [])) → ∃ (pc : Nat) (Ls : Array Slot) (v : Int32), (pc = 25 ∨ pc = 33) ∧ ((v = 1 ∧ EqC A B) ∨ (v = 0 ∧ ¬ EqC A B)) ∧ Steps p.tables e below (s₁.setTop (entryFrame m #[.ref a, .ref b] 3)) (s₁.setTop (mkF m pc Ls [.int v])) := by
      intro r
      induction r with
      | zero =>
        intro i hi he cl
        exact ⟨33, _, 1, Or.inr rfl, Or.inl ⟨rfl, hs, fun j hj => he j (by omega)⟩, cl.trans (by
          refine XS.iloadN X0.here hexec rfl (hb hbytes d9) rfl ?_
          refine XS.aloadN X0.here hexec rfl (hb hbytes d10) rfl rfl ?_
          refine X0.alen hexec hA0 rfl rfl (hb hbytes d11) ?_
          refine XS.icmpYes X0.here hexec rfl (pc0 := 12) rfl (hb hbytes d12) rfl (ii_ge_t (nlt32 (by omega) (by omega))) (by decide) rfl ?_
          refine iconstV X0.here hexec rfl 1 (hb hbytes d32) (by decide) ?_
          exact Steps.refl _)⟩
      | succ r ih =>
        intro i hi he cl
        have c4 : Steps p.tables e below (s₁.setTop (entryFrame m #[.ref a, .ref b] 3)) (s₁.setTop (mkF m 21 #[.val (.ref a), .val (.ref b), .val (.int (Int32.ofNat i))] [.int (yv B i), .int (yv A i)])) := cl.trans (by
          refine XS.iloadN X0.here hexec rfl (hb hbytes d9) rfl ?_
          refine XS.aloadN X0.here hexec rfl (hb hbytes d10) rfl rfl ?_
          refine X0.alen hexec hA0 rfl rfl (hb hbytes d11) ?_
          refine XS.icmpNo X0.here hexec rfl (hb hbytes d12) rfl (ii_ge_f (lt32 (by omega) (by omega))) ?_
          refine XS.aloadN X0.here hexec rfl (hb hbytes d15) rfl rfl ?_
          refine XS.iloadN X0.here hexec rfl (hb hbytes d16) rfl ?_
          refine X0.aget hexec hA0 rfl (yv_get hA tA (i := i) (by omega)) rfl rfl (hb hbytes d17) ?_
          refine XS.aloadN X0.here hexec rfl (hb hbytes d18) rfl rfl ?_
          refine XS.iloadN X0.here hexec rfl (hb hbytes d19) rfl ?_
          refine X0.aget hexec hB0 rfl (yv_get hB tB (i := i) (by omega)) rfl rfl (hb hbytes d20) ?_
          exact Steps.refl _)
        by_cases hv : yv A i = yv B i
        · have c5 : Steps p.tables e below (s₁.setTop (entryFrame m #[.ref a, .ref b] 3)) (s₁.setTop (mkF m 9 #[.val (.ref a), .val (.ref b), .val (.int (Int32.ofNat i + 1))] [])) := c4.trans (by
            refine XS.icmpYes X0.here hexec rfl (pc0 := 21) rfl (hb hbytes d21) rfl (ii_eq_t hv) (by decide) rfl ?_
            refine iincV X0.here hexec rfl 1 (hb hbytes d26) (by decide) rfl rfl ?_
            refine XS.goto X0.here hexec rfl (pc0 := 29) rfl (hb hbytes d29) (by decide) rfl ?_
            exact Steps.refl _)
          rw [succ32] at c5
          exact ih (i + 1) (by omega) (fun j hj => by
            by_cases e : j = i
            · rw [e]; exact hv
            · exact he j (by omega)) c5
        · exact ⟨25, _, 0, Or.inl rfl, Or.inr ⟨rfl, fun q => hv (q.2 i (by omega))⟩, c4.trans (by
            refine XS.icmpNo X0.here hexec rfl (hb hbytes d21) rfl (ii_eq_f hv) ?_
            refine iconstV X0.here hexec rfl 0 (hb hbytes d24) (by decide) ?_
            exact Steps.refl _)⟩
    obtain ⟨pc, Ls, v, hpc, hv, cz⟩ := loop A.slots.size 0 (by omega) (fun j hj => absurd hj (Nat.not_lt_zero j)) c3
    have nv : narrow .boolean (.int v) = .int v := by rcases hv with ⟨rfl, -⟩ | ⟨rfl, -⟩ <;> rfl
    rcases hpc with rfl | rfl
    · exact ⟨s₁, some (.int v), _, _, _, X0, rfl, rfl, rfl, (fun h => by cases h), ⟨v, rfl, hh0, hv⟩, fun fs hl => cz.trans (X0.ireturnOut hexec hret nv (Or.inr (Or.inl rfl)) (hb hbytes d25) hl)⟩
    · exact ⟨s₁, some (.int v), _, _, _, X0, rfl, rfl, rfl, (fun h => by cases h), ⟨v, rfl, hh0, hv⟩, fun fs hl => cz.trans (X0.ireturnOut hexec hret nv (Or.inr (Or.inl rfl)) (hb hbytes d33) hl)⟩
  · have c3 : Steps p.tables e below (s₁.setTop (entryFrame m #[.ref a, .ref b] 3)) (s₁.setTop (mkF m 35 #[.val (.ref a), .val (.ref b), .unset] [.int 0])) := c2.trans (by
      refine XS.icmpYes X0.here hexec rfl (pc0 := 4) rfl (hb hbytes d4) rfl (ii_ne_t (ne32 a31 b31 hs)) (by decide) rfl ?_
      refine iconstV X0.here hexec rfl 0 (hb hbytes d34) (by decide) ?_
      exact Steps.refl _)
    exact ⟨s₁, some (.int 0), _, _, _, X0, rfl, rfl, rfl, (fun h => by cases h), ⟨0, rfl, hh0, Or.inr ⟨rfl, fun q => hs q.1⟩⟩, fun fs hl => c3.trans (X0.ireturnOut hexec hret rfl (Or.inr (Or.inl rfl)) (hb hbytes d35) hl)⟩
end LEq
theorem Cod.ty {cd : Int32} {n : Nat} {f : Nat → Int32} {V : Cell} (h : Cod cd n f V) : Typed .byte V := fun i v hv => by
  have hi : i < V.slots.size := (Array.getElem?_eq_some_iff.mp hv).1
  rcases h with ⟨-, k1, k2⟩ | ⟨-, k1, k2, -⟩
  · rw [(k2 i (by omega)).1] at hv; cases hv; exact fits_lo8 _
  · rcases Nat.mod_two_eq_zero_or_one i with e | e
    · obtain ⟨j, rfl⟩ : ∃ j, i = 2 * j := ⟨i / 2, by omega⟩
      rw [(k2 j (by omega)).1] at hv; cases hv; exact fits_lo8 _
    · obtain ⟨j, rfl⟩ : ∃ j, i = 2 * j + 1 := ⟨i / 2, by omega⟩
      rw [(k2 j (by omega)).2] at hv; cases hv; exact fits_lo8 _
/-- the same text -/
def SameT (n : Nat) (f : Nat → Int32) (k : Nat) (g : Nat → Int32) : Prop := n = k ∧ ∀ j, j < n → f j = g j
theorem lo8_inj {x y : Int32} (h0 : ¬ x < 0) (h1 : ¬ 255 < x) (k0 : ¬ y < 0) (k1 : ¬ 255 < y) (h : lo8 x = lo8 y) : x = y := by
  rw [← lo8_mask h0 h1, ← lo8_mask k0 k1, h]
/-- arrays coded by one coder are equal just where the texts are -/
theorem Cod.eqv {cd : Int32} {n k : Nat} {f g : Nat → Int32} {V V' : Cell} (h : Cod cd n f V) (h' : Cod cd k g V') (hf : ∀ j, j < n → ¬ f j < 0 ∧ ¬ 65535 < f j) (hg : ∀ j, j < k → ¬ g j < 0 ∧ ¬ 65535 < g j) : EqC V V' ↔ SameT n f k g := by
  have yvv : ∀ {W : Cell} {i : Nat} {x : Int32}, W.slots[i]? = some (.int x) → yv W i = x := fun q => by unfold yv; rw [q]
  rcases h with ⟨rfl, k1, k2⟩ | ⟨rfl, k1, k2, -⟩
  · rcases h' with ⟨-, m1, m2⟩ | ⟨e, -⟩
    · constructor
      · rintro ⟨e1, e2⟩
        refine ⟨by omega, fun j hj => ?_⟩
        have q := e2 j (by omega)
        rw [yvv (k2 j hj).1, yvv (m2 j (by omega)).1] at q
        exact lo8_inj (hf j hj).1 (k2 j hj).2 (hg j (by omega)).1 (m2 j (by omega)).2 q
      · rintro ⟨rfl, e2⟩
        refine ⟨by omega, fun j hj => ?_⟩
        rw [yvv (k2 j (by omega)).1, yvv (m2 j (by omega)).1, e2 j (by omega)]
    · exact absurd e (by decide)
  · rcases h' with ⟨e, -⟩ | ⟨-, m1, m2, -⟩
    · exact absurd e (by decide)
    · constructor
      · rintro ⟨e1, e2⟩
        refine ⟨by omega, fun j hj => ?_⟩
        have q1 := e2 (2 * j) (by omega)
        have q2 := e2 (2 * j + 1) (by omega)
        rw [yvv (k2 j hj).1, yvv (m2 j (by omega)).1] at q1
        rw [yvv (k2 j hj).2, yvv (m2 j (by omega)).2] at q2
        rw [← pair_says (hf j hj).1 (hf j hj).2, ← pair_says (hg j (by omega)).1 (hg j (by omega)).2, q1, q2]
      · rintro ⟨rfl, e2⟩
        refine ⟨by omega, fun i hi => ?_⟩
        rcases Nat.mod_two_eq_zero_or_one i with e | e
        · obtain ⟨j, rfl⟩ : ∃ j, i = 2 * j := ⟨i / 2, by omega⟩
          rw [yvv (k2 j (by omega)).1, yvv (m2 j (by omega)).1, e2 j (by omega)]
        · obtain ⟨j, rfl⟩ : ∃ j, i = 2 * j + 1 := ⟨i / 2, by omega⟩
          rw [yvv (k2 j (by omega)).2, yvv (m2 j (by omega)).2, e2 j (by omega)]
/-- two codings differ: so do the texts -/
theorem Cod.dif {cd cd' : Int32} {n k : Nat} {f g : Nat → Int32} {V V' : Cell} (h : Cod cd n f V) (h' : Cod cd' k g V') (hne : ¬ cd = cd') : ¬ SameT n f k g := by
  rintro ⟨rfl, e⟩
  rcases h with ⟨rfl, -, k2⟩ | ⟨rfl, -, -, j, hj, hw⟩
  · rcases h' with ⟨rfl, -⟩ | ⟨-, -, -, j, hj, hw⟩
    · exact hne rfl
    · exact (k2 j hj).2 (by rw [e j hj]; exact hw)
  · rcases h' with ⟨-, -, m2⟩ | ⟨rfl, -⟩
    · exact (m2 j hj).2 (by rw [← e j hj]; exact hw)
    · exact hne rfl
/-- an object of exactly C is an instance of C -/
theorem cinst {p : Program} {l : Launch} {e : Env} {R : Room} {s : State} {m : MethodId} {args : Array Value} {below : List Frame} {meth : Method} {c : Code} {T : State} {locs : List Loc} {cells slots : Nat} (X : Stand p l e R s m args below meth c T locs cells slots) (hexec : p.tables.exec = Jvm.exec) {own C : String} {index : Nat} (hown : s.vm.findClass own = some m.cls) (hlink : (Cond.classLink own index C).before args s = true) {a : Addr} (hE : Exact C a T)
    {g : JFrame} (hg : g.method = m) {rest : List Value} (hstack : g.stack = .ref a :: rest) (hdg : decode c.code g.pc = .ok (.instanceof index, 3)) :
    ∃ T', Stand p l e R s m args below meth c T' locs cells slots ∧ T'.heap = T.heap ∧ ∀ target, Steps p.tables e below (T'.setTop { g with pc := g.pc + 3, stack := .int 1 :: rest }) target → Steps p.tables e below (T.setTop g) target := by
  obtain ⟨cB, h1, D, h2, h3, h4⟩ := hE
  have h1' : s.vm.findClass C = some cB := by rw [← X.warmed.alike.findClass]; exact h1
  obtain ⟨vm', X', st⟩ := X.instanceofYes hexec hown hlink h2 h4 h1' (by rw [h3]; exact Jvm.Free.SB.assignable_self _ _) hg hstack hdg
  exact ⟨_, X', rfl, st⟩
theorem cself {p : Program} {l : Launch} {e : Env} {R : Room} {s : State} {m : MethodId} {args : Array Value} {below : List Frame} {meth : Method} {c : Code} {T : State} {locs : List Loc} {cells slots : Nat} (X : Stand p l e R s m args below meth c T locs cells slots) (hexec : p.tables.exec = Jvm.exec) {own C : String} {index : Nat} (hown : s.vm.findClass own = some m.cls) (hlink : (Cond.classLink own index C).before args s = true) {a : Addr} (hE : Exact C a T)
    {g : JFrame} (hg : g.method = m) {rest : List Value} (hstack : g.stack = .ref a :: rest) (hdg : decode c.code g.pc = .ok (.checkcast index, 3)) :
    ∃ T', Stand p l e R s m args below meth c T' locs cells slots ∧ T'.heap = T.heap ∧ ∀ target, Steps p.tables e below (T'.setTop { g with pc := g.pc + 3, stack := .ref a :: rest }) target → Steps p.tables e below (T.setTop g) target := by
  obtain ⟨cB, h1, D, h2, h3, h4⟩ := hE
  have h1' : s.vm.findClass C = some cB := by rw [← X.warmed.alike.findClass]; exact h1
  obtain ⟨vm', X', st⟩ := X.checkcastYes hexec hown hlink h2 h4 h1' (by rw [h3]; exact Jvm.Free.SB.assignable_self _ _) hg hstack hdg
  exact ⟨_, X', rfl, fun t h => st t (by rw [← hstack] at h; exact h)⟩
namespace SEq
def yN : MethodName := ⟨"java/lang/String", "equals", "(Ljava/lang/Object;)Z"⟩
abbrev yB : ByteArray := jdk_42_method_66_code
theorem d0 : decode yB 0 = .ok (.aload_n 0, 1) := by decide +kernel
theorem d1 : decode yB 1 = .ok (.aload_n 1, 1) := by decide +kernel
theorem d2 : decode yB 2 = .ok (.if_acmp (.ne) 5, 3) := by decide +kernel
theorem d5 : decode yB 5 = .ok (.iconst 1, 1) := by decide +kernel
theorem d6 : decode yB 6 = .ok (.ireturn, 1) := by decide +kernel
theorem d7 : decode yB 7 = .ok (.aload_n 1, 1) := by decide +kernel
theorem d8 : decode yB 8 = .ok (.instanceof 10, 3) := by decide +kernel
theorem d11 : decode yB 11 = .ok (.ifCond (.eq) 43, 3) := by decide +kernel
theorem d14 : decode yB 14 = .ok (.aload_n 1, 1) := by decide +kernel
theorem d15 : decode yB 15 = .ok (.checkcast 10, 3) := by decide +kernel
theorem d18 : decode yB 18 = .ok (.astore_n 2, 1) := by decide +kernel
theorem d19 : decode yB 19 = .ok (.getstatic 38, 3) := by decide +kernel
theorem d22 : decode yB 22 = .ok (.ifCond (.eq) 14, 3) := by decide +kernel
theorem d25 : decode yB 25 = .ok (.aload_n 0, 1) := by decide +kernel
theorem d26 : decode yB 26 = .ok (.getfield 15, 3) := by decide +kernel
theorem d29 : decode yB 29 = .ok (.aload_n 2, 1) := by decide +kernel
theorem d30 : decode yB 30 = .ok (.getfield 15, 3) := by decide +kernel
theorem d33 : decode yB 33 = .ok (.if_icmp (.ne) 21, 3) := by decide +kernel
theorem d36 : decode yB 36 = .ok (.aload_n 0, 1) := by decide +kernel
theorem d37 : decode yB 37 = .ok (.getfield 9, 3) := by decide +kernel
theorem d40 : decode yB 40 = .ok (.aload_n 2, 1) := by decide +kernel
theorem d41 : decode yB 41 = .ok (.getfield 9, 3) := by decide +kernel
theorem d44 : decode yB 44 = .ok (.invokestatic 541, 3) := by decide +kernel
theorem d47 : decode yB 47 = .ok (.ifCond (.eq) 7, 3) := by decide +kernel
theorem d50 : decode yB 50 = .ok (.iconst 1, 1) := by decide +kernel
theorem d51 : decode yB 51 = .ok (.goto 4, 3) := by decide +kernel
theorem d54 : decode yB 54 = .ok (.iconst 0, 1) := by decide +kernel
theorem d55 : decode yB 55 = .ok (.ireturn, 1) := by decide +kernel
def site : List Cond := [.classLink "java/lang/String" 10 "java/lang/String", .fieldLink "java/lang/String" 38 "java/lang/String" "COMPACT_STRINGS" "Z", .fieldLink "java/lang/String" 15 "java/lang/String" "coder" "B", .fieldLink "java/lang/String" 9 "java/lang/String" "value" "[B", LEq.tab] ++ staticW "java/lang/String" 541 LEq.yN
def tab : Cond := tabOf yN yB 3 (some .boolean) site
def P (x t : Addr) (V : Cell) (cd : Int32) (n : Nat) (f : Nat → Int32) (y t' : Addr) (V' : Cell) (cd' : Int32) (k : Nat) (g : Nat → Int32) (z : Int32) (args : Array Value) (s : State) : Prop := args = #[.ref x, .ref y] ∧ Txt x t V cd n f s ∧ Txt y t' V' cd' k g s ∧ StaticIs s "java/lang/String" "COMPACT_STRINGS" "Z" (.int z) ∧ ¬ z = 0
/-- equals(Object) of two Strings: whether the texts are the same -/
theorem law (l : Launch) (x t : Addr) (V : Cell) (cd : Int32) (n : Nat) (f : Nat → Int32) (y t' : Addr) (V' : Cell) (cd' : Int32) (k : Nat) (g : Nat → Int32) (z : Int32) : Law l yN 2 1 1 14 yB 3 (some .boolean) site (P x t V cd n f y t' V' cd' k g z) (Says01 (SameT n f k g)) [] 0 0 := by
  refine Law.of_walk (plainFor_of_name (by decide +kernel)) (by decide +kernel) (by decide +kernel) (by decide) (fun _ _ h => by rw [h.1]; rfl) (fun _ U U' hal hh h => ⟨h.1, h.2.1.mv hal hh, h.2.2.1.mv hal hh, h.2.2.2.1.there hal hh, h.2.2.2.2⟩) (fun r U U' V V' h1 hal h2 h => Says01.mv r U U' V V' h1 hal h2 h) ?_
  intro p e s m args below meth c s₁ X0 hexec hbytes hml hret hlk hnm hown hh0 W hP
  obtain ⟨rfl, hx, hy, s1, hz⟩ := hP
  have c1 : Steps p.tables e below (s₁.setTop (entryFrame m #[.ref x, .ref y] 3)) (s₁.setTop (mkF m 2 #[.val (.ref x), .val (.ref y), .unset] [.ref y, .ref x])) := Steps.trans (entry rfl) (by
    show Steps p.tables e below (s₁.setTop (mkF m 0 #[.val (.ref x), .val (.ref y), .unset] [])) _
    refine XS.aloadN X0.here hexec rfl (hb hbytes d0) rfl rfl ?_
    refine XS.aloadN X0.here hexec rfl (hb hbytes d1) rfl rfl ?_
    exact Steps.refl _)
  by_cases hxy : x = y
  · have c2 : Steps p.tables e below (s₁.setTop (entryFrame m #[.ref x, .ref y] 3)) (s₁.setTop (mkF m 6 #[.val (.ref x), .val (.ref y), .unset] [.int 1])) := c1.trans (by
      refine acmpNo X0.here hexec rfl (hb hbytes d2) rfl rfl rfl (by simp [acmp, hxy]) ?_
      refine iconstV X0.here hexec rfl 1 (hb hbytes d5) (by decide) ?_
      exact Steps.refl _)
    subst hxy
    have ec : cd = cd' := by
      obtain ⟨D, fd, a1, a2, a3⟩ := hx.2.2.1
      obtain ⟨D', fd', b1, b2, b3⟩ := hy.2.2.1
      cases a1.symm.trans b1
      obtain ⟨q1, q2, q3, q4⟩ := a2.1
      obtain ⟨r1, r2, r3, r4⟩ := b2.1
      cases q4.symm.trans r4
      cases a3.symm.trans b3; rfl
    have et : t = t' := by
      obtain ⟨D, fd, a1, a2, a3⟩ := hx.2.1
      obtain ⟨D', fd', b1, b2, b3⟩ := hy.2.1
      cases a1.symm.trans b1
      obtain ⟨q1, q2, q3, q4⟩ := a2.1
      obtain ⟨r1, r2, r3, r4⟩ := b2.1
      cases q4.symm.trans r4
      cases a3.symm.trans b3; rfl
    subst ec et
    have ev : V = V' := by cases hx.2.2.2.1.1.symm.trans hy.2.2.2.1.1; rfl
    subst ev
    have hs : SameT n f k g := (Cod.eqv hx.2.2.2.2.1 hy.2.2.2.2.1 hx.2.2.2.2.2 hy.2.2.2.2.2).mp ⟨rfl, fun _ _ => rfl⟩
    exact ⟨s₁, some (.int 1), _, _, _, X0, rfl, rfl, rfl, (fun h => by cases h), ⟨1, rfl, hh0, Or.inl ⟨rfl, hs⟩⟩, fun fs hl => c2.trans (X0.ireturnOut hexec hret rfl (Or.inr (Or.inl rfl)) (hb hbytes d6) hl)⟩
  · have c2 : Steps p.tables e below (s₁.setTop (entryFrame m #[.ref x, .ref y] 3)) (s₁.setTop (mkF m 8 #[.val (.ref x), .val (.ref y), .unset] [.ref y])) := c1.trans (by
      refine acmpYes X0.here hexec rfl (pc0 := 2) rfl (hb hbytes d2) rfl rfl rfl (by simp [acmp, hxy]) (by decide) rfl ?_
      refine XS.aloadN X0.here hexec rfl (hb hbytes d7) rfl rfl ?_
      exact Steps.refl _)
    obtain ⟨T3, X3, q3, st3⟩ := cinst X0 hexec hown (wk W (.classLink "java/lang/String" 10 "java/lang/String")) (hy.mv X0.warmed.alike hh0).1 (g := (mkF m 8 #[.val (.ref x), .val (.ref y), .unset] [.ref y])) rfl (rest := []) rfl (hb hbytes d8)
    have hh3 := q3.trans hh0
    have c4 : Steps p.tables e below (s₁.setTop (entryFrame m #[.ref x, .ref y] 3)) (T3.setTop (mkF m 15 #[.val (.ref x), .val (.ref y), .unset] [.ref y])) := (c2.trans (st3 _ (Steps.refl _))).trans (by
      refine XS.ifNo X3.here hexec rfl (hb hbytes d11) rfl (i0_eq_f (by decide)) ?_
      refine XS.aloadN X3.here hexec rfl (hb hbytes d14) rfl rfl ?_
      exact Steps.refl _)
    obtain ⟨T5, X5, q5, st5⟩ := cself X3 hexec hown (wk W (.classLink "java/lang/String" 10 "java/lang/String")) (hy.mv X3.warmed.alike hh3).1 (g := (mkF m 15 #[.val (.ref x), .val (.ref y), .unset] [.ref y])) rfl (rest := []) rfl (hb hbytes d15)
    have hh5 := q5.trans hh3
    have c6 : Steps p.tables e below (s₁.setTop (entryFrame m #[.ref x, .ref y] 3)) (T5.setTop (mkF m 19 #[.val (.ref x), .val (.ref y), .val (.ref y)] [])) := (c4.trans (st5 _ (Steps.refl _))).trans (by
      refine XS.astoreN X5.here hexec rfl (hb hbytes d18) rfl rfl rfl ?_
      exact Steps.refl _)
    obtain ⟨T7, X7, q7, st7⟩ := X5.sget hexec hown (wk W (.fieldLink "java/lang/String" 38 "java/lang/String" "COMPACT_STRINGS" "Z")) s1 (fun _ _ h => by rw [hh5]; exact h) (g := (mkF m 19 #[.val (.ref x), .val (.ref y), .val (.ref y)] [])) rfl (hb hbytes d19)
    have hh7 := q7.trans hh5
    have c8 : Steps p.tables e below (s₁.setTop (entryFrame m #[.ref x, .ref y] 3)) (T7.setTop (mkF m 26 #[.val (.ref x), .val (.ref y), .val (.ref y)] [.ref x])) := (c6.trans (st7 _ (Steps.refl _))).trans (by
      refine XS.ifNo X7.here hexec rfl (hb hbytes d22) rfl (i0_eq_f hz) ?_
      refine XS.aloadN X7.here hexec rfl (hb hbytes d25) rfl rfl ?_
      exact Steps.refl _)
    obtain ⟨T9, X9, q9, st9⟩ := X7.hget hexec hown (wk W (.fieldLink "java/lang/String" 15 "java/lang/String" "coder" "B")) (hx.mv X7.warmed.alike hh7).2.2.1 (g := (mkF m 26 #[.val (.ref x), .val (.ref y), .val (.ref y)] [.ref x])) rfl (rest := []) rfl (hb hbytes d26)
    have hh9 := q9.trans hh7
    have c10 : Steps p.tables e below (s₁.setTop (entryFrame m #[.ref x, .ref y] 3)) (T9.setTop (mkF m 30 #[.val (.ref x), .val (.ref y), .val (.ref y)] [.ref y, .int cd])) := (c8.trans (st9 _ (Steps.refl _))).trans (by
      refine XS.aloadN X9.here hexec rfl (hb hbytes d29) rfl rfl ?_
      exact Steps.refl _)
    obtain ⟨T11, X11, q11, st11⟩ := X9.hget hexec hown (wk W (.fieldLink "java/lang/String" 15 "java/lang/String" "coder" "B")) (hy.mv X9.warmed.alike hh9).2.2.1 (g := (mkF m 30 #[.val (.ref x), .val (.ref y), .val (.ref y)] [.ref y, .int cd])) rfl (rest := [.int cd]) rfl (hb hbytes d30)
    have hh11 := q11.trans hh9
    have c12 : Steps p.tables e below (s₁.setTop (entryFrame m #[.ref x, .ref y] 3)) (T11.setTop (mkF m 33 #[.val (.ref x), .val (.ref y), .val (.ref y)] [.int cd', .int cd])) := c10.trans (st11 _ (Steps.refl _))
    by_cases hcd : cd = cd'
    · subst hcd
      have c13 : Steps p.tables e below (s₁.setTop (entryFrame m #[.ref x, .ref y] 3)) (T11.setTop (mkF m 37 #[.val (.ref x), .val (.ref y), .val (.ref y)] [.ref x])) := c12.trans (by
        refine XS.icmpNo X11.here hexec rfl (hb hbytes d33) rfl (ii_ne_f rfl) ?_
        refine XS.aloadN X11.here hexec rfl (hb hbytes d36) rfl rfl ?_
        exact Steps.refl _)
      obtain ⟨T14, X14, q14, st14⟩ := X11.hget hexec hown (wk W (.fieldLink "java/lang/String" 9 "java/lang/String" "value" "[B")) (hx.mv X11.warmed.alike hh11).2.1 (g := (mkF m 37 #[.val (.ref x), .val (.ref y), .val (.ref y)] [.ref x])) rfl (rest := []) rfl (hb hbytes d37)
      have hh14 := q14.trans hh11
      have c15 : Steps p.tables e below (s₁.setTop (entryFrame m #[.ref x, .ref y] 3)) (T14.setTop (mkF m 41 #[.val (.ref x), .val (.ref y), .val (.ref y)] [.ref y, .ref t])) := (c13.trans (st14 _ (Steps.refl _))).trans (by
        refine XS.aloadN X14.here hexec rfl (hb hbytes d40) rfl rfl ?_
        exact Steps.refl _)
      obtain ⟨T16, X16, q16, st16⟩ := X14.hget hexec hown (wk W (.fieldLink "java/lang/String" 9 "java/lang/String" "value" "[B")) (hy.mv X14.warmed.alike hh14).2.1 (g := (mkF m 41 #[.val (.ref x), .val (.ref y), .val (.ref y)] [.ref y, .ref t])) rfl (rest := [.ref t]) rfl (hb hbytes d41)
      have hh16 := q16.trans hh14
      have c17 : Steps p.tables e below (s₁.setTop (entryFrame m #[.ref x, .ref y] 3)) (T16.setTop (mkF m 44 #[.val (.ref x), .val (.ref y), .val (.ref y)] [.ref t', .ref t])) := c15.trans (st16 _ (Steps.refl _))
      obtain ⟨v18, T18, X18, E18, g18⟩ := X16.callS hexec (LEq.law l t V t' V') hown (wks W (staticW "java/lang/String" 541 LEq.yN)) (wk W LEq.tab) (W := 0) (Nat.le_of_ble_eq_true rfl) (Nat.le_of_ble_eq_true rfl) (Nat.le_refl _) (Nat.le_refl _) (g := (mkF m 44 #[.val (.ref x), .val (.ref y), .val (.ref y)] [.ref t', .ref t])) rfl (by rw [hml]; rfl) c17 (argsL := [.ref t, .ref t']) (rest := []) rfl rfl (by show 2 * 0 + 0 ≤ _; decide) (hb hbytes d44) (⟨rfl, hx.2.2.2.1.mv X16.warmed.alike hh16, hx.2.2.2.2.1.ty, hy.2.2.2.1.mv X16.warmed.alike hh16, hy.2.2.2.2.1.ty⟩)
      obtain ⟨v, rfl, q18, hv⟩ := E18
      have iff := Cod.eqv hx.2.2.2.2.1 hy.2.2.2.2.1 hx.2.2.2.2.2 hy.2.2.2.2.2
      rcases hv with ⟨rfl, he⟩ | ⟨rfl, he⟩
      · have c19 : Steps p.tables e below (s₁.setTop (entryFrame m #[.ref x, .ref y] 3)) (T18.setTop (mkF m 55 #[.val (.ref x), .val (.ref y), .val (.ref y)] [.int 1])) := Steps.trans g18 (by
          refine XS.ifNo X18.here hexec rfl (hb hbytes d47) rfl (i0_eq_f (by decide)) ?_
          refine iconstV X18.here hexec rfl 1 (hb hbytes d50) (by decide) ?_
          refine XS.goto X18.here hexec rfl (pc0 := 51) rfl (hb hbytes d51) (by decide) rfl ?_
          exact Steps.refl _)
        exact ⟨T18, some (.int 1), _, _, _, X18, rfl, rfl, rfl, (fun h => by cases h), ⟨1, rfl, q18.trans hh16, Or.inl ⟨rfl, iff.mp he⟩⟩, fun fs hl => c19.trans (X18.ireturnOut hexec hret rfl (Or.inr (Or.inl rfl)) (hb hbytes d55) hl)⟩
      · have c19 : Steps p.tables e below (s₁.setTop (entryFrame m #[.ref x, .ref y] 3)) (T18.setTop (mkF m 55 #[.val (.ref x), .val (.ref y), .val (.ref y)] [.int 0])) := Steps.trans g18 (by
          refine XS.ifYes X18.here hexec rfl (pc0 := 47) rfl (hb hbytes d47) rfl (i0_eq_t rfl) (by decide) rfl ?_
          refine iconstV X18.here hexec rfl 0 (hb hbytes d54) (by decide) ?_
          exact Steps.refl _)
        exact ⟨T18, some (.int 0), _, _, _, X18, rfl, rfl, rfl, (fun h => by cases h), ⟨0, rfl, q18.trans hh16, Or.inr ⟨rfl, fun q => he (iff.mpr q)⟩⟩, fun fs hl => c19.trans (X18.ireturnOut hexec hret rfl (Or.inr (Or.inl rfl)) (hb hbytes d55) hl)⟩
    · have c13 : Steps p.tables e below (s₁.setTop (entryFrame m #[.ref x, .ref y] 3)) (T11.setTop (mkF m 55 #[.val (.ref x), .val (.ref y), .val (.ref y)] [.int 0])) := c12.trans (by
        refine XS.icmpYes X11.here hexec rfl (pc0 := 33) rfl (hb hbytes d33) rfl (ii_ne_t hcd) (by decide) rfl ?_
        refine iconstV X11.here hexec rfl 0 (hb hbytes d54) (by decide) ?_
        exact Steps.refl _)
      exact ⟨T11, some (.int 0), _, _, _, X11, rfl, rfl, rfl, (fun h => by cases h), ⟨0, rfl, hh11, Or.inr ⟨rfl, Cod.dif hx.2.2.2.2.1 hy.2.2.2.2.1 hcd⟩⟩, fun fs hl => c13.trans (X11.ireturnOut hexec hret rfl (Or.inr (Or.inl rfl)) (hb hbytes d55) hl)⟩
theorem pays {l : Launch} {R : Room} {p : Program} {e : Env} {below : List Frame} {s : State} {sargs : Array Value} {len W : Nat} (x t : Addr) (V : Cell) (cd : Int32) (n : Nat) (f : Nat → Int32) (y t' : Addr) (V' : Cell) (cd' : Int32) (k : Nat) (g : Nat → Int32) (z : Int32) (htab : tab.before sargs s = true) (hfr : 2 ≤ R.frames) (hlo : W + 28 ≤ R.locals) :
    Back l R p e below s sargs yN len W (fun A₁ a₁ => A₁.cells + 0 ≤ R.cells ∧ A₁.slots + 0 ≤ R.slots ∧ P x t V cd n f y t' V' cd' k g z a₁ A₁.U) (fun A₁ _ v₁ B₁ => Says01 (SameT n f k g) v₁ A₁.U B₁.U ∧ B₁.locs = A₁.locs ++ [] ∧ B₁.cells = A₁.cells + 0 ∧ B₁.slots = A₁.slots + 0) :=
  (law l x t V cd n f y t' V' cd' k g z).pays htab hfr (by omega)
end SEq
end StrChars
namespace StrChars.Road
open Jvm Sem ClassFile Op Lib Jvm.Stand Jvm.Free Jvm.Free.XT
open Jvm.Lib.Cold (StaticIs)
/-- the words of String.equals(Object) -/
abbrev wordsEq : List Jvm.Cond := [.code SEq.yN SEq.yB 3 (some .boolean), .initialized ST, .classLink ST 10 ST, .fieldLink ST 38 ST "COMPACT_STRINGS" "Z", .fieldLink ST 15 ST "coder" "B", .fieldLink ST 9 ST "value" "[B", .methodLink ST 541 LEq.yN, .static LEq.yN, .code LEq.yN LEq.yB 3 (some .boolean), .initialized "java/lang/StringLatin1"]
theorem tabEq_of {a : Array Value} {s : State} (h : ∀ w ∈ wordsEq, w.before a s = true) : SEq.tab.before a s = true := by
  have hl : LEq.tab.before a s = true := unparts (wk h (.code LEq.yN LEq.yB 3 (some .boolean))) (wks h (.initialized LEq.yN.cls :: LEq.site))
  have q := consq hl h
  exact unparts (wk q (.code SEq.yN SEq.yB 3 (some .boolean))) (wks q (.initialized SEq.yN.cls :: SEq.site))
theorem movedEq {Z s : State} {a0 args : Array Value} (hZ : Z.Warmed39 s.vm) (hw : ∀ d ∈ wordsEq, d.before a0 Z = true) : ∀ d ∈ wordsEq, d.before args s = true := fun d hd => by
  have t : ∀ d ∈ wordsEq, (d.onTables && d.keepsFace) = true := by decide +kernel
  exact RoadKit.mv hZ (hw d hd) (t d hd)
/-- the road's facts of a String, as the laws ask it -/
theorem txt_of {Z U : State} {a0 : Array Value} {kI : Nat} (wi : (Jvm.Cond.instantiable ST kI).before a0 Z = true) (al : Z.vm.Alike U.vm) {x t : Addr} {kb : ClassId} {cs : List Int32} {cd N2 : Int32} {vs : List Value} (E : RoadKit.Exa Z U.heap x ST) (V : RoadKit.Fld Z U.heap x ST "value" "[B" (.ref t)) (C : RoadKit.Fld Z U.heap x ST "coder" "B" (.int cd)) (K : RoadKit.Arv Z U.heap t kb .byte N2 vs (.int 0)) (hc : CodA cs cd N2 vs) (hb : ∀ c ∈ cs, ¬ c < 0 ∧ ¬ (65535 : Int32) < c) (l2 : cs.length ≤ 4000) :
    ∃ A, Txt x t A cd cs.length (fun j => cs.getD j 0) U := by
  obtain ⟨A, K1, K2, K3, K4, K5, K6⟩ := K
  have hcod := hc.cod (by omega) K3 K5
  obtain ⟨D, fV, fC, hB, F1, F2, g1, g2, -, -⟩ := strObj wi al E V C
  exact ⟨A, ⟨_, hB.2.2.1, D, hB.1, rfl, by cases q : D.vm <;> first | rfl | exact absurd q (hB.2.1.2 _)⟩, Has.of hB F1 g1, Has.of hB F2 g2, ⟨K1.1, State.isArrayOf_alike al K1.2.1, K1.2.2, by rcases hcod with ⟨-, q, -⟩ | ⟨-, q, -⟩ <;> omega⟩, hcod, fun j hj => by
    have e : cs.getD j 0 = cs[j] := by simp [List.getD_eq_getElem?_getD, hj]
    show ¬ cs.getD j 0 < 0 ∧ ¬ 65535 < cs.getD j 0
    rw [e]; exact hb _ (List.getElem_mem _)⟩
theorem same_list (cs ds : List Int32) : SameT cs.length (fun j => cs.getD j 0) ds.length (fun j => ds.getD j 0) ↔ cs = ds := by
  constructor
  · rintro ⟨e, q⟩
    refine List.ext_getElem e fun j h1 h2 => ?_
    have := q j h1
    simpa [List.getD_eq_getElem?_getD, h1, h2] using this
  · rintro rfl
    exact ⟨rfl, fun _ _ => rfl⟩
/-- **equals(Object) OF TWO SUCH STRINGS**: 1 just where the chars are the same -/
theorem eqW {p : Program} {l : Launch} {e : Env} {R : Room} {s : State} {args : Array Value} {below : List Frame} {len W : Nat} {Z : State} {a0 : Array Value} {h : Heap} (hZ : Z.Warmed39 s.vm) (hw : ∀ d ∈ wordsEq, d.before a0 Z = true) {kI : Nat} (wi : (Jvm.Cond.instantiable ST kI).before a0 Z = true)
    {x t : Addr} {kb : ClassId} {cs : List Int32} {cd N2 : Int32} {vs : List Value} (E : RoadKit.Exa Z h x ST) (V : RoadKit.Fld Z h x ST "value" "[B" (.ref t)) (C : RoadKit.Fld Z h x ST "coder" "B" (.int cd)) (K : RoadKit.Arv Z h t kb .byte N2 vs (.int 0)) (hc : CodA cs cd N2 vs) (hb : ∀ c ∈ cs, ¬ c < 0 ∧ ¬ (65535 : Int32) < c) (l2 : cs.length ≤ 4000)
    {y t' : Addr} {kb' : ClassId} {ds : List Int32} {cd' N2' : Int32} {vs' : List Value} (E' : RoadKit.Exa Z h y ST) (V' : RoadKit.Fld Z h y ST "value" "[B" (.ref t')) (C' : RoadKit.Fld Z h y ST "coder" "B" (.int cd')) (K' : RoadKit.Arv Z h t' kb' .byte N2' vs' (.int 0)) (hc' : CodA ds cd' N2' vs') (hb' : ∀ c ∈ ds, ¬ c < 0 ∧ ¬ (65535 : Int32) < c) (l2' : ds.length ≤ 4000)
    {z : Int32} (S : RoadKit.Sta Z h ST "COMPACT_STRINGS" "Z" (.int z)) (hz : ¬ z = 0) (hfr : 2 ≤ R.frames) (hlo : W + 28 ≤ R.locals) :
    Back l R p e below s args (⟨"java/lang/String", "equals", "(Ljava/lang/Object;)Z"⟩ : MethodName) len W (fun P a => a = #[.ref x, .ref y] ∧ P.U.heap = h ∧ P.cells + 0 ≤ R.cells ∧ P.slots + 0 ≤ R.slots)
      (fun P _ v B => ∃ L, (((v = some (.int 1) ∧ cs = ds) ∨ (v = some (.int 0) ∧ ¬ cs = ds)) ∧ L = [] ∧ B.U.heap = h) ∧ B.locs = P.locs ++ L ∧ B.cells = P.cells + 0 ∧ B.slots = P.slots + 0) := by
  intro m meth c P g ig mk a X hg hsize hdg hW hn hp'
  obtain ⟨rfl, rfl, r1, r2⟩ := hp'
  have al : Z.vm.Alike P.U.vm := hZ.alike.trans X.warmed.alike
  obtain ⟨A, hx⟩ := txt_of wi al E V C K hc hb l2
  obtain ⟨A', hy⟩ := txt_of wi al E' V' C' K' hc' hb' l2'
  obtain ⟨v, B, X', ⟨⟨w, hv, hh, hq⟩, hl, hk, hs⟩, st⟩ := SEq.pays x t A cd cs.length (fun j => cs.getD j 0) y t' A' cd' ds.length (fun j => ds.getD j 0) z (tabEq_of (movedEq hZ hw)) hfr hlo m meth c P g ig mk _ X hg hsize hdg hW hn ⟨r1, r2, rfl, hx, hy, sta_is al S, hz⟩
  refine ⟨v, B, X', ⟨[], ⟨?_, rfl, hh⟩, hl, hk, hs⟩, st⟩
  rcases hq with ⟨rfl, q⟩ | ⟨rfl, q⟩
  · exact Or.inl ⟨hv, (same_list cs ds).mp q⟩
  · exact Or.inr ⟨hv, fun e => q ((same_list cs ds).mpr e)⟩
end StrChars.Road
namespace StrChars
open Jvm Sem ClassFile Op Lib Jvm.Stand Jvm.Free.XT Jvm.Free.ALB Jvm.Free.JM Jvm.Free
open Jvm.Lib.Cold (StaticIs)
namespace ChN
def yN : MethodName := ⟨"java/lang/String", "charAt", "(I)C"⟩
abbrev yB : ByteArray := jdk_42_method_56_code
theorem d0 : decode yB 0 = .ok (.aload_n 0, 1) := by decide +kernel
theorem d1 : decode yB 1 = .ok (.invokevirtual 492, 3) := by decide +kernel
theorem d4 : decode yB 4 = .ok (.ifCond (.eq) 12, 3) := by decide +kernel
theorem d7 : decode yB 7 = .ok (.aload_n 0, 1) := by decide +kernel
theorem d8 : decode yB 8 = .ok (.getfield 9, 3) := by decide +kernel
theorem d11 : decode yB 11 = .ok (.iload_n 1, 1) := by decide +kernel
theorem d12 : decode yB 12 = .ok (.invokestatic 495, 3) := by decide +kernel
theorem d15 : decode yB 15 = .ok (.ireturn, 1) := by decide +kernel
def site : List Cond := [.fieldLink "java/lang/String" 9 "java/lang/String" "value" "[B", IsL.tab, LChA.tab] ++ virtW "java/lang/String" 492 "java/lang/String" IsL.yN IsL.yN ++ staticW "java/lang/String" 495 LChA.yN
def tab : Cond := tabOf yN yB 2 (some .char) site
def P (x t : Addr) (V : Cell) (n : Nat) (f : Nat → Int32) (z : Int32) (fm : Value) (i : Nat) (args : Array Value) (s : State) : Prop := args = #[.ref x, .int (Int32.ofNat i)] ∧ Txt x t V 0 n f s ∧ i < n ∧ StaticIs s "java/lang/String" "COMPACT_STRINGS" "Z" (.int z) ∧ ¬ z = 0 ∧ StaticIs s "jdk/internal/util/Preconditions" "SIOOBE_FORMATTER" "Ljava/util/function/BiFunction;" fm ∧ fm.isRef = true
def E (f : Nat → Int32) (i : Nat) (r : Option Value) (s u : State) : Prop := XT.PureE (some (.int (f i))) r s u
/-- charAt(i) of a Latin-1 String of n chars, i < n: f i -/
theorem law (l : Launch) (x t : Addr) (V : Cell) (n : Nat) (f : Nat → Int32) (z : Int32) (fm : Value) (i : Nat) : Law l yN 2 1 3 40 yB 2 (some .char) site (P x t V n f z fm i) (E f i) [] 0 0 := by
  refine Law.of_walk (plainFor_of_name (by decide +kernel)) (by decide +kernel) (by decide +kernel) (by decide) (fun _ _ h => by rw [h.1]; rfl) (fun _ U U' hal hh h => ⟨h.1, h.2.1.mv hal hh, h.2.2.1, h.2.2.2.1.there hal hh, h.2.2.2.2.1, h.2.2.2.2.2.1.there hal hh, h.2.2.2.2.2.2⟩) (fun r U U' V V' h1 hal h2 h => XT.PureE.mv r U U' V V' h1 hal h2 h) ?_
  intro p e s m args below meth c s₁ X0 hexec hbytes hml hret hlk hnm hown hh0 W hP
  obtain ⟨rfl, hx, hi, s1, hz, s3, rf⟩ := hP
  have v31 := hx.2.2.2.1.2.2.2
  have hr := hx.2.2.2.2.2 i hi
  have hx0 := hx.mv X0.warmed.alike hh0
  have c1 : Steps p.tables e below (s₁.setTop (entryFrame m #[.ref x, .int (Int32.ofNat i)] 2)) (s₁.setTop (mkF m 1 #[.val (.ref x), .val (.int (Int32.ofNat i))] [.ref x])) := Steps.trans (entry rfl) (by
    show Steps p.tables e below (s₁.setTop (mkF m 0 #[.val (.ref x), .val (.int (Int32.ofNat i))] [])) _
    refine XS.aloadN X0.here hexec rfl (hb hbytes d0) rfl rfl ?_
    exact Steps.refl _)
  obtain ⟨v2, T2, X2, E2, g2⟩ := X0.callV hexec (IsL.law l x 0 z) hown (wks W (virtW "java/lang/String" 492 "java/lang/String" IsL.yN IsL.yN)) rfl (by decide) (wk W IsL.tab) (W := 0) (Nat.le_of_ble_eq_true rfl) (Nat.le_of_ble_eq_true rfl) (Nat.le_refl _) (Nat.le_refl _) (hx0.1.fc X0.warmed.alike) hx0.1.is (g := (mkF m 1 #[.val (.ref x), .val (.int (Int32.ofNat i))] [.ref x])) rfl (by rw [hml]; rfl) c1 (argsL := []) (rest := []) rfl rfl (by show 2 * 0 + 0 ≤ _; decide) (hb hbytes d1) (⟨rfl, hx0.2.2.1, hx.2.2.2.2.1.cd, s1.there X0.warmed.alike hh0, hz⟩)
  obtain ⟨rfl, q2⟩ := E2
  have hh2 := q2.trans hh0
  have hx2 := hx.mv X2.warmed.alike hh2
  obtain ⟨-, k1, k2⟩ | ⟨k0, -⟩ := hx.2.2.2.2.1
  · have c3 : Steps p.tables e below (s₁.setTop (entryFrame m #[.ref x, .int (Int32.ofNat i)] 2)) (T2.setTop (mkF m 8 #[.val (.ref x), .val (.int (Int32.ofNat i))] [.ref x])) := Steps.trans g2 (by
      refine XS.ifNo X2.here hexec rfl (hb hbytes d4) rfl (i0_eq_f (by decide)) ?_
      refine XS.aloadN X2.here hexec rfl (hb hbytes d7) rfl rfl ?_
      exact Steps.refl _)
    obtain ⟨T4, X4, q4, st4⟩ := X2.hget hexec hown (wk W (.fieldLink "java/lang/String" 9 "java/lang/String" "value" "[B")) hx2.2.1 (g := (mkF m 8 #[.val (.ref x), .val (.int (Int32.ofNat i))] [.ref x])) rfl (rest := []) rfl (hb hbytes d8)
    have hh4 := q4.trans hh2
    have c5 : Steps p.tables e below (s₁.setTop (entryFrame m #[.ref x, .int (Int32.ofNat i)] 2)) (T4.setTop (mkF m 12 #[.val (.ref x), .val (.int (Int32.ofNat i))] [.int (Int32.ofNat i), .ref t])) := (c3.trans (st4 _ (Steps.refl _))).trans (by
      refine XS.iloadN X4.here hexec rfl (hb hbytes d11) rfl ?_
      exact Steps.refl _)
    obtain ⟨v6, T6, X6, E6, g6⟩ := X4.callS hexec (LChA.law l t V i (lo8 (f i)) fm) hown (wks W (staticW "java/lang/String" 495 LChA.yN)) (wk W LChA.tab) (W := 0) (Nat.le_of_ble_eq_true rfl) (Nat.le_of_ble_eq_true rfl) (Nat.le_refl _) (Nat.le_refl _) (g := (mkF m 12 #[.val (.ref x), .val (.int (Int32.ofNat i))] [.int (Int32.ofNat i), .ref t])) rfl (by rw [hml]; rfl) c5 (argsL := [.ref t, .int (Int32.ofNat i)]) (rest := []) rfl rfl (by show 2 * 0 + 0 ≤ _; decide) (hb hbytes d12) (⟨rfl, hx.2.2.2.1.mv X4.warmed.alike hh4, (k2 i hi).1, s3.there X4.warmed.alike hh4, rf⟩)
    obtain ⟨rfl, q6⟩ := E6
    rw [chr8_lo8 hr.1 (k2 i hi).2] at g6
    exact ⟨T6, some (.int (f i)), _, _, _, X6, rfl, rfl, rfl, (fun h => by cases h), ⟨rfl, q6.trans hh4⟩, fun fs hl => Steps.trans g6 (X6.ireturnOut hexec hret (narrow_ch hr.1 hr.2) (Or.inr (Or.inr (Or.inr (Or.inl rfl)))) (hb hbytes d15) hl)⟩
  · exact absurd k0 (by decide)
theorem pays {l : Launch} {R : Room} {p : Program} {e : Env} {below : List Frame} {s : State} {sargs : Array Value} {len W : Nat} (x t : Addr) (V : Cell) (n : Nat) (f : Nat → Int32) (z : Int32) (fm : Value) (i : Nat) (htab : tab.before sargs s = true) (hfr : 4 ≤ R.frames) (hlo : W + 53 ≤ R.locals) :
    Back l R p e below s sargs yN len W (fun A₁ a₁ => A₁.cells + 0 ≤ R.cells ∧ A₁.slots + 0 ≤ R.slots ∧ P x t V n f z fm i a₁ A₁.U) (fun A₁ _ v₁ B₁ => E f i v₁ A₁.U B₁.U ∧ B₁.locs = A₁.locs ++ [] ∧ B₁.cells = A₁.cells + 0 ∧ B₁.slots = A₁.slots + 0) :=
  (law l x t V n f z fm i).pays htab hfr (by omega)
end ChN
end StrChars
namespace StrChars.Road
open Jvm Sem ClassFile Op Lib Jvm.Stand Jvm.Free Jvm.Free.XT
open Jvm.Lib.Cold (StaticIs)
/-- the words of String.charAt(int), the Latin-1 road alone -/
abbrev wordsChN : List Jvm.Cond := [.code ChN.yN ChN.yB 2 (some .char), .initialized ST, .fieldLink ST 9 ST "value" "[B", .fieldLink ST 38 ST "COMPACT_STRINGS" "Z", .fieldLink ST 15 ST "coder" "B", .code IsL.yN IsL.yB 1 (some .boolean), .methodLink ST 492 IsL.yN, .declares IsL.yN, .selects ST IsL.yN IsL.yN, .instanceMethod IsL.yN,
  .methodLink ST 495 LChA.yN, .static LChA.yN, .code LChA.yN LChA.yB 2 (some .char), .initialized "java/lang/StringLatin1", .methodLink "java/lang/StringLatin1" 9 JO.Str_checkIndex.yN, .static JO.Str_checkIndex.yN, .code JO.Str_checkIndex.yN JO.Str_checkIndex.yB 2 none,
  .fieldLink ST 1053 "jdk/internal/util/Preconditions" "SIOOBE_FORMATTER" "Ljava/util/function/BiFunction;", .methodLink ST 1059 JC.PreCheck.yN, .static JC.PreCheck.yN, .code JC.PreCheck.yN JC.PreCheck.yB 3 (some .int), .initialized "jdk/internal/util/Preconditions"]
theorem tabChN_of {a : Array Value} {s : State} (h : ∀ w ∈ wordsChN, w.before a s = true) : ChN.tab.before a s = true := by
  have hp : JC.PreCheck.tab.before a s = true := unparts (wk h (.code JC.PreCheck.yN JC.PreCheck.yB 3 (some .int))) (wks h (.initialized JC.PreCheck.yN.cls :: JC.PreCheck.site))
  have qk := consq hp h
  have hk : JO.Str_checkIndex.tab.before a s = true := unparts (wk qk (.code JO.Str_checkIndex.yN JO.Str_checkIndex.yB 2 none)) (wks qk (.initialized JO.Str_checkIndex.yN.cls :: JO.Str_checkIndex.site))
  have ql := consq hk h
  have hl : LChA.tab.before a s = true := unparts (wk ql (.code LChA.yN LChA.yB 2 (some .char))) (wks ql (.initialized LChA.yN.cls :: LChA.site))
  have hi : IsL.tab.before a s = true := unparts (wk h (.code IsL.yN IsL.yB 1 (some .boolean))) (wks h (.initialized IsL.yN.cls :: IsL.site))
  have q := consq hi (consq hl h)
  exact unparts (wk q (.code ChN.yN ChN.yB 2 (some .char))) (wks q (.initialized ChN.yN.cls :: ChN.site))
theorem movedChN {Z s : State} {a0 args : Array Value} (hZ : Z.Warmed39 s.vm) (hw : ∀ d ∈ wordsChN, d.before a0 Z = true) : ∀ d ∈ wordsChN, d.before args s = true := fun d hd => by
  have t : ∀ d ∈ wordsChN, (d.onTables && d.keepsFace) = true := by decide +kernel
  exact RoadKit.mv hZ (hw d hd) (t d hd)
/-- **charAt(i) OF A LATIN-1 STRING**, i < n: the char -/
theorem chN {p : Program} {l : Launch} {e : Env} {R : Room} {s : State} {args : Array Value} {below : List Frame} {len W : Nat} {Z : State} {a0 : Array Value} {h : Heap} (hZ : Z.Warmed39 s.vm) (hw : ∀ d ∈ wordsChN, d.before a0 Z = true) {kI : Nat} (wi : (Jvm.Cond.instantiable ST kI).before a0 Z = true)
    {x t : Addr} {kb : ClassId} {cs : List Int32} {N2 z : Int32} {vs : List Value} {fm : Value} {i : Nat} {j : Int32} (E : RoadKit.Exa Z h x ST) (V : RoadKit.Fld Z h x ST "value" "[B" (.ref t)) (C : RoadKit.Fld Z h x ST "coder" "B" (.int 0)) (K : RoadKit.Arv Z h t kb .byte N2 vs (.int 0)) (hc : CodA cs 0 N2 vs) (hb : ∀ c ∈ cs, ¬ c < 0 ∧ ¬ (65535 : Int32) < c)
    (S : RoadKit.Sta Z h ST "COMPACT_STRINGS" "Z" (.int z)) (hz : ¬ z = 0) (F : RoadKit.Sta Z h "jdk/internal/util/Preconditions" "SIOOBE_FORMATTER" "Ljava/util/function/BiFunction;" fm) (rf : fm.isRef = true) (l2 : cs.length ≤ 4000) (hi : i < cs.length) (hj : j = Int32.ofNat i) (hfr : 4 ≤ R.frames) (hlo : W + 53 ≤ R.locals) :
    Back l R p e below s args (⟨"java/lang/String", "charAt", "(I)C"⟩ : MethodName) len W (fun P a => a = #[.ref x, .int j] ∧ P.U.heap = h ∧ P.cells + 0 ≤ R.cells ∧ P.slots + 0 ≤ R.slots)
      (fun P _ v B => ∃ L, (v = some (.int (cs.getD i 0)) ∧ L = [] ∧ B.U.heap = h) ∧ B.locs = P.locs ++ L ∧ B.cells = P.cells + 0 ∧ B.slots = P.slots + 0) := by
  subst hj
  intro m meth c P g ig mk a X hg hsize hdg hW hn hp'
  obtain ⟨rfl, rfl, r1, r2⟩ := hp'
  have al : Z.vm.Alike P.U.vm := hZ.alike.trans X.warmed.alike
  obtain ⟨A, hx⟩ := txt_of wi al E V C K hc hb l2
  obtain ⟨v, B, X', ⟨⟨hv, hh⟩, hl, hk, hs⟩, st⟩ := ChN.pays x t A cs.length (fun j => cs.getD j 0) z fm i (tabChN_of (movedChN hZ hw)) hfr hlo m meth c P g ig mk _ X hg hsize hdg hW hn ⟨r1, r2, rfl, hx, hi, sta_is al S, hz, sta_is al F, rf⟩
  exact ⟨v, B, X', ⟨[], ⟨hv, rfl, hh⟩, hl, hk, hs⟩, st⟩
/-- what backV says of its String, as the contracts of this text ask it: cs's low bytes, coder 0 -/
theorem codOf {cs : List Int32} {n : Nat} (hn : cs.length = n) (hb : ∀ c ∈ cs, ¬ 255 < c) : CodA cs 0 (Int32.ofNat n) ((cs.map lo8).map Value.int) := Or.inl ⟨rfl, by rw [hn], by simp [List.map_map, Function.comp_def], hb⟩
end StrChars.Road
end Jvm.Pilot.@@N@@
namespace Jvm.Pilot.@@N@@
open Jvm Jvm.ClassFile Sem Op Lib Jvm.Free Jvm.Stand Jvm.LawKit Jvm.RoadKit Bundle Jvm.Pilot.@@N@@.Jvm.D
/-- the goal of a walk: from S the run comes to an end that P tells of -/
def Gl (p : Program) (e : Env) (below : List Frame) (P : Outcome → State → Prop) (S : State) : Prop := ∃ (t : State) (o : Outcome), Steps p.tables e below S t ∧ t.status = .running ∧ Ended t below o ∧ P o t
theorem Gl.st {p : Program} {e : Env} {below : List Frame} {P : Outcome → State → Prop} {S S' : State} (k : ∀ target, Steps p.tables e below S' target → Steps p.tables e below S target) (g : Gl p e below P S') : Gl p e below P S := by
  obtain ⟨t, o, h, r⟩ := g; exact ⟨t, o, k t h, r⟩
theorem Gl.tr {p : Program} {e : Env} {below : List Frame} {P : Outcome → State → Prop} {S S' : State} (k : Steps p.tables e below S S') (g : Gl p e below P S') : Gl p e below P S := by
  obtain ⟨t, o, h, r⟩ := g; exact ⟨t, o, k.trans h, r⟩
theorem Gl.gen {p : Program} {e : Env} {below : List Frame} {P : Outcome → State → Prop} {S : State} (h : ∀ P' : Outcome → State → Prop, (∀ o t, P o t → P' o t) → Gl p e below P' S) : Gl p e below P S := h P fun _ _ q => q
theorem own_cat {v : Value} (h : v.isRef = true) : v.category = 1 := by rcases ref_cases h with rfl | ⟨x, rfl⟩ <;> rfl
theorem own_narR {v : Value} (h : v.isRef = true) (C : String) : narrow (.object C) v = v := by rcases ref_cases h with rfl | ⟨x, rfl⟩ <;> rfl
theorem own_fitR {v : Value} (h : v.isRef = true) (C : String) : fits (.object C) v = true := by rcases ref_cases h with rfl | ⟨x, rfl⟩ <;> rfl
theorem own_four (x : Int32) : x &&& (3 : Int32) = (0 : Int32) ∨ x &&& (3 : Int32) = (1 : Int32) ∨ x &&& (3 : Int32) = (2 : Int32) ∨ x &&& (3 : Int32) = (3 : Int32) := by
  have t : ∀ k : Fin 4, Int32.ofNat k.val = (0 : Int32) ∨ Int32.ofNat k.val = (1 : Int32) ∨ Int32.ofNat k.val = (2 : Int32) ∨ Int32.ofNat k.val = (3 : Int32) := by decide +kernel
  have h : (x &&& (3 : Int32)).toBitVec.toNat < 4 := by
    simp only [Int32.toBitVec_and, BitVec.toNat_and]
    exact Nat.lt_succ_of_le Nat.and_le_right
  have e : (x &&& (3 : Int32)) = Int32.ofNat (x &&& (3 : Int32)).toBitVec.toNat := by
    apply Int32.toBitVec_inj.mp
    show _ = BitVec.ofNat 32 _
    rw [BitVec.ofNat_toNat]; simp
  rw [e]
  exact t ⟨_, h⟩
theorem own_four_lo (x : Int32) : ¬ x &&& (3 : Int32) < (0 : Int32) := by rcases own_four x with h | h | h | h <;> rw [h] <;> decide
theorem own_four_hi (x : Int32) : x &&& (3 : Int32) < (4 : Int32) := by rcases own_four x with h | h | h | h <;> rw [h] <;> decide
theorem own_and255 (x : Int32) : ¬ nar .char ((x &&& (255 : Int32)).toUInt32.toUInt16.toUInt32.toInt32) < 0 ∧ ¬ (255 : Int32) < nar .char ((x &&& (255 : Int32)).toUInt32.toUInt16.toUInt32.toInt32) := by
  have t : ∀ k : Fin 256, ¬ nar .char ((Int32.ofNat k.val).toUInt32.toUInt16.toUInt32.toInt32) < 0 ∧ ¬ (255 : Int32) < nar .char ((Int32.ofNat k.val).toUInt32.toUInt16.toUInt32.toInt32) := by decide +kernel
  have h : (x &&& 255).toBitVec.toNat < 256 := by
    simp only [Int32.toBitVec_and, BitVec.toNat_and]
    exact Nat.lt_succ_of_le Nat.and_le_right
  have e : (x &&& 255) = Int32.ofNat (x &&& 255).toBitVec.toNat := by
    apply Int32.toBitVec_inj.mp
    show _ = BitVec.ofNat 32 _
    rw [BitVec.ofNat_toNat]; simp
  rw [e]
  exact t ⟨_, h⟩
theorem own_and255d (x : Int32) : ¬ (255 : Int32) < ((x &&& (255 : Int32)).toUInt32.toUInt16.toUInt32.toInt32) := by
  have t : ∀ k : Fin 256, ¬ (255 : Int32) < ((Int32.ofNat k.val).toUInt32.toUInt16.toUInt32.toInt32) := by decide +kernel
  have h : (x &&& 255).toBitVec.toNat < 256 := by
    simp only [Int32.toBitVec_and, BitVec.toNat_and]
    exact Nat.lt_succ_of_le Nat.and_le_right
  have e : (x &&& 255) = Int32.ofNat (x &&& 255).toBitVec.toNat := by
    apply Int32.toBitVec_inj.mp
    show _ = BitVec.ofNat 32 _
    rw [BitVec.ofNat_toNat]; simp
  rw [e]
  exact t ⟨_, h⟩
theorem own_hp0 : ∀ c ∈ ([] : List Int32), ¬ c < 0 ∧ ¬ (255 : Int32) < c := fun _ h => nomatch h
theorem own_hpS {a : Int32} {l : List Int32} (h : ¬ a < 0 ∧ ¬ (255 : Int32) < a) (t : ∀ c ∈ l, ¬ c < 0 ∧ ¬ (255 : Int32) < c) : ∀ c ∈ a :: l, ¬ c < 0 ∧ ¬ (255 : Int32) < c := fun c hc => (List.mem_cons.mp hc).elim (fun q => q ▸ h) (t c)
theorem own_up (cs : List Int32) (h : ∀ c ∈ cs, ¬ c < 0 ∧ ¬ (255 : Int32) < c) : ∀ c ∈ cs, ¬ c < 0 ∧ ¬ (65535 : Int32) < c := fun c hc => ⟨(h c hc).1, fun q => (h c hc).2 (by rw [Int32.lt_iff_toInt_lt] at q ⊢; have e1 : (65535 : Int32).toInt = 65535 := rfl; have e2 : (255 : Int32).toInt = 255 := rfl; omega)⟩
open Jvm.Free.SB Jvm.Free.SBG in
/-- a String whose value is null is no booked one -/
theorem own_blank {Z : State} {EL : List (String × Nat)} {vm : Vm} {h : Heap} {x : Addr} (hal : Z.vm.Alike vm) (E : Exa Z h x "java/lang/String") (N : Fld Z h x "java/lang/String" "value" "[B" .null) : Safe Z EL vm h x := fun B => by
  obtain ⟨p, -, u, a, -, q, -, F, rfl | rfl⟩ := B
  · obtain ⟨cell, cf, k, i, f, n1, n2, -, -, -, -, n7⟩ := N
    cases (show h[q.sa]? = some q.sC from F.ha).symm.trans n1
    obtain ⟨cS, ⟨⟨-, -, -, ⟨c1, k1, i1, f1, -⟩, -, -, -, v1, -⟩, -⟩, -⟩ := F
    obtain ⟨k3, e3, -⟩ := State.fieldFound?_setVm (s := Z) hal n2
    have e4 := (show (Wst Z vm h).fieldFound? _ _ _ = _ from e3).symm.trans f1
    simp only [Option.some.injEq, Prod.mk.injEq] at e4
    rw [← e4.2.2.2, n7] at v1
    simp at v1
  · obtain ⟨cell, k, e1, e2, e3, -, -⟩ := E
    cases (show h[q.sd]? = some q.SA from F.hd).symm.trans e1
    obtain ⟨cS, -, -, f, -⟩ := F
    have f' : vm.findClass "[B" = some q.SA.cls := f
    rw [hal.findClass] at f'
    obtain ⟨k1, q1, q2⟩ := Vm.findClass_spec f'
    obtain ⟨k2, q3, q4⟩ := Vm.findClass_spec e2
    cases q1.symm.trans q3
    exact absurd (q2.symm.trans q4) (by decide)
theorem own_i8 (x : Int32) : nar .byte (x.toInt8.toInt32) = x.toInt8.toInt32 := by
  apply Int32.toInt_inj.mp
  have h1 := c_i2b (x.toInt8.toInt32)
  have h2 := c_i2b x
  show (x.toInt8.toInt32).toInt8.toInt32.toInt = _
  omega
def own_Str (Z : State) (h : Heap) (x : Addr) (cs : List Int32) : Prop := (∀ c ∈ cs, ¬ c < 0 ∧ ¬ (255 : Int32) < c) ∧ cs.length ≤ 4000 ∧ ∃ (t : Addr) (kb : ClassId), Exa Z h x "java/lang/String" ∧ Fld Z h x "java/lang/String" "coder" "B" (.int (0 : Int32)) ∧ Fld Z h x "java/lang/String" "value" "[B" (.ref t) ∧ Arv Z h t kb .byte (Int32.ofNat cs.length) ((cs.map fun c => c.toInt8.toInt32).map Value.int) (.int (0 : Int32))
theorem own_Str_exa {Z : State} {h : Heap} {x : Addr} {cs : List Int32} (S : own_Str Z h x cs) : Exa Z h x "java/lang/String" := by obtain ⟨-, -, t, kb, E, -⟩ := S; exact E
theorem own_Str_ext {Z : State} {h h' : Heap} {x : Addr} {cs : List Int32} (E : Ext h h') (S : own_Str Z h x cs) : own_Str Z h' x cs := by
  obtain ⟨hp, hl, t, kb, A, B, C, D⟩ := S; exact ⟨hp, hl, t, kb, A.ext E, B.ext E, C.ext E, D.ext E⟩
theorem own_Str_keep0 {Z : State} {h h' : Heap} {x : Addr} {cs : List Int32} (K : Keep h h' []) (S : own_Str Z h x cs) : own_Str Z h' x cs := by
  obtain ⟨hp, hl, t, kb, A, B, C, D⟩ := S; exact ⟨hp, hl, t, kb, A.keep K, B.keep K nin0, C.keep K nin0, D.keep K nin0⟩
theorem own_Str_keep1 {Z : State} {h h' : Heap} {x b : Addr} {cs : List Int32} {C : String} {k : Nat} {a0 : Array Value} (K : Keep h h' [b]) (B : Exa Z h b C) (hn : C ≠ "java/lang/String") (wi : (Jvm.Cond.instantiable C k).before a0 Z = true) (S : own_Str Z h x cs) : own_Str Z h' x cs := by
  obtain ⟨hp, hl, t, kb, E, F, V, A⟩ := S
  have n1 : x ≠ b := ne_exa E B (Ne.symm hn)
  have n2 : t ≠ b := by obtain ⟨c, Ar, -⟩ := A; exact (ne_arr B wi Ar).symm
  exact ⟨hp, hl, t, kb, E.keep K, F.keep K (ninS n1 nin0), V.keep K (ninS n1 nin0), A.keep K (ninS n2 nin0)⟩
theorem own_EW {Z : State} {a0 : Array Value} (hw : ∀ d ∈ tables_1, d.before a0 Z = true) : EW Z a0 consts_1 := (EW.cons (hw _ (List.mem_of_getElem? (i := 33) rfl)) (by decide) (EW.cons (hw _ (List.mem_of_getElem? (i := 41) rfl)) (by decide) (EW.cons (hw _ (List.mem_of_getElem? (i := 18) rfl)) (by decide) EW.nil)))
theorem own_wS {Z : State} {a0 : Array Value} (hw : ∀ d ∈ tables_1, d.before a0 Z = true) : ∀ a ∈ Bundle.stringAtoms, a.before a0 Z = true := fun a ha => hw a ((by decide +kernel : ∀ d ∈ Bundle.stringAtoms, d ∈ tables_1) a ha)
def own_chr (y : Int32) : Int32 := if (y &&& (1 : Int32)) = (0 : Int32) then nar .char (((97 : Int32) + (((y.toUInt32 >>> ((1 : Int32) &&& 31).toUInt32).toInt32) &&& (1 : Int32))).toUInt32.toUInt16.toUInt32.toInt32) else nar .char ((((y.toUInt32 >>> ((1 : Int32) &&& 31).toUInt32).toInt32) &&& (255 : Int32)).toUInt32.toUInt16.toUInt32.toInt32)
theorem own_b1 (x : Int32) : x &&& (1 : Int32) = (0 : Int32) ∨ x &&& (1 : Int32) = (1 : Int32) := and_one x
theorem own_chr_hp (y : Int32) : ¬ nar .char (own_chr y) < 0 ∧ ¬ (255 : Int32) < nar .char (own_chr y) := by
  have key : ∀ z : Int32, (¬ z < 0 ∧ ¬ (255 : Int32) < z) → ¬ nar .char z < 0 ∧ ¬ (255 : Int32) < nar .char z := by
    intro z hz
    have e : z &&& (255 : Int32) = z := by
      apply Int32.toInt_inj.mp
      rw [c_mask z (255 : Int32) 8 (by decide) (by decide)]
      have h1 := hz.1; have h2 := hz.2
      rw [Int32.lt_iff_toInt_lt] at h1 h2
      have e1 : (255 : Int32).toInt = 255 := rfl
      have e2 : (0 : Int32).toInt = 0 := rfl
      omega
    have q : nar .char z = z := by
      have := i2c_mask z
      rw [e] at this
      exact this
    rw [q]; exact hz
  refine key _ ?_
  unfold own_chr
  split
  · rcases own_b1 ((y.toUInt32 >>> ((1 : Int32) &&& 31).toUInt32).toInt32) with h | h <;> rw [h] <;> decide
  · exact own_and255 _
def own_cs (x : Int32) : List Int32 := if ((x &&& (3 : Int32)) % (3 : Int32)) = (0 : Int32) then [] else if ((x &&& (3 : Int32)) % (3 : Int32)) = (1 : Int32) then [nar .char (own_chr ((x.toUInt32 >>> ((2 : Int32) &&& 31).toUInt32).toInt32))] else [nar .char (own_chr ((x.toUInt32 >>> ((2 : Int32) &&& 31).toUInt32).toInt32)), nar .char (own_chr ((x.toUInt32 >>> ((11 : Int32) &&& 31).toUInt32).toInt32))]
theorem own_rem3 (x : Int32) : ((x &&& (3 : Int32)) % (3 : Int32)) = (0 : Int32) ∨ ((x &&& (3 : Int32)) % (3 : Int32)) = (1 : Int32) ∨ ((x &&& (3 : Int32)) % (3 : Int32)) = (2 : Int32) := by
  rcases own_four x with h | h | h | h <;> rw [h] <;> decide
theorem own_cs_len (x : Int32) : (own_cs x).length ≤ 2 := by unfold own_cs; split <;> (try split) <;> simp
theorem own_short (cs : List Int32) (h : cs.length ≤ 2) : cs = [] ∨ (∃ c0, cs = [c0]) ∨ ∃ c0 c1, cs = [c0, c1] := by
  match cs, h with
  | [], _ => exact Or.inl rfl
  | [a], _ => exact Or.inr (Or.inl ⟨a, rfl⟩)
  | [a, b], _ => exact Or.inr (Or.inr ⟨a, b, rfl⟩)
theorem own_no {Z : State} {a0 : Array Value} {K : String} {k : Nat} (w : (Jvm.Cond.superclass "java/lang/String" "java/lang/Object").before a0 Z = true) (wo : (Jvm.Cond.noSuperclass "java/lang/Object").before a0 Z = true) (wk : (Jvm.Cond.instantiable K k).before a0 Z = true) (h1 : "java/lang/Object" ≠ K) (h2 : "java/lang/String" ≠ K) :
    ∃ c t, Z.vm.findClass "java/lang/String" = some c ∧ Z.vm.findClass K = some t ∧ Z.vm.assignable c t = false := by
  obtain ⟨t, kt, f1, f2, f3, f4⟩ := Cond.instantiable_spec wk
  obtain ⟨o, ko, o1, o2, o3, -, -⟩ := Cond.noSuperclass_spec wo
  obtain ⟨c, c1⟩ := found_sup w
  obtain ⟨p, kc, kp, p1, p2, p3, p4, p5, -, p7⟩ := Cond.superclass_spec c1 w
  cases o1.symm.trans p1
  have f5 : kt.isInterface = false := (Bool.or_eq_false_iff.mp f4.1).1
  have ne := ids_ne c1 f1 h2
  have neo := ids_ne o1 f1 h1
  have hno : ∀ fuel, Z.vm.isSubclassAux fuel c t = false := by
    intro fuel
    cases fuel with
    | zero => rfl
    | succ f =>
      cases f with
      | zero => simp [Vm.isSubclassAux, ne, p2, p4]
      | succ g => simp [Vm.isSubclassAux, ne, p2, p4, neo, o2, o3]
  refine ⟨c, t, c1, f1, ?_⟩
  show Z.vm.assignableAux (255 + 1) c t = false
  simp [Vm.assignableAux, ne, p2, f2, f3, f5, p5, p7, Vm.isSubclass, hno]
theorem d20_0 : decode method_2_code 0 = .ok (.iload_n 0, 1) := by decide +kernel
theorem d20_1 : decode method_2_code 1 = .ok (.iconst 1, 1) := by decide +kernel
theorem d20_2 : decode method_2_code 2 = .ok (.iand, 1) := by decide +kernel
theorem d20_3 : decode method_2_code 3 = .ok (.ifCond .ne 13, 3) := by decide +kernel
theorem d20_6 : decode method_2_code 6 = .ok (.bipush 97, 2) := by decide +kernel
theorem d20_8 : decode method_2_code 8 = .ok (.iload_n 0, 1) := by decide +kernel
theorem d20_9 : decode method_2_code 9 = .ok (.iconst 1, 1) := by decide +kernel
theorem d20_10 : decode method_2_code 10 = .ok (.iushr, 1) := by decide +kernel
theorem d20_11 : decode method_2_code 11 = .ok (.iconst 1, 1) := by decide +kernel
theorem d20_12 : decode method_2_code 12 = .ok (.iand, 1) := by decide +kernel
theorem d20_13 : decode method_2_code 13 = .ok (.iadd, 1) := by decide +kernel
theorem d20_14 : decode method_2_code 14 = .ok (.i2c, 1) := by decide +kernel
theorem d20_15 : decode method_2_code 15 = .ok (.ireturn, 1) := by decide +kernel
theorem d20_16 : decode method_2_code 16 = .ok (.iload_n 0, 1) := by decide +kernel
theorem d20_17 : decode method_2_code 17 = .ok (.iconst 1, 1) := by decide +kernel
theorem d20_18 : decode method_2_code 18 = .ok (.iushr, 1) := by decide +kernel
theorem d20_19 : decode method_2_code 19 = .ok (.sipush 255, 3) := by decide +kernel
theorem d20_22 : decode method_2_code 22 = .ok (.iand, 1) := by decide +kernel
theorem d20_23 : decode method_2_code 23 = .ok (.i2c, 1) := by decide +kernel
theorem d20_24 : decode method_2_code 24 = .ok (.ireturn, 1) := by decide +kernel
theorem d34_0 : decode jdk_42_method_149_code 0 = .ok (.aload_n 0, 1) := by decide +kernel
theorem d34_1 : decode jdk_42_method_149_code 1 = .ok (.invokespecial 1, 3) := by decide +kernel
theorem d34_4 : decode jdk_42_method_149_code 4 = .ok (.iload_n 3, 1) := by decide +kernel
theorem d34_5 : decode jdk_42_method_149_code 5 = .ok (.ifCond .ne 22, 3) := by decide +kernel
theorem d34_8 : decode jdk_42_method_149_code 8 = .ok (.aload_n 0, 1) := by decide +kernel
theorem d34_9 : decode jdk_42_method_149_code 9 = .ok (.ldc 7, 2) := by decide +kernel
theorem d34_11 : decode jdk_42_method_149_code 11 = .ok (.getfield 9, 3) := by decide +kernel
theorem d34_14 : decode jdk_42_method_149_code 14 = .ok (.putfield 9, 3) := by decide +kernel
theorem d34_17 : decode jdk_42_method_149_code 17 = .ok (.aload_n 0, 1) := by decide +kernel
theorem d34_18 : decode jdk_42_method_149_code 18 = .ok (.ldc 7, 2) := by decide +kernel
theorem d34_20 : decode jdk_42_method_149_code 20 = .ok (.getfield 15, 3) := by decide +kernel
theorem d34_23 : decode jdk_42_method_149_code 23 = .ok (.putfield 15, 3) := by decide +kernel
theorem d34_26 : decode jdk_42_method_149_code 26 = .ok (.return_, 1) := by decide +kernel
theorem d35_0 : decode jdk_42_method_3_code 0 = .ok (.aload_n 0, 1) := by decide +kernel
theorem d35_1 : decode jdk_42_method_3_code 1 = .ok (.aload_n 1, 1) := by decide +kernel
theorem d35_2 : decode jdk_42_method_3_code 2 = .ok (.iconst 0, 1) := by decide +kernel
theorem d35_3 : decode jdk_42_method_3_code 3 = .ok (.aload_n 1, 1) := by decide +kernel
theorem d35_4 : decode jdk_42_method_3_code 4 = .ok (.arraylength, 1) := by decide +kernel
theorem d35_5 : decode jdk_42_method_3_code 5 = .ok (.aconst_null, 1) := by decide +kernel
theorem d35_6 : decode jdk_42_method_3_code 6 = .ok (.invokespecial 27, 3) := by decide +kernel
theorem d35_9 : decode jdk_42_method_3_code 9 = .ok (.return_, 1) := by decide +kernel
theorem d36_0 : decode method_3_code 0 = .ok (.iload_n 0, 1) := by decide +kernel
theorem d36_1 : decode method_3_code 1 = .ok (.iconst 3, 1) := by decide +kernel
theorem d36_2 : decode method_3_code 2 = .ok (.iand, 1) := by decide +kernel
theorem d36_3 : decode method_3_code 3 = .ok (.iconst 3, 1) := by decide +kernel
theorem d36_4 : decode method_3_code 4 = .ok (.irem, 1) := by decide +kernel
theorem d36_5 : decode method_3_code 5 = .ok (.istore_n 1, 1) := by decide +kernel
theorem d36_6 : decode method_3_code 6 = .ok (.iload_n 1, 1) := by decide +kernel
theorem d36_7 : decode method_3_code 7 = .ok (.newarray .char, 2) := by decide +kernel
theorem d36_9 : decode method_3_code 9 = .ok (.astore_n 2, 1) := by decide +kernel
theorem d36_10 : decode method_3_code 10 = .ok (.iload_n 1, 1) := by decide +kernel
theorem d36_11 : decode method_3_code 11 = .ok (.ifCond .le 12, 3) := by decide +kernel
theorem d36_14 : decode method_3_code 14 = .ok (.aload_n 2, 1) := by decide +kernel
theorem d36_15 : decode method_3_code 15 = .ok (.iconst 0, 1) := by decide +kernel
theorem d36_16 : decode method_3_code 16 = .ok (.iload_n 0, 1) := by decide +kernel
theorem d36_17 : decode method_3_code 17 = .ok (.iconst 2, 1) := by decide +kernel
theorem d36_18 : decode method_3_code 18 = .ok (.iushr, 1) := by decide +kernel
theorem d36_19 : decode method_3_code 19 = .ok (.invokestatic 7, 3) := by decide +kernel
theorem d36_22 : decode method_3_code 22 = .ok (.castore, 1) := by decide +kernel
theorem d36_23 : decode method_3_code 23 = .ok (.iload_n 1, 1) := by decide +kernel
theorem d36_24 : decode method_3_code 24 = .ok (.iconst 1, 1) := by decide +kernel
theorem d36_25 : decode method_3_code 25 = .ok (.if_icmp .le 13, 3) := by decide +kernel
theorem d36_28 : decode method_3_code 28 = .ok (.aload_n 2, 1) := by decide +kernel
theorem d36_29 : decode method_3_code 29 = .ok (.iconst 1, 1) := by decide +kernel
theorem d36_30 : decode method_3_code 30 = .ok (.iload_n 0, 1) := by decide +kernel
theorem d36_31 : decode method_3_code 31 = .ok (.bipush 11, 2) := by decide +kernel
theorem d36_33 : decode method_3_code 33 = .ok (.iushr, 1) := by decide +kernel
theorem d36_34 : decode method_3_code 34 = .ok (.invokestatic 7, 3) := by decide +kernel
theorem d36_37 : decode method_3_code 37 = .ok (.castore, 1) := by decide +kernel
theorem d36_38 : decode method_3_code 38 = .ok (.new 13, 3) := by decide +kernel
theorem d36_41 : decode method_3_code 41 = .ok (.dup, 1) := by decide +kernel
theorem d36_42 : decode method_3_code 42 = .ok (.aload_n 2, 1) := by decide +kernel
theorem d36_43 : decode method_3_code 43 = .ok (.invokespecial 15, 3) := by decide +kernel
theorem d36_46 : decode method_3_code 46 = .ok (.areturn, 1) := by decide +kernel
theorem d37_0 : decode jdk_31_method_11_code 0 = .ok (.aload_n 0, 1) := by decide +kernel
theorem d37_1 : decode jdk_31_method_11_code 1 = .ok (.ifnonnull 12, 3) := by decide +kernel
theorem d37_13 : decode jdk_31_method_11_code 13 = .ok (.aload_n 0, 1) := by decide +kernel
theorem d37_14 : decode jdk_31_method_11_code 14 = .ok (.areturn, 1) := by decide +kernel
theorem d38_0 : decode prog_58_method_1_code 0 = .ok (.aload_n 0, 1) := by decide +kernel
theorem d38_1 : decode prog_58_method_1_code 1 = .ok (.invokespecial 1, 3) := by decide +kernel
theorem d38_4 : decode prog_58_method_1_code 4 = .ok (.aload_n 0, 1) := by decide +kernel
theorem d38_5 : decode prog_58_method_1_code 5 = .ok (.aload_n 1, 1) := by decide +kernel
theorem d38_6 : decode prog_58_method_1_code 6 = .ok (.ldc 7, 2) := by decide +kernel
theorem d38_8 : decode prog_58_method_1_code 8 = .ok (.invokestatic 9, 3) := by decide +kernel
theorem d38_11 : decode prog_58_method_1_code 11 = .ok (.checkcast 15, 3) := by decide +kernel
theorem d38_14 : decode prog_58_method_1_code 14 = .ok (.putfield 17, 3) := by decide +kernel
theorem d38_17 : decode prog_58_method_1_code 17 = .ok (.aload_n 0, 1) := by decide +kernel
theorem d38_18 : decode prog_58_method_1_code 18 = .ok (.aload_n 2, 1) := by decide +kernel
theorem d38_19 : decode prog_58_method_1_code 19 = .ok (.ldc 22, 2) := by decide +kernel
theorem d38_21 : decode prog_58_method_1_code 21 = .ok (.invokestatic 9, 3) := by decide +kernel
theorem d38_24 : decode prog_58_method_1_code 24 = .ok (.checkcast 15, 3) := by decide +kernel
theorem d38_27 : decode prog_58_method_1_code 27 = .ok (.putfield 24, 3) := by decide +kernel
theorem d38_30 : decode prog_58_method_1_code 30 = .ok (.return_, 1) := by decide +kernel
theorem d39_0 : decode method_4_code 0 = .ok (.aload_n 0, 1) := by decide +kernel
theorem d39_1 : decode method_4_code 1 = .ok (.invokevirtual 18, 3) := by decide +kernel
theorem d39_4 : decode method_4_code 4 = .ok (.istore_n 2, 1) := by decide +kernel
theorem d39_5 : decode method_4_code 5 = .ok (.iload_n 2, 1) := by decide +kernel
theorem d39_6 : decode method_4_code 6 = .ok (.aload_n 1, 1) := by decide +kernel
theorem d39_7 : decode method_4_code 7 = .ok (.invokevirtual 18, 3) := by decide +kernel
theorem d39_10 : decode method_4_code 10 = .ok (.if_icmp .eq 5, 3) := by decide +kernel
theorem d39_13 : decode method_4_code 13 = .ok (.iconst 0, 1) := by decide +kernel
theorem d39_14 : decode method_4_code 14 = .ok (.ireturn, 1) := by decide +kernel
theorem d39_15 : decode method_4_code 15 = .ok (.iload_n 2, 1) := by decide +kernel
theorem d39_16 : decode method_4_code 16 = .ok (.ifCond .le 18, 3) := by decide +kernel
theorem d39_19 : decode method_4_code 19 = .ok (.aload_n 0, 1) := by decide +kernel
theorem d39_20 : decode method_4_code 20 = .ok (.iconst 0, 1) := by decide +kernel
theorem d39_21 : decode method_4_code 21 = .ok (.invokevirtual 22, 3) := by decide +kernel
theorem d39_24 : decode method_4_code 24 = .ok (.aload_n 1, 1) := by decide +kernel
theorem d39_25 : decode method_4_code 25 = .ok (.iconst 0, 1) := by decide +kernel
theorem d39_26 : decode method_4_code 26 = .ok (.invokevirtual 22, 3) := by decide +kernel
theorem d39_29 : decode method_4_code 29 = .ok (.if_icmp .eq 5, 3) := by decide +kernel
theorem d39_32 : decode method_4_code 32 = .ok (.iconst 0, 1) := by decide +kernel
theorem d39_33 : decode method_4_code 33 = .ok (.ireturn, 1) := by decide +kernel
theorem d39_34 : decode method_4_code 34 = .ok (.iload_n 2, 1) := by decide +kernel
theorem d39_35 : decode method_4_code 35 = .ok (.iconst 1, 1) := by decide +kernel
theorem d39_36 : decode method_4_code 36 = .ok (.if_icmp .le 18, 3) := by decide +kernel
theorem d39_39 : decode method_4_code 39 = .ok (.aload_n 0, 1) := by decide +kernel
theorem d39_40 : decode method_4_code 40 = .ok (.iconst 1, 1) := by decide +kernel
theorem d39_41 : decode method_4_code 41 = .ok (.invokevirtual 22, 3) := by decide +kernel
theorem d39_44 : decode method_4_code 44 = .ok (.aload_n 1, 1) := by decide +kernel
theorem d39_45 : decode method_4_code 45 = .ok (.iconst 1, 1) := by decide +kernel
theorem d39_46 : decode method_4_code 46 = .ok (.invokevirtual 22, 3) := by decide +kernel
theorem d39_49 : decode method_4_code 49 = .ok (.if_icmp .eq 5, 3) := by decide +kernel
theorem d39_52 : decode method_4_code 52 = .ok (.iconst 0, 1) := by decide +kernel
theorem d39_53 : decode method_4_code 53 = .ok (.ireturn, 1) := by decide +kernel
theorem d39_54 : decode method_4_code 54 = .ok (.iconst 1, 1) := by decide +kernel
theorem d39_55 : decode method_4_code 55 = .ok (.ireturn, 1) := by decide +kernel
theorem d40_0 : decode prog_58_method_4_code 0 = .ok (.aload_n 1, 1) := by decide +kernel
theorem d40_1 : decode prog_58_method_4_code 1 = .ok (.instanceof 18, 3) := by decide +kernel
theorem d40_4 : decode prog_58_method_4_code 4 = .ok (.ifCond .eq 40, 3) := by decide +kernel
theorem d40_7 : decode prog_58_method_4_code 7 = .ok (.aload_n 1, 1) := by decide +kernel
theorem d40_8 : decode prog_58_method_4_code 8 = .ok (.checkcast 18, 3) := by decide +kernel
theorem d40_11 : decode prog_58_method_4_code 11 = .ok (.astore_n 2, 1) := by decide +kernel
theorem d40_12 : decode prog_58_method_4_code 12 = .ok (.aload_n 0, 1) := by decide +kernel
theorem d40_13 : decode prog_58_method_4_code 13 = .ok (.getfield 17, 3) := by decide +kernel
theorem d40_16 : decode prog_58_method_4_code 16 = .ok (.aload_n 2, 1) := by decide +kernel
theorem d40_17 : decode prog_58_method_4_code 17 = .ok (.getfield 17, 3) := by decide +kernel
theorem d40_20 : decode prog_58_method_4_code 20 = .ok (.invokevirtual 26, 3) := by decide +kernel
theorem d40_23 : decode prog_58_method_4_code 23 = .ok (.ifCond .eq 21, 3) := by decide +kernel
theorem d40_26 : decode prog_58_method_4_code 26 = .ok (.aload_n 0, 1) := by decide +kernel
theorem d40_27 : decode prog_58_method_4_code 27 = .ok (.getfield 24, 3) := by decide +kernel
theorem d40_30 : decode prog_58_method_4_code 30 = .ok (.aload_n 2, 1) := by decide +kernel
theorem d40_31 : decode prog_58_method_4_code 31 = .ok (.getfield 24, 3) := by decide +kernel
theorem d40_34 : decode prog_58_method_4_code 34 = .ok (.invokevirtual 26, 3) := by decide +kernel
theorem d40_37 : decode prog_58_method_4_code 37 = .ok (.ifCond .eq 7, 3) := by decide +kernel
theorem d40_40 : decode prog_58_method_4_code 40 = .ok (.iconst 1, 1) := by decide +kernel
theorem d40_41 : decode prog_58_method_4_code 41 = .ok (.goto 4, 3) := by decide +kernel
theorem d40_44 : decode prog_58_method_4_code 44 = .ok (.iconst 0, 1) := by decide +kernel
theorem d40_45 : decode prog_58_method_4_code 45 = .ok (.ireturn, 1) := by decide +kernel
theorem pd_0 : parseMethodDescriptor "([CIILjava/lang/Void;)V" = some ⟨[(.array .char), .int, .int, (.object "java/lang/Void")], none⟩ := by decide +kernel
theorem pd_1 : parseMethodDescriptor "([C)V" = some ⟨[(.array .char)], none⟩ := by decide +kernel
theorem pd_2 : parseMethodDescriptor "(I)C" = some ⟨[.int], some .char⟩ := by decide +kernel
theorem pd_3 : parseMethodDescriptor "(Ljava/lang/Object;Ljava/lang/String;)Ljava/lang/Object;" = some ⟨[(.object "java/lang/Object"), (.object "java/lang/String")], some (.object "java/lang/Object")⟩ := by decide +kernel
theorem pd_4 : parseMethodDescriptor "()I" = some ⟨[], some .int⟩ := by decide +kernel
theorem pd_5 : parseMethodDescriptor "(Ljava/lang/Object;)Z" = some ⟨[(.object "java/lang/Object")], some .boolean⟩ := by decide +kernel
theorem pd_6 : parseMethodDescriptor "(I)Ljava/lang/String;" = some ⟨[.int], some (.object "java/lang/String")⟩ := by decide +kernel
theorem pd_7 : parseMethodDescriptor "(Ljava/lang/String;Ljava/lang/String;)V" = some ⟨[(.object "java/lang/String"), (.object "java/lang/String")], none⟩ := by decide +kernel
theorem pd_8 : parseMethodDescriptor "(Ljava/lang/String;Ljava/lang/String;)Z" = some ⟨[(.object "java/lang/String"), (.object "java/lang/String")], some .boolean⟩ := by decide +kernel
theorem pn_20 : plainName "com/example/andersite/andersite/result/CallEdgeEqualsPinLaw" = true := by first | (simp [plainName, overriddenIn]; done) | decide +kernel
theorem ef_20 (m : MethodId) (x0 : Int32) : entryFrame m #[(.int x0)] 1 = mkF m 0 #[.val (.int x0)] [] := by first | (simp [entryFrame, mkF, argsToLocals, Value.category]; done) | rfl
def Q20 (Z : State) (y : Int32) (h0 : Heap) (n0 : Nat) (v : Option Value) (h : Heap) (L : List Loc) : Prop := v = some (.int (own_chr y)) ∧ Fr n0 L ∧ h = h0
set_option maxRecDepth 65536 in
set_option maxHeartbeats 40000000 in
theorem rm20 (l : Launch) (Z : State) (a0 : Array Value) (hw : ∀ d ∈ tables_1, d.before a0 Z = true) (ws : List Jvm.Cond) (y : Int32) (h0 : Heap) (n0 : Nat) (Z0 : n0 ≤ h0.size)  :
    MetFree l (⟨"com/example/andersite/andersite/result/CallEdgeEqualsPinLaw", "ch", "(I)C"⟩ : MethodName) (head1 (Jvm.Cond.code (⟨"com/example/andersite/andersite/result/CallEdgeEqualsPinLaw", "ch", "(I)C"⟩ : MethodName) method_2_code 1 (some .char) :: ws) ({ frames := 0, cells := 0, slots := 0, locals := 0 } : Room)) (fun a U => a = #[(.int y)] ∧ Z.Warmed39 U.vm ∧ U.heap = h0) (fun _ _ _ _ _ => True) (fun _ U o U' => ∃ v L, o = .returned v ∧ Q20 Z y h0 n0 v U'.heap L ∧ FrameEnd U o U' L ({ frames := 0, cells := 0, slots := 0, locals := 0 } : Room).cells ({ frames := 0, cells := 0, slots := 0, locals := 0 } : Room).slots) := by
  refine MetFree.of_bodySF (plainFor_of_name pn_20) hisR ?_
  intro p e s m args below meth c s₁ Bd hml0 hP hK
  obtain ⟨rfl, hZ, hh⟩ := hP
  have hx := Bd.exec
  have hby := Bd.bytes
  have hml : c.maxLocals = 1 := hml0
  have hown : s.vm.findClass "com/example/andersite/andersite/result/CallEdgeEqualsPinLaw" = some m.cls := findClass_of_methodNamed Bd.named
  have hnm := (name_of_methodNamed Bd.named Bd.method).1
  have X0 : Stand p l e ({ frames := 0, cells := 0, slots := 0, locals := 0 } : Room) s m #[(.int y)] below meth c s₁ [] 0 0 := Stand.of_body Bd
  have e0 : s₁.heap = h0 := by rw [← hh, Bd.state]; rfl
  have N0 := Fr.nil n0
  refine Gl.gen fun P hPost => ?_
  refine Gl.st (fun t k => castTop (ef_20 m y ) k) ?_
  show Gl p e below P (s₁.setTop (mkF m 0 #[.val (.int y)] []))
  refine Gl.st (fun _ k => XS.iloadN X0.here hx rfl (hb hby d20_0) rfl k) ?_
  show Gl p e below P (s₁.setTop (mkF m 1 #[.val (.int y)] [(.int y)]))
  refine Gl.st (fun _ k => XS.iconst X0.here hx rfl (hb hby d20_1) k) ?_
  show Gl p e below P (s₁.setTop (mkF m 2 #[.val (.int y)] [(.int (1 : Int32)), (.int y)]))
  refine Gl.st (fun _ k => XS.iand X0.here hx rfl (hb hby d20_2) rfl k) ?_
  show Gl p e below P (s₁.setTop (mkF m 3 #[.val (.int y)] [(.int (y &&& (1 : Int32)))]))
  by_cases h1 : (y &&& (1 : Int32)) = (0 : Int32)
  · refine Gl.st (fun _ k => XS.ifNo X0.here hx rfl (hb hby d20_3) rfl ((if0 _ _).trans (teq (h1 : (y &&& (1 : Int32)) = (0 : Int32))).2) k) ?_
    show Gl p e below P (s₁.setTop (mkF m 6 #[.val (.int y)] []))
    refine Gl.st (fun _ k => XS.bipush X0.here hx rfl (hb hby d20_6) k) ?_
    show Gl p e below P (s₁.setTop (mkF m 8 #[.val (.int y)] [(.int (97 : Int32))]))
    refine Gl.st (fun _ k => XS.iloadN X0.here hx rfl (hb hby d20_8) rfl k) ?_
    show Gl p e below P (s₁.setTop (mkF m 9 #[.val (.int y)] [(.int y), (.int (97 : Int32))]))
    refine Gl.st (fun _ k => XS.iconst X0.here hx rfl (hb hby d20_9) k) ?_
    show Gl p e below P (s₁.setTop (mkF m 10 #[.val (.int y)] [(.int (1 : Int32)), (.int y), (.int (97 : Int32))]))
    refine Gl.st (fun _ k => XS.iushr X0.here hx rfl (hb hby d20_10) rfl k) ?_
    show Gl p e below P (s₁.setTop (mkF m 11 #[.val (.int y)] [(.int ((y.toUInt32 >>> ((1 : Int32) &&& 31).toUInt32).toInt32)), (.int (97 : Int32))]))
    refine Gl.st (fun _ k => XS.iconst X0.here hx rfl (hb hby d20_11) k) ?_
    show Gl p e below P (s₁.setTop (mkF m 12 #[.val (.int y)] [(.int (1 : Int32)), (.int ((y.toUInt32 >>> ((1 : Int32) &&& 31).toUInt32).toInt32)), (.int (97 : Int32))]))
    refine Gl.st (fun _ k => XS.iand X0.here hx rfl (hb hby d20_12) rfl k) ?_
    show Gl p e below P (s₁.setTop (mkF m 13 #[.val (.int y)] [(.int (((y.toUInt32 >>> ((1 : Int32) &&& 31).toUInt32).toInt32) &&& (1 : Int32))), (.int (97 : Int32))]))
    refine Gl.st (fun _ k => XS.iadd X0.here hx rfl (hb hby d20_13) rfl k) ?_
    show Gl p e below P (s₁.setTop (mkF m 14 #[.val (.int y)] [(.int ((97 : Int32) + (((y.toUInt32 >>> ((1 : Int32) &&& 31).toUInt32).toInt32) &&& (1 : Int32))))]))
    refine Gl.st (fun _ k => XS.i2c X0.here hx rfl (hb hby d20_14) rfl k) ?_
    show Gl p e below P (s₁.setTop (mkF m 15 #[.val (.int y)] [(.int (((97 : Int32) + (((y.toUInt32 >>> ((1 : Int32) &&& 31).toUInt32).toInt32) &&& (1 : Int32))).toUInt32.toUInt16.toUInt32.toInt32))]))
    obtain ⟨fs, hr, hrun, hended, hW, hsame⟩ := X0.leave (v := some (.int (nar .char (((97 : Int32) + (((y.toUInt32 >>> ((1 : Int32) &&& 31).toUInt32).toInt32) &&& (1 : Int32))).toUInt32.toUInt16.toUInt32.toInt32)))) (fun h => by rw [Bd.returns] at h; cases h)
    refine ⟨_, _, retN X0 hx (t := .char) Bd.returns (by simp) (hb hby d20_15) hr, hrun, hended, hPost _ _ ⟨_, _, rfl, ?_, ⟨_, rfl⟩, hW, hsame.mono (by decide) (by decide)⟩⟩
    show Q20 Z y h0 n0 _ s₁.heap _
    rw [e0]
    exact ⟨by simp [own_chr, h1], N0, rfl⟩
  · refine Gl.st (fun _ k => XS.ifYes X0.here hx rfl (pc0 := 3) (pc' := 16) rfl (hb hby d20_3) rfl ((if0 _ _).trans (feq (h1 : ¬ ((y &&& (1 : Int32)) = (0 : Int32)))).2) (by decide) (by decide) k) ?_
    show Gl p e below P (s₁.setTop (mkF m 16 #[.val (.int y)] []))
    refine Gl.st (fun _ k => XS.iloadN X0.here hx rfl (hb hby d20_16) rfl k) ?_
    show Gl p e below P (s₁.setTop (mkF m 17 #[.val (.int y)] [(.int y)]))
    refine Gl.st (fun _ k => XS.iconst X0.here hx rfl (hb hby d20_17) k) ?_
    show Gl p e below P (s₁.setTop (mkF m 18 #[.val (.int y)] [(.int (1 : Int32)), (.int y)]))
    refine Gl.st (fun _ k => XS.iushr X0.here hx rfl (hb hby d20_18) rfl k) ?_
    show Gl p e below P (s₁.setTop (mkF m 19 #[.val (.int y)] [(.int ((y.toUInt32 >>> ((1 : Int32) &&& 31).toUInt32).toInt32))]))
    refine Gl.st (fun _ k => XS.sipush X0.here hx rfl (hb hby d20_19) k) ?_
    show Gl p e below P (s₁.setTop (mkF m 22 #[.val (.int y)] [(.int (255 : Int32)), (.int ((y.toUInt32 >>> ((1 : Int32) &&& 31).toUInt32).toInt32))]))
    refine Gl.st (fun _ k => XS.iand X0.here hx rfl (hb hby d20_22) rfl k) ?_
    show Gl p e below P (s₁.setTop (mkF m 23 #[.val (.int y)] [(.int (((y.toUInt32 >>> ((1 : Int32) &&& 31).toUInt32).toInt32) &&& (255 : Int32)))]))
    refine Gl.st (fun _ k => XS.i2c X0.here hx rfl (hb hby d20_23) rfl k) ?_
    show Gl p e below P (s₁.setTop (mkF m 24 #[.val (.int y)] [(.int ((((y.toUInt32 >>> ((1 : Int32) &&& 31).toUInt32).toInt32) &&& (255 : Int32)).toUInt32.toUInt16.toUInt32.toInt32))]))
    obtain ⟨fs, hr, hrun, hended, hW, hsame⟩ := X0.leave (v := some (.int (nar .char ((((y.toUInt32 >>> ((1 : Int32) &&& 31).toUInt32).toInt32) &&& (255 : Int32)).toUInt32.toUInt16.toUInt32.toInt32)))) (fun h => by rw [Bd.returns] at h; cases h)
    refine ⟨_, _, retN X0 hx (t := .char) Bd.returns (by simp) (hb hby d20_24) hr, hrun, hended, hPost _ _ ⟨_, _, rfl, ?_, ⟨_, rfl⟩, hW, hsame.mono (by decide) (by decide)⟩⟩
    show Q20 Z y h0 n0 _ s₁.heap _
    rw [e0]
    exact ⟨by simp [own_chr, h1], N0, rfl⟩
theorem pn_34 : plainName "java/lang/String" = true := by first | (simp [plainName, overriddenIn]; done) | decide +kernel
theorem ef_34 (m : MethodId) (x0 : Addr) (x1 : Addr) (x2 : Int32) (x3 : Int32) : entryFrame m #[(.ref x0), (.ref x1), (.int x2), (.int x3), .null] 6 = mkF m 0 #[.val (.ref x0), .val (.ref x1), .val (.int x2), .val (.int x3), .val .null, .unset] [] := by first | (simp [entryFrame, mkF, argsToLocals, Value.category]; done) | rfl
def Q34 (Z : State) (a1 : Addr) (c2 : Addr) (u2 : Value) (h0 : Heap) (n0 : Nat) (v : Option Value) (h : Heap) (L : List Loc) : Prop := v = none ∧ Fr n0 L ∧ Keep h0 h [a1] ∧ ∃ (t : Addr) (kb : ClassId), Exa Z h a1 "java/lang/String" ∧ Fld Z h a1 "java/lang/String" "coder" "B" (.int (0 : Int32)) ∧ Fld Z h a1 "java/lang/String" "value" "[B" (.ref t) ∧ Arv Z h t kb .byte (0 : Int32) [] (.int (0 : Int32))
set_option maxRecDepth 65536 in
set_option maxHeartbeats 40000000 in
theorem rm34 (l : Launch) (Z : State) (a0 : Array Value) (hw : ∀ d ∈ tables_1, d.before a0 Z = true) (ws : List Jvm.Cond) (a1 : Addr) (c2 : Addr) (u2 : Value) (h0 : Heap) (n0 : Nat) (Z0 : n0 ≤ h0.size) (E1 : Exa Z h0 a1 "java/lang/String") (F1 : Fld Z h0 a1 "java/lang/String" "value" "[B" .null) (F2 : Fld Z h0 a1 "java/lang/String" "coder" "B" u2) (g1 : n0 ≤ a1) :
    MetFree l (⟨"java/lang/String", "<init>", "([CIILjava/lang/Void;)V"⟩ : MethodName) (head1 (Jvm.Cond.code (⟨"java/lang/String", "<init>", "([CIILjava/lang/Void;)V"⟩ : MethodName) jdk_42_method_149_code 6 none :: ws) ({ frames := 1, cells := 4, slots := 8, locals := 12 } : Room)) (fun a U => a = #[(.ref a1), (.ref c2), (.int (0 : Int32)), (.int (0 : Int32)), .null] ∧ Z.Warmed39 U.vm ∧ U.heap = h0 ∧ CHv Z consts_1 U.vm h0) (fun _ _ _ _ _ => True) (fun _ U o U' => ∃ v L, o = .returned v ∧ Q34 Z a1 c2 u2 h0 n0 v U'.heap L ∧ CHr Z consts_1 U.vm U.heap U'.vm U'.heap ∧ ReturnedEndW U o U' L ({ frames := 1, cells := 4, slots := 8, locals := 12 } : Room).cells ({ frames := 1, cells := 4, slots := 8, locals := 12 } : Room).slots) := by
  refine MetFree.of_bodySF (plainFor_of_name pn_34) hisR ?_
  intro p e s m args below meth c s₁ Bd hml0 hP hK
  obtain ⟨rfl, hZ, hh, hC⟩ := hP
  have hx := Bd.exec
  have hby := Bd.bytes
  have hml : c.maxLocals = 6 := hml0
  have hown : s.vm.findClass "java/lang/String" = some m.cls := findClass_of_methodNamed Bd.named
  have hnm := (name_of_methodNamed Bd.named Bd.method).1
  have X0 : Stand p l e ({ frames := 1, cells := 4, slots := 8, locals := 12 } : Room) (s.setVm s.vm) m #[(.ref a1), (.ref c2), (.int (0 : Int32)), (.int (0 : Int32)), .null] below meth c s₁ [] 0 0 := Stand.of_body Bd
  have hS0 : s.Since s.vm 0 := (State.WarmedH.refl s).since 0
  have C0 : CHr Z consts_1 s.vm h0 s.vm h0 := CHr.refl hC
  have hZ0 : Z.Warmed39 (s.setVm s.vm).vm := hZ
  have hown0 : (s.setVm s.vm).vm.findClass "java/lang/String" = some m.cls := hown
  have hEL := own_EW hw
  have wS := own_wS hw
  have e0 : s₁.heap = h0 := by rw [← hh, Bd.state]; rfl
  have N0 := Fr.nil n0
  refine Gl.gen fun P hPost => ?_
  refine Gl.st (fun t k => castTop (ef_34 m a1 c2 (0 : Int32) (0 : Int32) ) k) ?_
  show Gl p e below P (s₁.setTop (mkF m 0 #[.val (.ref a1), .val (.ref c2), .val (.int (0 : Int32)), .val (.int (0 : Int32)), .val .null, .unset] []))
  have Sf_a1 : Safe Z consts_1 s.vm h0 a1 := own_blank hZ0.alike E1 F1
  refine Gl.st (fun _ k => XS.aloadN X0.here hx rfl (hb hby d34_0) rfl rfl k) ?_
  show Gl p e below P (s₁.setTop (mkF m 1 #[.val (.ref a1), .val (.ref c2), .val (.int (0 : Int32)), .val (.int (0 : Int32)), .val .null, .unset] [(.ref a1)]))
  obtain ⟨T1, X1, e1, st1⟩ := initO X0 hx hZ0 hown0 (hw _ (List.mem_of_getElem? (i := 15) rfl)) (hw _ (List.mem_of_getElem? (i := 16) rfl)) (hw _ (List.mem_of_getElem? (i := 17) rfl)) e0 (g := (mkF m 1 #[.val (.ref a1), .val (.ref c2), .val (.int (0 : Int32)), .val (.int (0 : Int32)), .val .null, .unset] [(.ref a1)])) rfl (by rw [hml]; rfl) rfl (hb hby d34_1) (by decide) (W := 0) (by show 2 * 0 + _ ≤ _; exact Nat.le_of_eq rfl) (by decide)
  refine Gl.st st1 ?_
  show Gl p e below P (T1.setTop (mkF m 4 #[.val (.ref a1), .val (.ref c2), .val (.int (0 : Int32)), .val (.int (0 : Int32)), .val .null, .unset] []))
  refine Gl.st (fun _ k => XS.iloadN X1.here hx rfl (hb hby d34_4) rfl k) ?_
  show Gl p e below P (T1.setTop (mkF m 5 #[.val (.ref a1), .val (.ref c2), .val (.int (0 : Int32)), .val (.int (0 : Int32)), .val .null, .unset] [(.int (0 : Int32))]))
  refine Gl.st (fun _ k => XS.ifNo X1.here hx rfl (hb hby d34_5) rfl ((if0 _ _).trans (teq (by decide : (0 : Int32) = (0 : Int32))).2) k) ?_
  show Gl p e below P (T1.setTop (mkF m 8 #[.val (.ref a1), .val (.ref c2), .val (.int (0 : Int32)), .val (.int (0 : Int32)), .val .null, .unset] []))
  refine Gl.st (fun _ k => XS.aloadN X1.here hx rfl (hb hby d34_8) rfl rfl k) ?_
  show Gl p e below P (T1.setTop (mkF m 9 #[.val (.ref a1), .val (.ref c2), .val (.int (0 : Int32)), .val (.int (0 : Int32)), .val .null, .unset] [(.ref a1)]))
  obtain ⟨la2, T2, h2, k12, lb2, lk2, X2, e2, E2, hS2, hk2, hZ2, hown2, LE2, LC2, LV2, LA2, lt2, mt2, Cn2, -, hne2, st2⟩ := ldcCH X1 hx hZ0 hown0 (hw _ (List.mem_of_getElem? (i := 18) rfl)) wS e1 hS0 (Nat.zero_le _) hEL (by decide) C0.1 (vs := []) (z := (0 : Int32)) ⟨by decide, by decide⟩ (by decide) rfl (g := (mkF m 9 #[.val (.ref a1), .val (.ref c2), .val (.int (0 : Int32)), .val (.int (0 : Int32)), .val .null, .unset] [(.ref a1)])) rfl (hb hby d34_9) (n := 0) (by decide) (by decide) (by decide) (by decide)
  have Z0_v2 : n0 ≤ h2.size := Nat.le_trans Z0 E2.1
  have f_hk_v2 : 0 ≤ h2.size := Nat.le_trans (Nat.zero_le _) E2.1
  have E1_v2 : Exa Z h2 a1 "java/lang/String" := E1.ext E2
  have F1_v2 : Fld Z h2 a1 "java/lang/String" "value" "[B" .null := F1.ext E2
  have F2_v2 : Fld Z h2 a1 "java/lang/String" "coder" "B" u2 := F2.ext E2
  have f_K_v2 : Keep h0 h2 [a1] := (Keep.refl h0 [a1]).ext E2
  have Sf_a1_w2 : Safe Z consts_1 T2.vm h2 a1 := Cn2.safe E1.lt Sf_a1
  have C_w2 : CHr Z consts_1 s.vm h0 T2.vm h2 := C0.trans Cn2
  obtain ⟨ne_a1_la2, ne_a1_lb2⟩ := hne2 a1 Sf_a1_w2
  refine Gl.st st2 ?_
  show Gl p e below P (T2.setTop (mkF m 11 #[.val (.ref a1), .val (.ref c2), .val (.int (0 : Int32)), .val (.int (0 : Int32)), .val .null, .unset] [(.ref la2), (.ref a1)]))
  obtain ⟨T3, X3, e3, st3⟩ := getF X2 hx hZ2 hown2 (host := "") (Or.inl (hw _ (List.mem_of_getElem? (i := 24) rfl))) Via.refl e2 LV2 (g := (mkF m 11 #[.val (.ref a1), .val (.ref c2), .val (.int (0 : Int32)), .val (.int (0 : Int32)), .val .null, .unset] [(.ref la2), (.ref a1)])) rfl rfl (hb hby d34_11)
  refine Gl.st st3 ?_
  show Gl p e below P (T3.setTop (mkF m 14 #[.val (.ref a1), .val (.ref c2), .val (.int (0 : Int32)), .val (.int (0 : Int32)), .val .null, .unset] [(.ref lb2), (.ref a1)]))
  obtain ⟨T4, h4, X4, e4, W4, st4⟩ := putF X3 hx hZ2 hown2 (host := "") (Or.inl (hw _ (List.mem_of_getElem? (i := 24) rfl))) Via.refl e3 F1_v2 E1_v2 (Or.inr ⟨(hw _ (List.mem_of_getElem? (i := 20) rfl)), rfl, hnm⟩) (hw _ (List.mem_of_getElem? (i := 6) rfl)) (ty := (.array .byte)) (by decide) rfl rfl (g := (mkF m 14 #[.val (.ref a1), .val (.ref c2), .val (.int (0 : Int32)), .val (.int (0 : Int32)), .val .null, .unset] [(.ref lb2), (.ref a1)])) rfl rfl (hb hby d34_14)
  refine Gl.st st4 ?_
  have Sf_a1_v4 : Safe Z consts_1 T2.vm h4 a1 := Safe.wr W4 Sf_a1_w2 C_w2.1 Sf_a1_w2
  have C_v4 : CHr Z consts_1 s.vm h0 T2.vm h4 := C_w2.trans (CHr.wr W4 Sf_a1_w2 C_w2.1)
  have Z0_v4 : n0 ≤ h4.size := Nat.le_trans Z0_v2 (Keep.of_wr W4).1
  have hk2_v4 : k12 ≤ h4.size := Nat.le_trans hk2 (Keep.of_wr W4).1
  have E1_v4 : Exa Z h4 a1 "java/lang/String" := E1_v2.wr W4
  have F2_v4 : Fld Z h4 a1 "java/lang/String" "coder" "B" u2 := F2_v2.other W4 (Or.inr (slot_ne (Or.inr (hw _ (List.mem_of_getElem? (i := 21) rfl))) (Or.inr (hw _ (List.mem_of_getElem? (i := 20) rfl))) (by decide) (t := .byte) (t' := (.array .byte)) (by decide) (by decide)))
  have f_K_v4 : Keep h0 h4 [a1] := f_K_v2.wr W4 (Or.inl (List.mem_of_getElem? (i := 0) rfl))
  have LE2_v4 : Exa Z h4 la2 "java/lang/String" := LE2.wr W4
  have LC2_v4 : Fld Z h4 la2 "java/lang/String" "coder" "B" (.int (0 : Int32)) := LC2.other W4 (Or.inl (Ne.symm ne_a1_la2))
  have LV2_v4 : Fld Z h4 la2 "java/lang/String" "value" "[B" (.ref lb2) := LV2.other W4 (Or.inl (Ne.symm ne_a1_la2))
  have LA2_v4 : Arv Z h4 lb2 lk2 .byte (0 : Int32) [] (.int (0 : Int32)) := LA2.other W4 (Ne.symm ne_a1_lb2)
  have Fw4 : Fld Z h4 a1 "java/lang/String" "value" "[B" (.ref lb2) := F1_v2.same W4
  have N4 := Fr.snoc X4 N0 g1
  show Gl p e below P (T4.setTop (mkF m 17 #[.val (.ref a1), .val (.ref c2), .val (.int (0 : Int32)), .val (.int (0 : Int32)), .val .null, .unset] []))
  refine Gl.st (fun _ k => XS.aloadN X4.here hx rfl (hb hby d34_17) rfl rfl k) ?_
  show Gl p e below P (T4.setTop (mkF m 18 #[.val (.ref a1), .val (.ref c2), .val (.int (0 : Int32)), .val (.int (0 : Int32)), .val .null, .unset] [(.ref a1)]))
  obtain ⟨la5, T5, h5, k15, lb5, lk5, X5, e5, E5, hS5, hk5, hZ5, hown5, LE5, LC5, LV5, LA5, lt5, mt5, Cn5, -, hne5, st5⟩ := ldcCH X4 hx hZ2 hown2 (hw _ (List.mem_of_getElem? (i := 18) rfl)) wS e4 hS2 hk2_v4 hEL (by decide) C_v4.1 (vs := []) (z := (0 : Int32)) ⟨by decide, by decide⟩ (by decide) rfl (g := (mkF m 18 #[.val (.ref a1), .val (.ref c2), .val (.int (0 : Int32)), .val (.int (0 : Int32)), .val .null, .unset] [(.ref a1)])) rfl (hb hby d34_18) (n := 0) (by decide) (by decide) (by decide) (by decide)
  have Z0_v5 : n0 ≤ h5.size := Nat.le_trans Z0_v4 E5.1
  have hk2_v5 : k12 ≤ h5.size := Nat.le_trans hk2_v4 E5.1
  have E1_v5 : Exa Z h5 a1 "java/lang/String" := E1_v4.ext E5
  have F2_v5 : Fld Z h5 a1 "java/lang/String" "coder" "B" u2 := F2_v4.ext E5
  have f_K_v5 : Keep h0 h5 [a1] := f_K_v4.ext E5
  have LA2_v5 : Arv Z h5 lb2 lk2 .byte (0 : Int32) [] (.int (0 : Int32)) := LA2_v4.ext E5
  have Fw4_v5 : Fld Z h5 a1 "java/lang/String" "value" "[B" (.ref lb2) := Fw4.ext E5
  have Sf_a1_w5 : Safe Z consts_1 T5.vm h5 a1 := Cn5.safe E1_v4.lt Sf_a1_v4
  have C_w5 : CHr Z consts_1 s.vm h0 T5.vm h5 := C_v4.trans Cn5
  obtain ⟨ne_a1_la5, ne_a1_lb5⟩ := hne5 a1 Sf_a1_w5
  refine Gl.st st5 ?_
  show Gl p e below P (T5.setTop (mkF m 20 #[.val (.ref a1), .val (.ref c2), .val (.int (0 : Int32)), .val (.int (0 : Int32)), .val .null, .unset] [(.ref la5), (.ref a1)]))
  obtain ⟨T6, X6, e6, st6⟩ := getF X5 hx hZ5 hown5 (host := "") (Or.inl (hw _ (List.mem_of_getElem? (i := 25) rfl))) Via.refl e5 LC5 (g := (mkF m 20 #[.val (.ref a1), .val (.ref c2), .val (.int (0 : Int32)), .val (.int (0 : Int32)), .val .null, .unset] [(.ref la5), (.ref a1)])) rfl rfl (hb hby d34_20)
  refine Gl.st st6 ?_
  show Gl p e below P (T6.setTop (mkF m 23 #[.val (.ref a1), .val (.ref c2), .val (.int (0 : Int32)), .val (.int (0 : Int32)), .val .null, .unset] [(.int (0 : Int32)), (.ref a1)]))
  obtain ⟨T7, h7, X7, e7, W7, st7⟩ := putFN X6 hx hZ5 hown5 (hw _ (List.mem_of_getElem? (i := 25) rfl)) Via.refl e6 F2_v5 E1_v5 (Or.inr ⟨(hw _ (List.mem_of_getElem? (i := 21) rfl)), rfl, hnm⟩) (hw _ (List.mem_of_getElem? (i := 6) rfl)) (ty := .byte) (v' := (.int (nar .byte (0 : Int32)))) (by decide) rfl (fits_nar_byte _) (g := (mkF m 23 #[.val (.ref a1), .val (.ref c2), .val (.int (0 : Int32)), .val (.int (0 : Int32)), .val .null, .unset] [(.int (0 : Int32)), (.ref a1)])) rfl rfl (hb hby d34_23)
  refine Gl.st st7 ?_
  have Sf_a1_v7 : Safe Z consts_1 T5.vm h7 a1 := Safe.wr W7 Sf_a1_w5 C_w5.1 Sf_a1_w5
  have C_v7 : CHr Z consts_1 s.vm h0 T5.vm h7 := C_w5.trans (CHr.wr W7 Sf_a1_w5 C_w5.1)
  have Z0_v7 : n0 ≤ h7.size := Nat.le_trans Z0_v5 (Keep.of_wr W7).1
  have hk5_v7 : k15 ≤ h7.size := Nat.le_trans hk5 (Keep.of_wr W7).1
  have E1_v7 : Exa Z h7 a1 "java/lang/String" := E1_v5.wr W7
  have f_K_v7 : Keep h0 h7 [a1] := f_K_v5.wr W7 (Or.inl (List.mem_of_getElem? (i := 0) rfl))
  have LA2_v7 : Arv Z h7 lb2 lk2 .byte (0 : Int32) [] (.int (0 : Int32)) := LA2_v5.other W7 (Ne.symm ne_a1_lb2)
  have Fw4_v7 : Fld Z h7 a1 "java/lang/String" "value" "[B" (.ref lb2) := Fw4_v5.other W7 (Or.inr (slot_ne (Or.inr (hw _ (List.mem_of_getElem? (i := 20) rfl))) (Or.inr (hw _ (List.mem_of_getElem? (i := 21) rfl))) (by decide) (t := (.array .byte)) (t' := .byte) (by decide) (by decide)))
  have LE5_v7 : Exa Z h7 la5 "java/lang/String" := LE5.wr W7
  have LC5_v7 : Fld Z h7 la5 "java/lang/String" "coder" "B" (.int (0 : Int32)) := LC5.other W7 (Or.inl (Ne.symm ne_a1_la5))
  have LV5_v7 : Fld Z h7 la5 "java/lang/String" "value" "[B" (.ref lb5) := LV5.other W7 (Or.inl (Ne.symm ne_a1_la5))
  have LA5_v7 : Arv Z h7 lb5 lk5 .byte (0 : Int32) [] (.int (0 : Int32)) := LA5.other W7 (Ne.symm ne_a1_lb5)
  have Fw7 : Fld Z h7 a1 "java/lang/String" "coder" "B" (.int (0 : Int32)) := F2_v5.same W7
  have N7 := Fr.snoc X7 N4 g1
  show Gl p e below P (T7.setTop (mkF m 26 #[.val (.ref a1), .val (.ref c2), .val (.int (0 : Int32)), .val (.int (0 : Int32)), .val .null, .unset] []))
  obtain ⟨fs, hr, hrun, hended, hRE⟩ := X7.leaveW hS5 (by rw [e7]; exact hk5_v7) (v := none) (fun _ => rfl)
  refine ⟨_, _, X7.returnOut hx Bd.returns (hb hby d34_26) hr, hrun, hended, hPost _ _ ⟨_, _, rfl, ?_, ?_, hRE.1, hRE.2.1, hRE.2.2.1, hRE.2.2.2.mono (by decide) (by decide)⟩⟩
  rotate_left
  · show CHr Z consts_1 s.vm s.heap T7.vm T7.heap
    rw [hh, e7]
    exact C_v7.trans (CHv.at X7 hZ5 hEL C_v7.1)
  show Q34 Z a1 c2 u2 h0 n0 _ T7.heap _
  rw [e7]
  exact ⟨rfl, N7, f_K_v7, _, _, E1_v7, Fw7, Fw4_v7, LA2_v7⟩
theorem pn_35 : plainName "java/lang/String" = true := by first | (simp [plainName, overriddenIn]; done) | decide +kernel
theorem ef_35 (m : MethodId) (x0 : Addr) (x1 : Addr) : entryFrame m #[(.ref x0), (.ref x1)] 2 = mkF m 0 #[.val (.ref x0), .val (.ref x1)] [] := by first | (simp [entryFrame, mkF, argsToLocals, Value.category]; done) | rfl
def Q35 (Z : State) (a1 : Addr) (c2 : Addr) (kc : ClassId) (u2 : Value) (h0 : Heap) (n0 : Nat) (v : Option Value) (h : Heap) (L : List Loc) : Prop := v = none ∧ Fr n0 L ∧ Keep h0 h [a1] ∧ ∃ (t : Addr) (kb : ClassId), Exa Z h a1 "java/lang/String" ∧ Fld Z h a1 "java/lang/String" "coder" "B" (.int (0 : Int32)) ∧ Fld Z h a1 "java/lang/String" "value" "[B" (.ref t) ∧ Arv Z h t kb .byte (0 : Int32) [] (.int (0 : Int32))
set_option maxRecDepth 65536 in
set_option maxHeartbeats 40000000 in
theorem rm35 (l : Launch) (Z : State) (a0 : Array Value) (hw : ∀ d ∈ tables_1, d.before a0 Z = true) (ws : List Jvm.Cond) (a1 : Addr) (c2 : Addr) (kc : ClassId) (u2 : Value) (h0 : Heap) (n0 : Nat) (Z0 : n0 ≤ h0.size) (E1 : Exa Z h0 a1 "java/lang/String") (F1 : Fld Z h0 a1 "java/lang/String" "value" "[B" .null) (F2 : Fld Z h0 a1 "java/lang/String" "coder" "B" u2) (g1 : n0 ≤ a1) (V2 : Arv Z h0 c2 kc .char (0 : Int32) [] (.int (0 : Int32))) :
    MetFree l (⟨"java/lang/String", "<init>", "([C)V"⟩ : MethodName) (head1 (Jvm.Cond.code (⟨"java/lang/String", "<init>", "([C)V"⟩ : MethodName) jdk_42_method_3_code 2 none :: ws) ({ frames := 2, cells := 4, slots := 8, locals := 29 } : Room)) (fun a U => a = #[(.ref a1), (.ref c2)] ∧ Z.Warmed39 U.vm ∧ U.heap = h0 ∧ CHv Z consts_1 U.vm h0) (fun _ _ _ _ _ => True) (fun _ U o U' => ∃ v L, o = .returned v ∧ Q35 Z a1 c2 kc u2 h0 n0 v U'.heap L ∧ CHr Z consts_1 U.vm U.heap U'.vm U'.heap ∧ ReturnedEndW U o U' L ({ frames := 2, cells := 4, slots := 8, locals := 29 } : Room).cells ({ frames := 2, cells := 4, slots := 8, locals := 29 } : Room).slots) := by
  refine MetFree.of_bodySF (plainFor_of_name pn_35) hisR ?_
  intro p e s m args below meth c s₁ Bd hml0 hP hK
  obtain ⟨rfl, hZ, hh, hC⟩ := hP
  have hx := Bd.exec
  have hby := Bd.bytes
  have hml : c.maxLocals = 2 := hml0
  have hown : s.vm.findClass "java/lang/String" = some m.cls := findClass_of_methodNamed Bd.named
  have hnm := (name_of_methodNamed Bd.named Bd.method).1
  have X0 : Stand p l e ({ frames := 2, cells := 4, slots := 8, locals := 29 } : Room) (s.setVm s.vm) m #[(.ref a1), (.ref c2)] below meth c s₁ [] 0 0 := Stand.of_body Bd
  have hS0 : s.Since s.vm 0 := (State.WarmedH.refl s).since 0
  have C0 : CHr Z consts_1 s.vm h0 s.vm h0 := CHr.refl hC
  have hZ0 : Z.Warmed39 (s.setVm s.vm).vm := hZ
  have hown0 : (s.setVm s.vm).vm.findClass "java/lang/String" = some m.cls := hown
  have hEL := own_EW hw
  have wS := own_wS hw
  have e0 : s₁.heap = h0 := by rw [← hh, Bd.state]; rfl
  have N0 := Fr.nil n0
  refine Gl.gen fun P hPost => ?_
  refine Gl.st (fun t k => castTop (ef_35 m a1 c2 ) k) ?_
  show Gl p e below P (s₁.setTop (mkF m 0 #[.val (.ref a1), .val (.ref c2)] []))
  refine Gl.st (fun _ k => XS.aloadN X0.here hx rfl (hb hby d35_0) rfl rfl k) ?_
  show Gl p e below P (s₁.setTop (mkF m 1 #[.val (.ref a1), .val (.ref c2)] [(.ref a1)]))
  refine Gl.st (fun _ k => XS.aloadN X0.here hx rfl (hb hby d35_1) rfl rfl k) ?_
  show Gl p e below P (s₁.setTop (mkF m 2 #[.val (.ref a1), .val (.ref c2)] [(.ref c2), (.ref a1)]))
  refine Gl.st (fun _ k => XS.iconst X0.here hx rfl (hb hby d35_2) k) ?_
  show Gl p e below P (s₁.setTop (mkF m 3 #[.val (.ref a1), .val (.ref c2)] [(.int (0 : Int32)), (.ref c2), (.ref a1)]))
  refine Gl.st (fun _ k => XS.aloadN X0.here hx rfl (hb hby d35_3) rfl rfl k) ?_
  show Gl p e below P (s₁.setTop (mkF m 4 #[.val (.ref a1), .val (.ref c2)] [(.ref c2), (.int (0 : Int32)), (.ref c2), (.ref a1)]))
  obtain ⟨c1, Ar1, q1, S1, M1, H1, U1⟩ := id V2
  refine Gl.st (X0.arraylength hx (by rw [e0]; exact Ar1.1) (State.isArrayOf_alike hZ0.alike Ar1.2.1) (g := (mkF m 4 #[.val (.ref a1), .val (.ref c2)] [(.ref c2), (.int (0 : Int32)), (.ref c2), (.ref a1)])) rfl rfl (hb hby d35_4)) ?_
  rw [len_of S1 M1]
  show Gl p e below P (s₁.setTop (mkF m 5 #[.val (.ref a1), .val (.ref c2)] [(.int (0 : Int32)), (.int (0 : Int32)), (.ref c2), (.ref a1)]))
  refine Gl.st (fun _ k => XS.aconstNull X0.here hx rfl (hb hby d35_5) k) ?_
  show Gl p e below P (s₁.setTop (mkF m 6 #[.val (.ref a1), .val (.ref c2)] [.null, (.int (0 : Int32)), (.int (0 : Int32)), (.ref c2), (.ref a1)]))
  obtain ⟨_, _, ⟨T2, L2, k2, n2⟩, -, X2, hs2, hg2, ⟨Lc2, hQ2, l2, y2, z2, Cn2⟩, st2⟩ := X0.specialBackS hx (y := (⟨"java/lang/String", "<init>", "([CIILjava/lang/Void;)V"⟩ : MethodName)) rfl hown0 (mvT hZ0 (hw _ (List.mem_of_getElem? (i := 11) rfl))) (mvT hZ0 (hw _ (List.mem_of_getElem? (i := 12) rfl))) (mvT hZ0 (hw _ (List.mem_of_getElem? (i := 14) rfl))) (by decide) (backOfSH (s := s) (W := 0) (rm34 l Z a0 hw [] a1 c2 u2 h0 n0 Z0 E1 F1 F2 g1) hZ0 (hw _ (List.mem_of_getElem? (i := 14) rfl)) (hw _ (List.mem_of_getElem? (i := 7) rfl)) (by decide) (by decide) hEL C0.1) (g := (mkF m 6 #[.val (.ref a1), .val (.ref c2)] [.null, (.int (0 : Int32)), (.int (0 : Int32)), (.ref c2), (.ref a1)])) rfl (by rw [hml]; rfl) (Steps.refl _) (a := a1) (argsL := [(.ref c2), (.int (0 : Int32)), (.int (0 : Int32)), .null]) (rest := []) (lenOf pd_0 rfl) rfl (by show 2 * 0 + _ ≤ _; exact Nat.le_of_eq rfl) (hb hby d35_6) (fun _ _ => ⟨rfl, e0, (by decide : 0 + 4 ≤ _), (by decide : 0 + 8 ≤ _)⟩)
  dsimp only [Pt.U, Pt.locs, Pt.cells, Pt.slots] at X2 hs2 hg2 l2 y2 z2 st2 hQ2 Cn2
  subst l2 y2 z2
  obtain ⟨rfl, N2q, K2, tt, kk, R1, R2, R3, R4⟩ := hQ2
  have X2 : Stand p l e ({ frames := 2, cells := 4, slots := 8, locals := 29 } : Room) (s.setVm T2.vm) m _ below meth c T2 _ _ _ := X2
  have N2 := Fr.app N0 N2q
  have Z0_v2 : n0 ≤ T2.heap.size := Nat.le_trans Z0 K2.1
  have f_hk_v2 : 0 ≤ T2.heap.size := Nat.le_trans (Nat.zero_le _) K2.1
  have hS2 : s.Since T2.vm T2.heap.size := foldS hS0 (by rw [e0]; exact (Nat.zero_le _)) hs2 hg2
  have hZ2 : Z.Warmed39 (s.setVm T2.vm).vm := State.Warmed39.trans (t := s.setVm s.vm) hZ0 hs2.1
  have hown2 : (s.setVm T2.vm).vm.findClass "java/lang/String" = some m.cls := by rw [show (s.setVm T2.vm).vm = T2.vm from rfl, hs2.1.alike.findClass]; exact hown0
  have C_w2 : CHr Z consts_1 s.vm h0 T2.vm T2.heap := C0.trans Cn2
  refine Gl.tr st2 ?_
  show Gl p e below P (T2.setTop (mkF m 9 #[.val (.ref a1), .val (.ref c2)] []))
  obtain ⟨fs, hr, hrun, hended, hRE⟩ := X2.leaveW hS2 (Nat.le_refl _) (v := none) (fun _ => rfl)
  refine ⟨_, _, X2.returnOut hx Bd.returns (hb hby d35_9) hr, hrun, hended, hPost _ _ ⟨_, _, rfl, ?_, ?_, hRE.1, hRE.2.1, hRE.2.2.1, hRE.2.2.2.mono (by decide) (by decide)⟩⟩
  rotate_left
  · show CHr Z consts_1 s.vm s.heap T2.vm T2.heap
    rw [hh]
    exact C_w2.trans (CHv.at X2 hZ2 hEL C_w2.1)
  show Q35 Z a1 c2 kc u2 h0 n0 _ T2.heap _
  exact ⟨rfl, N2, K2, tt, kk, R1, R2, R3, R4⟩
theorem pn_36 : plainName "com/example/andersite/andersite/result/CallEdgeEqualsPinLaw" = true := by first | (simp [plainName, overriddenIn]; done) | decide +kernel
theorem ef_36 (m : MethodId) (x0 : Int32) : entryFrame m #[(.int x0)] 3 = mkF m 0 #[.val (.int x0), .unset, .unset] [] := by first | (simp [entryFrame, mkF, argsToLocals, Value.category]; done) | rfl
def Q36 (Z : State) (p1 : Int32) (G1 : Int32) (h0 : Heap) (n0 : Nat) (v : Option Value) (h : Heap) (L : List Loc) : Prop := Fr n0 L ∧ Keep h0 h [] ∧ ∃ b, v = some (.ref b) ∧ own_Str Z h b (own_cs p1)
set_option maxRecDepth 65536 in
set_option maxHeartbeats 40000000 in
theorem rm36 (l : Launch) (Z : State) (a0 : Array Value) (hw : ∀ d ∈ tables_1, d.before a0 Z = true) (ws : List Jvm.Cond) (p1 : Int32) (G1 : Int32) (h0 : Heap) (n0 : Nat) (Z0 : n0 ≤ h0.size) (O2 : Sta Z Z.heap "java/lang/String" "COMPACT_STRINGS" "Z" (.int G1)) (P5 : ¬ (G1 = (0 : Int32))) (X00 : Old Z n0 h0) :
    MetFree l (⟨"com/example/andersite/andersite/result/CallEdgeEqualsPinLaw", "str", "(I)Ljava/lang/String;"⟩ : MethodName) (head1 (Jvm.Cond.code (⟨"com/example/andersite/andersite/result/CallEdgeEqualsPinLaw", "str", "(I)Ljava/lang/String;"⟩ : MethodName) method_3_code 3 (some (.object "java/lang/String")) :: ws) ({ frames := 4, cells := 6, slots := 12, locals := 66 } : Room)) (fun a U => a = #[(.int p1)] ∧ Z.Warmed39 U.vm ∧ U.heap = h0 ∧ CHv Z consts_1 U.vm h0) (fun _ _ _ _ _ => True) (fun _ U o U' => ∃ v L, o = .returned v ∧ Q36 Z p1 G1 h0 n0 v U'.heap L ∧ CHr Z consts_1 U.vm U.heap U'.vm U'.heap ∧ ReturnedEndW U o U' L ({ frames := 4, cells := 6, slots := 12, locals := 66 } : Room).cells ({ frames := 4, cells := 6, slots := 12, locals := 66 } : Room).slots) := by
  refine MetFree.of_bodySF (plainFor_of_name pn_36) hisR ?_
  intro p e s m args below meth c s₁ Bd hml0 hP hK
  obtain ⟨rfl, hZ, hh, hC⟩ := hP
  have hx := Bd.exec
  have hby := Bd.bytes
  have hml : c.maxLocals = 3 := hml0
  have hown : s.vm.findClass "com/example/andersite/andersite/result/CallEdgeEqualsPinLaw" = some m.cls := findClass_of_methodNamed Bd.named
  have hnm := (name_of_methodNamed Bd.named Bd.method).1
  have X0 : Stand p l e ({ frames := 4, cells := 6, slots := 12, locals := 66 } : Room) (s.setVm s.vm) m #[(.int p1)] below meth c s₁ [] 0 0 := Stand.of_body Bd
  have hS0 : s.Since s.vm 0 := (State.WarmedH.refl s).since 0
  have C0 : CHr Z consts_1 s.vm h0 s.vm h0 := CHr.refl hC
  have hZ0 : Z.Warmed39 (s.setVm s.vm).vm := hZ
  have hown0 : (s.setVm s.vm).vm.findClass "com/example/andersite/andersite/result/CallEdgeEqualsPinLaw" = some m.cls := hown
  have hEL := own_EW hw
  have wS := own_wS hw
  have e0 : s₁.heap = h0 := by rw [← hh, Bd.state]; rfl
  have N0 := Fr.nil n0
  refine Gl.gen fun P hPost => ?_
  refine Gl.st (fun t k => castTop (ef_36 m p1 ) k) ?_
  show Gl p e below P (s₁.setTop (mkF m 0 #[.val (.int p1), .unset, .unset] []))
  have hws : ∀ d ∈ StrChars.Road.words, d.before a0 Z = true := fun d hd => hw d ((by decide +kernel : ∀ d ∈ StrChars.Road.words, d ∈ tables_1) d hd)
  refine Gl.st (fun _ k => XS.iloadN X0.here hx rfl (hb hby d36_0) rfl k) ?_
  show Gl p e below P (s₁.setTop (mkF m 1 #[.val (.int p1), .unset, .unset] [(.int p1)]))
  refine Gl.st (fun _ k => XS.iconst X0.here hx rfl (hb hby d36_1) k) ?_
  show Gl p e below P (s₁.setTop (mkF m 2 #[.val (.int p1), .unset, .unset] [(.int (3 : Int32)), (.int p1)]))
  refine Gl.st (fun _ k => XS.iand X0.here hx rfl (hb hby d36_2) rfl k) ?_
  show Gl p e below P (s₁.setTop (mkF m 3 #[.val (.int p1), .unset, .unset] [(.int (p1 &&& (3 : Int32)))]))
  refine Gl.st (fun _ k => XS.iconst X0.here hx rfl (hb hby d36_3) k) ?_
  show Gl p e below P (s₁.setTop (mkF m 4 #[.val (.int p1), .unset, .unset] [(.int (3 : Int32)), (.int (p1 &&& (3 : Int32)))]))
  refine Gl.st (fun _ k => iremM (g := (mkF m 4 #[.val (.int p1), .unset, .unset] [(.int (3 : Int32)), (.int (p1 &&& (3 : Int32)))])) X0 hx rfl (hb hby d36_4) rfl (by decide) k) ?_
  show Gl p e below P (s₁.setTop (mkF m 5 #[.val (.int p1), .unset, .unset] [(.int ((p1 &&& (3 : Int32)) % (3 : Int32)))]))
  rcases own_rem3 p1 with hq | hq | hq
  · rw [hq]
    show Gl p e below P (s₁.setTop (mkF m 5 #[.val (.int p1), .unset, .unset] [(.int (0 : Int32))]))
    have hcs : own_cs p1 = ([] : List Int32) := by unfold own_cs; rw [hq]; rfl
    refine Gl.st (fun _ k => XS.istoreN X0.here hx rfl (hb hby d36_5) rfl (l' := #[.val (.int p1), .val (.int (0 : Int32)), .unset]) rfl k) ?_
    show Gl p e below P (s₁.setTop (mkF m 6 #[.val (.int p1), .val (.int (0 : Int32)), .unset] []))
    refine Gl.st (fun _ k => XS.iloadN X0.here hx rfl (hb hby d36_6) rfl k) ?_
    show Gl p e below P (s₁.setTop (mkF m 7 #[.val (.int p1), .val (.int (0 : Int32)), .unset] [(.int (0 : Int32))]))
    obtain ⟨T1, h1, k1, X1, e1, E1, A1, st1⟩ := newP X0 hx hZ0 (hw _ (List.mem_of_getElem? (i := 4) rfl)) e0 (g := (mkF m 7 #[.val (.int p1), .val (.int (0 : Int32)), .unset] [(.int (0 : Int32))])) rfl (hb hby d36_7) rfl (by decide) (cap := 0) (by decide) (by decide) (by decide) (by decide)
    obtain ⟨b1, g1⟩ : ∃ z, z = h0.size := ⟨_, rfl⟩
    rw [← g1] at A1 st1
    refine Gl.st st1 ?_
    have g_b1 : n0 ≤ b1 := Nat.le_trans Z0 (Nat.le_of_eq g1.symm)
    have sz_b1 : h0.size ≤ b1 := Nat.le_trans (Keep.refl h0 []).1 (Nat.le_of_eq g1.symm)
    have C_v1 : CHr Z consts_1 s.vm h0 s.vm h1 := C0.trans (CHr.ext E1 C0.1)
    have Z0_v1 : n0 ≤ h1.size := Nat.le_trans Z0 E1.1
    have f_hk_v1 : 0 ≤ h1.size := Nat.le_trans (Nat.zero_le _) E1.1
    have X00_v1 : Old Z n0 h1 := X00.ext E1
    have f_K_v1 : Keep h0 h1 [] := (Keep.refl h0 []).ext E1
    have V_b1 : Arv Z h1 b1 k1 .char (0 : Int32) [] (.int (0 : Int32)) := (Arv.new A1 (by decide)).pad (pad_rep [] (.int (0 : Int32)) 0)
    show Gl p e below P (T1.setTop (mkF m 9 #[.val (.int p1), .val (.int (0 : Int32)), .unset] [(.ref b1)]))
    refine Gl.st (fun _ k => XS.astoreN X1.here hx rfl (hb hby d36_9) rfl rfl (l' := #[.val (.int p1), .val (.int (0 : Int32)), .val (.ref b1)]) rfl k) ?_
    show Gl p e below P (T1.setTop (mkF m 10 #[.val (.int p1), .val (.int (0 : Int32)), .val (.ref b1)] []))
    refine Gl.st (fun _ k => XS.iloadN X1.here hx rfl (hb hby d36_10) rfl k) ?_
    show Gl p e below P (T1.setTop (mkF m 11 #[.val (.int p1), .val (.int (0 : Int32)), .val (.ref b1)] [(.int (0 : Int32))]))
    refine Gl.st (fun _ k => XS.ifYes X1.here hx rfl (pc0 := 11) (pc' := 23) rfl (hb hby d36_11) rfl ((if0 _ _).trans (flt (by decide : ¬ ((0 : Int32) < (0 : Int32)))).2.2.2) (by decide) (by decide) k) ?_
    show Gl p e below P (T1.setTop (mkF m 23 #[.val (.int p1), .val (.int (0 : Int32)), .val (.ref b1)] []))
    refine Gl.st (fun _ k => XS.iloadN X1.here hx rfl (hb hby d36_23) rfl k) ?_
    show Gl p e below P (T1.setTop (mkF m 24 #[.val (.int p1), .val (.int (0 : Int32)), .val (.ref b1)] [(.int (0 : Int32))]))
    refine Gl.st (fun _ k => XS.iconst X1.here hx rfl (hb hby d36_24) k) ?_
    show Gl p e below P (T1.setTop (mkF m 25 #[.val (.int p1), .val (.int (0 : Int32)), .val (.ref b1)] [(.int (1 : Int32)), (.int (0 : Int32))]))
    refine Gl.st (fun _ k => XS.icmpYes X1.here hx rfl (pc0 := 25) (pc' := 38) rfl (hb hby d36_25) rfl (flt (by decide : ¬ ((1 : Int32) < (0 : Int32)))).2.2.2 (by decide) (by decide) k) ?_
    show Gl p e below P (T1.setTop (mkF m 38 #[.val (.int p1), .val (.int (0 : Int32)), .val (.ref b1)] []))
    obtain ⟨T2, h2, X2, e2, E2, A2, D2, -, st2⟩ := newO X1 hx hZ0 hown0 (hw _ (List.mem_of_getElem? (i := 5) rfl)) (hw _ (List.mem_of_getElem? (i := 6) rfl)) (hw _ (List.mem_of_getElem? (i := 7) rfl)) e1 (g := (mkF m 38 #[.val (.int p1), .val (.int (0 : Int32)), .val (.ref b1)] [])) rfl (hb hby d36_38) (by decide) (by decide)
    obtain ⟨b2, g2⟩ : ∃ z, z = h1.size := ⟨_, rfl⟩
    rw [← g2] at A2 D2 st2
    refine Gl.st st2 ?_
    have g_b2 : n0 ≤ b2 := Nat.le_trans Z0_v1 (Nat.le_of_eq g2.symm)
    have sz_b2 : h0.size ≤ b2 := Nat.le_trans f_K_v1.1 (Nat.le_of_eq g2.symm)
    have ne_b1_b2 : b1 ≠ b2 := Nat.ne_of_lt (Nat.lt_of_lt_of_le V_b1.lt (Nat.le_of_eq g2.symm))
    have Sf_b2 : Safe Z consts_1 s.vm h1 b2 := Safe.new (Nat.le_of_eq g2.symm)
    have Sf_b2_v2 : Safe Z consts_1 s.vm h2 b2 := Safe.ext E2 C_v1.1 Sf_b2
    have C_v2 : CHr Z consts_1 s.vm h0 s.vm h2 := C_v1.trans (CHr.ext E2 C_v1.1)
    have Z0_v2 : n0 ≤ h2.size := Nat.le_trans Z0_v1 E2.1
    have f_hk_v2 : 0 ≤ h2.size := Nat.le_trans f_hk_v1 E2.1
    have X00_v2 : Old Z n0 h2 := X00_v1.ext E2
    have f_K_v2 : Keep h0 h2 [] := f_K_v1.ext E2
    have V_b1_v2 : Arv Z h2 b1 k1 .char (0 : Int32) [] (.int (0 : Int32)) := V_b1.ext E2
    have F_value_b2 : Fld Z h2 b2 "java/lang/String" "value" "[B" .null := D2 (Or.inr (hw _ (List.mem_of_getElem? (i := 20) rfl))) (ty := (.array .byte)) (by decide)
    have F_coder_b2 : Fld Z h2 b2 "java/lang/String" "coder" "B" (.int (0 : Int32)) := D2 (Or.inr (hw _ (List.mem_of_getElem? (i := 21) rfl))) (ty := .byte) (by decide)
    show Gl p e below P (T2.setTop (mkF m 41 #[.val (.int p1), .val (.int (0 : Int32)), .val (.ref b1)] [(.ref b2)]))
    refine Gl.st (fun _ k => XS.dup X2.here hx rfl (hb hby d36_41) rfl rfl k) ?_
    show Gl p e below P (T2.setTop (mkF m 42 #[.val (.int p1), .val (.int (0 : Int32)), .val (.ref b1)] [(.ref b2), (.ref b2)]))
    refine Gl.st (fun _ k => XS.aloadN X2.here hx rfl (hb hby d36_42) rfl rfl k) ?_
    show Gl p e below P (T2.setTop (mkF m 43 #[.val (.int p1), .val (.int (0 : Int32)), .val (.ref b1)] [(.ref b1), (.ref b2), (.ref b2)]))
    obtain ⟨_, _, ⟨T3, L3, k3, n3⟩, -, X3, hs3, hg3, ⟨Lc3, hQ3, l3, y3, z3, Cn3⟩, st3⟩ := X2.specialBackS hx (y := (⟨"java/lang/String", "<init>", "([C)V"⟩ : MethodName)) rfl hown0 (mvT hZ0 (hw _ (List.mem_of_getElem? (i := 8) rfl))) (mvT hZ0 (hw _ (List.mem_of_getElem? (i := 9) rfl))) (mvT hZ0 (hw _ (List.mem_of_getElem? (i := 10) rfl))) (by decide) (backOfSH (s := s) (W := 1) (rm35 l Z a0 hw [] b2 b1 k1 (.int (0 : Int32)) h2 n0 Z0_v2 A2 F_value_b2 F_coder_b2 g_b2 V_b1_v2) hZ0 (hw _ (List.mem_of_getElem? (i := 10) rfl)) (hw _ (List.mem_of_getElem? (i := 7) rfl)) (by decide) (by decide) hEL C_v2.1) (g := (mkF m 43 #[.val (.int p1), .val (.int (0 : Int32)), .val (.ref b1)] [(.ref b1), (.ref b2), (.ref b2)])) rfl (by rw [hml]; rfl) (Steps.refl _) (a := b2) (argsL := [(.ref b1)]) (rest := [(.ref b2)]) (lenOf pd_1 rfl) rfl (by show 2 * 0 + _ ≤ _; exact Nat.le_of_eq rfl) (hb hby d36_43) (fun _ _ => ⟨rfl, e2, (by decide : 2 + 4 ≤ _), (by decide : 4 + 8 ≤ _)⟩)
    dsimp only [Pt.U, Pt.locs, Pt.cells, Pt.slots] at X3 hs3 hg3 l3 y3 z3 st3 hQ3 Cn3
    subst l3 y3 z3
    obtain ⟨rfl, N3q, K3, tt3, kk3, R3a, R3b, R3c, R3d⟩ := hQ3
    have X3 : Stand p l e ({ frames := 4, cells := 6, slots := 12, locals := 66 } : Room) (s.setVm T3.vm) m _ below meth c T3 _ _ _ := X3
    have N3 := Fr.app N0 N3q
    have Z0_v3 : n0 ≤ T3.heap.size := Nat.le_trans Z0_v2 K3.1
    have f_hk_v3 : 0 ≤ T3.heap.size := Nat.le_trans f_hk_v2 K3.1
    have X00_v3 : Old Z n0 T3.heap := X00_v2.keep K3 (allS g_b2 all0)
    have f_K_v3 : Keep h0 T3.heap [] := f_K_v2.trans K3 (allS (Or.inr sz_b2) all0)
    have V_b1_v3 : Arv Z T3.heap b1 k1 .char (0 : Int32) [] (.int (0 : Int32)) := V_b1_v2.keep K3 (ninS ne_b1_b2 nin0)
    have A2_v3 : Exa Z T3.heap b2 "java/lang/String" := A2.keep K3
    have hS3 : s.Since T3.vm T3.heap.size := foldS hS0 (by rw [e2]; exact f_hk_v2) hs3 hg3
    have hZ3 : Z.Warmed39 (s.setVm T3.vm).vm := State.Warmed39.trans (t := s.setVm s.vm) hZ0 hs3.1
    have hown3 : (s.setVm T3.vm).vm.findClass "com/example/andersite/andersite/result/CallEdgeEqualsPinLaw" = some m.cls := by rw [show (s.setVm T3.vm).vm = T3.vm from rfl, hs3.1.alike.findClass]; exact hown0
    have Sf_b2_w3 : Safe Z consts_1 T3.vm T3.heap b2 := Cn3.safe A2.lt Sf_b2_v2
    have C_w3 : CHr Z consts_1 s.vm h0 T3.vm T3.heap := C_v2.trans Cn3
    refine Gl.tr st3 ?_
    show Gl p e below P (T3.setTop (mkF m 46 #[.val (.int p1), .val (.int (0 : Int32)), .val (.ref b1)] [(.ref b2)]))
    obtain ⟨fs, hr, hrun, hended, hRE⟩ := X3.leaveW hS3 (Nat.le_refl _) (v := some (.ref b2)) (fun h => by rw [Bd.returns] at h; cases h)
    refine ⟨_, _, retOut X3 hx Bd.returns rfl (Or.inr (Or.inr (Or.inr (Or.inr ⟨rfl, rfl, rfl⟩)))) (hb hby d36_46) hr, hrun, hended, hPost _ _ ⟨_, _, rfl, ?_, ?_, hRE.1, hRE.2.1, hRE.2.2.1, hRE.2.2.2.mono (by decide) (by decide)⟩⟩
    rotate_left
    · show CHr Z consts_1 s.vm s.heap T3.vm T3.heap
      rw [hh]
      exact C_w3.trans (CHv.at X3 hZ3 hEL C_w3.1)
    show Q36 Z p1 G1 h0 n0 _ T3.heap _
    exact ⟨N3, f_K_v3, _, rfl, by rw [hcs]; exact ⟨own_hp0, Nat.le_of_ble_eq_true rfl, tt3, kk3, R3a, R3b, R3c, R3d⟩⟩
  · rw [hq]
    show Gl p e below P (s₁.setTop (mkF m 5 #[.val (.int p1), .unset, .unset] [(.int (1 : Int32))]))
    have hcs : own_cs p1 = ([nar .char (own_chr ((p1.toUInt32 >>> ((2 : Int32) &&& 31).toUInt32).toInt32))] : List Int32) := by unfold own_cs; rw [hq]; rfl
    refine Gl.st (fun _ k => XS.istoreN X0.here hx rfl (hb hby d36_5) rfl (l' := #[.val (.int p1), .val (.int (1 : Int32)), .unset]) rfl k) ?_
    show Gl p e below P (s₁.setTop (mkF m 6 #[.val (.int p1), .val (.int (1 : Int32)), .unset] []))
    refine Gl.st (fun _ k => XS.iloadN X0.here hx rfl (hb hby d36_6) rfl k) ?_
    show Gl p e below P (s₁.setTop (mkF m 7 #[.val (.int p1), .val (.int (1 : Int32)), .unset] [(.int (1 : Int32))]))
    obtain ⟨T4, h4, k4, X4, e4, E4, A4, st4⟩ := newP X0 hx hZ0 (hw _ (List.mem_of_getElem? (i := 4) rfl)) e0 (g := (mkF m 7 #[.val (.int p1), .val (.int (1 : Int32)), .unset] [(.int (1 : Int32))])) rfl (hb hby d36_7) rfl (by decide) (cap := 1) (by decide) (by decide) (by decide) (by decide)
    obtain ⟨b4, g4⟩ : ∃ z, z = h0.size := ⟨_, rfl⟩
    rw [← g4] at A4 st4
    refine Gl.st st4 ?_
    have g_b4 : n0 ≤ b4 := Nat.le_trans Z0 (Nat.le_of_eq g4.symm)
    have sz_b4 : h0.size ≤ b4 := Nat.le_trans (Keep.refl h0 []).1 (Nat.le_of_eq g4.symm)
    have C_v4 : CHr Z consts_1 s.vm h0 s.vm h4 := C0.trans (CHr.ext E4 C0.1)
    have Z0_v4 : n0 ≤ h4.size := Nat.le_trans Z0 E4.1
    have f_hk_v4 : 0 ≤ h4.size := Nat.le_trans (Nat.zero_le _) E4.1
    have X00_v4 : Old Z n0 h4 := X00.ext E4
    have f_K_v4 : Keep h0 h4 [] := (Keep.refl h0 []).ext E4
    have V_b4 : Arv Z h4 b4 k4 .char (1 : Int32) [(.int (0 : Int32))] (.int (0 : Int32)) := (Arv.new A4 (by decide)).pad (pad_rep [] (.int (0 : Int32)) 1)
    show Gl p e below P (T4.setTop (mkF m 9 #[.val (.int p1), .val (.int (1 : Int32)), .unset] [(.ref b4)]))
    refine Gl.st (fun _ k => XS.astoreN X4.here hx rfl (hb hby d36_9) rfl rfl (l' := #[.val (.int p1), .val (.int (1 : Int32)), .val (.ref b4)]) rfl k) ?_
    show Gl p e below P (T4.setTop (mkF m 10 #[.val (.int p1), .val (.int (1 : Int32)), .val (.ref b4)] []))
    refine Gl.st (fun _ k => XS.iloadN X4.here hx rfl (hb hby d36_10) rfl k) ?_
    show Gl p e below P (T4.setTop (mkF m 11 #[.val (.int p1), .val (.int (1 : Int32)), .val (.ref b4)] [(.int (1 : Int32))]))
    refine Gl.st (fun _ k => XS.ifNo X4.here hx rfl (hb hby d36_11) rfl ((if0 _ _).trans (tlt (by decide : (0 : Int32) < (1 : Int32))).2.2.2) k) ?_
    show Gl p e below P (T4.setTop (mkF m 14 #[.val (.int p1), .val (.int (1 : Int32)), .val (.ref b4)] []))
    refine Gl.st (fun _ k => XS.aloadN X4.here hx rfl (hb hby d36_14) rfl rfl k) ?_
    show Gl p e below P (T4.setTop (mkF m 15 #[.val (.int p1), .val (.int (1 : Int32)), .val (.ref b4)] [(.ref b4)]))
    refine Gl.st (fun _ k => XS.iconst X4.here hx rfl (hb hby d36_15) k) ?_
    show Gl p e below P (T4.setTop (mkF m 16 #[.val (.int p1), .val (.int (1 : Int32)), .val (.ref b4)] [(.int (0 : Int32)), (.ref b4)]))
    refine Gl.st (fun _ k => XS.iloadN X4.here hx rfl (hb hby d36_16) rfl k) ?_
    show Gl p e below P (T4.setTop (mkF m 17 #[.val (.int p1), .val (.int (1 : Int32)), .val (.ref b4)] [(.int p1), (.int (0 : Int32)), (.ref b4)]))
    refine Gl.st (fun _ k => XS.iconst X4.here hx rfl (hb hby d36_17) k) ?_
    show Gl p e below P (T4.setTop (mkF m 18 #[.val (.int p1), .val (.int (1 : Int32)), .val (.ref b4)] [(.int (2 : Int32)), (.int p1), (.int (0 : Int32)), (.ref b4)]))
    refine Gl.st (fun _ k => XS.iushr X4.here hx rfl (hb hby d36_18) rfl k) ?_
    show Gl p e below P (T4.setTop (mkF m 19 #[.val (.int p1), .val (.int (1 : Int32)), .val (.ref b4)] [(.int ((p1.toUInt32 >>> ((2 : Int32) &&& 31).toUInt32).toInt32)), (.int (0 : Int32)), (.ref b4)]))
    obtain ⟨_, _, ⟨T5, L5, k5, n5⟩, -, X5, ⟨Lc5, hQ5, l5, y5, z5⟩, st5⟩ := Jvm.LawKit.callS X4 hx (y := (⟨"com/example/andersite/andersite/result/CallEdgeEqualsPinLaw", "ch", "(I)C"⟩ : MethodName)) hown0 (mvT hZ0 (hw _ (List.mem_of_getElem? (i := 44) rfl))) (mvT hZ0 (hw _ (List.mem_of_getElem? (i := 45) rfl))) (mvT hZ0 (hw _ (List.mem_of_getElem? (i := 2) rfl))) (mvT hZ0 (hw _ (List.mem_of_getElem? (i := 46) rfl))) (by decide) (backOf (W := 2) (rm20 l Z a0 hw [] ((p1.toUInt32 >>> ((2 : Int32) &&& 31).toUInt32).toInt32) h4 n0 Z0_v4) hZ0 (hw _ (List.mem_of_getElem? (i := 46) rfl)) (hw _ (List.mem_of_getElem? (i := 2) rfl)) (by decide) (by decide)) (g := (mkF m 19 #[.val (.int p1), .val (.int (1 : Int32)), .val (.ref b4)] [(.int ((p1.toUInt32 >>> ((2 : Int32) &&& 31).toUInt32).toInt32)), (.int (0 : Int32)), (.ref b4)])) rfl (by rw [hml]; rfl) (argsL := [(.int ((p1.toUInt32 >>> ((2 : Int32) &&& 31).toUInt32).toInt32))]) (rest := [(.int (0 : Int32)), (.ref b4)]) (lenOf pd_2 rfl) rfl (by show 2 * 0 + _ ≤ _; exact Nat.le_of_eq rfl) (hb hby d36_19) (fun _ _ => ⟨rfl, e4, (by decide : 1 + 0 ≤ _), (by decide : 1 + 0 ≤ _)⟩)
    dsimp only [Pt.U, Pt.locs, Pt.cells, Pt.slots] at X5 l5 y5 z5 st5 hQ5
    subst l5 y5 z5
    obtain ⟨rfl, N5q, e5⟩ := hQ5
    have N5 := Fr.app N0 N5q
    refine Gl.st st5 ?_
    show Gl p e below P (T5.setTop (mkF m 22 #[.val (.int p1), .val (.int (1 : Int32)), .val (.ref b4)] [(.int (own_chr ((p1.toUInt32 >>> ((2 : Int32) &&& 31).toUInt32).toInt32))), (.int (0 : Int32)), (.ref b4)]))
    obtain ⟨c6, Ar6, q6, S6, M6, H6, U6⟩ := id V_b4
    obtain ⟨T7, h7, X7, e7, W7, st7⟩ := stC X5 hx hZ0 e5 Ar6 (j := (0 : Int32)) (inb_of S6 ⟨(by decide : ¬ ((0 : Int32) < (0 : Int32))), (by decide : (0 : Int32) < (1 : Int32))⟩) (g := (mkF m 22 #[.val (.int p1), .val (.int (1 : Int32)), .val (.ref b4)] [(.int (own_chr ((p1.toUInt32 >>> ((2 : Int32) &&& 31).toUInt32).toInt32))), (.int (0 : Int32)), (.ref b4)])) rfl rfl (hb hby d36_22)
    refine Gl.st st7 ?_
    have C_v7 : CHr Z consts_1 s.vm h0 s.vm h7 := C_v4.trans (CHr.wr W7 (Safe.arv hZ0.alike V_b4 (by decide)) C_v4.1)
    have Z0_v7 : n0 ≤ h7.size := Nat.le_trans Z0_v4 (Keep.of_wr W7).1
    have f_hk_v7 : 0 ≤ h7.size := Nat.le_trans f_hk_v4 (Keep.of_wr W7).1
    have X00_v7 : Old Z n0 h7 := X00_v4.wr W7 g_b4
    have f_K_v7 : Keep h0 h7 [] := f_K_v4.wr W7 (Or.inr sz_b4)
    have V_b4_7 : Arv Z h7 b4 k4 .char (1 : Int32) [(.int (nar .char (own_chr ((p1.toUInt32 >>> ((2 : Int32) &&& 31).toUInt32).toInt32))))] (.int (0 : Int32)) := Arv.set Ar6 q6 S6 M6 H6 U6 (fits_nar_char _) W7 0 rfl (Nat.le_of_ble_eq_true rfl)
    have N7 := Fr.snoc X7 N5 g_b4
    show Gl p e below P (T7.setTop (mkF m 23 #[.val (.int p1), .val (.int (1 : Int32)), .val (.ref b4)] []))
    refine Gl.st (fun _ k => XS.iloadN X7.here hx rfl (hb hby d36_23) rfl k) ?_
    show Gl p e below P (T7.setTop (mkF m 24 #[.val (.int p1), .val (.int (1 : Int32)), .val (.ref b4)] [(.int (1 : Int32))]))
    refine Gl.st (fun _ k => XS.iconst X7.here hx rfl (hb hby d36_24) k) ?_
    show Gl p e below P (T7.setTop (mkF m 25 #[.val (.int p1), .val (.int (1 : Int32)), .val (.ref b4)] [(.int (1 : Int32)), (.int (1 : Int32))]))
    refine Gl.st (fun _ k => XS.icmpYes X7.here hx rfl (pc0 := 25) (pc' := 38) rfl (hb hby d36_25) rfl (flt (by decide : ¬ ((1 : Int32) < (1 : Int32)))).2.2.2 (by decide) (by decide) k) ?_
    show Gl p e below P (T7.setTop (mkF m 38 #[.val (.int p1), .val (.int (1 : Int32)), .val (.ref b4)] []))
    obtain ⟨T8, h8, X8, e8, E8, A8, D8, -, st8⟩ := newO X7 hx hZ0 hown0 (hw _ (List.mem_of_getElem? (i := 5) rfl)) (hw _ (List.mem_of_getElem? (i := 6) rfl)) (hw _ (List.mem_of_getElem? (i := 7) rfl)) e7 (g := (mkF m 38 #[.val (.int p1), .val (.int (1 : Int32)), .val (.ref b4)] [])) rfl (hb hby d36_38) (by decide) (by decide)
    obtain ⟨b8, g8⟩ : ∃ z, z = h7.size := ⟨_, rfl⟩
    rw [← g8] at A8 D8 st8
    refine Gl.st st8 ?_
    have g_b8 : n0 ≤ b8 := Nat.le_trans Z0_v7 (Nat.le_of_eq g8.symm)
    have sz_b8 : h0.size ≤ b8 := Nat.le_trans f_K_v7.1 (Nat.le_of_eq g8.symm)
    have ne_b4_b8 : b4 ≠ b8 := Nat.ne_of_lt (Nat.lt_of_lt_of_le V_b4_7.lt (Nat.le_of_eq g8.symm))
    have Sf_b8 : Safe Z consts_1 s.vm h7 b8 := Safe.new (Nat.le_of_eq g8.symm)
    have Sf_b8_v8 : Safe Z consts_1 s.vm h8 b8 := Safe.ext E8 C_v7.1 Sf_b8
    have C_v8 : CHr Z consts_1 s.vm h0 s.vm h8 := C_v7.trans (CHr.ext E8 C_v7.1)
    have Z0_v8 : n0 ≤ h8.size := Nat.le_trans Z0_v7 E8.1
    have f_hk_v8 : 0 ≤ h8.size := Nat.le_trans f_hk_v7 E8.1
    have X00_v8 : Old Z n0 h8 := X00_v7.ext E8
    have f_K_v8 : Keep h0 h8 [] := f_K_v7.ext E8
    have V_b4_7_v8 : Arv Z h8 b4 k4 .char (1 : Int32) [(.int (nar .char (own_chr ((p1.toUInt32 >>> ((2 : Int32) &&& 31).toUInt32).toInt32))))] (.int (0 : Int32)) := V_b4_7.ext E8
    have F_value_b8 : Fld Z h8 b8 "java/lang/String" "value" "[B" .null := D8 (Or.inr (hw _ (List.mem_of_getElem? (i := 20) rfl))) (ty := (.array .byte)) (by decide)
    have F_coder_b8 : Fld Z h8 b8 "java/lang/String" "coder" "B" (.int (0 : Int32)) := D8 (Or.inr (hw _ (List.mem_of_getElem? (i := 21) rfl))) (ty := .byte) (by decide)
    show Gl p e below P (T8.setTop (mkF m 41 #[.val (.int p1), .val (.int (1 : Int32)), .val (.ref b4)] [(.ref b8)]))
    refine Gl.st (fun _ k => XS.dup X8.here hx rfl (hb hby d36_41) rfl rfl k) ?_
    show Gl p e below P (T8.setTop (mkF m 42 #[.val (.int p1), .val (.int (1 : Int32)), .val (.ref b4)] [(.ref b8), (.ref b8)]))
    refine Gl.st (fun _ k => XS.aloadN X8.here hx rfl (hb hby d36_42) rfl rfl k) ?_
    show Gl p e below P (T8.setTop (mkF m 43 #[.val (.int p1), .val (.int (1 : Int32)), .val (.ref b4)] [(.ref b4), (.ref b8), (.ref b8)]))
    obtain ⟨_, _, ⟨T9, L9, k9, n9⟩, -, X9, ⟨Lc9, hQ9, l9, y9, z9⟩, st9⟩ := X8.specialBack hx (y := (⟨"java/lang/String", "<init>", "([C)V"⟩ : MethodName)) rfl hown0 (mvT hZ0 (hw _ (List.mem_of_getElem? (i := 8) rfl))) (mvT hZ0 (hw _ (List.mem_of_getElem? (i := 9) rfl))) (mvT hZ0 (hw _ (List.mem_of_getElem? (i := 10) rfl))) (by decide) (StrChars.Road.backV (W := 1) hZ0 hws (kI := 4) (hw _ (List.mem_of_getElem? (i := 6) rfl)) (cs := ([(nar .char (own_chr ((p1.toUInt32 >>> ((2 : Int32) &&& 31).toUInt32).toInt32)))] : List Int32)) (bs := (([(nar .char (own_chr ((p1.toUInt32 >>> ((2 : Int32) &&& 31).toUInt32).toInt32)))] : List Int32)).map (fun c => c.toInt8.toInt32)) (n := 1) g_b8 Z0_v8 A8 F_value_b8 F_coder_b8 V_b4_7_v8 (O2.ext X00_v8.2) P5 rfl rfl (by decide) (by decide) (own_hpS (own_chr_hp _) own_hp0) rfl (by decide) (by decide)) (g := (mkF m 43 #[.val (.int p1), .val (.int (1 : Int32)), .val (.ref b4)] [(.ref b4), (.ref b8), (.ref b8)])) rfl (by rw [hml]; rfl) (Steps.refl _) (a := b8) (argsL := [(.ref b4)]) (rest := [(.ref b8)]) (lenOf pd_1 rfl) rfl (by show 2 * 0 + _ ≤ _; exact Nat.le_of_eq rfl) (hb hby d36_43) (fun _ _ => ⟨rfl, e8, (by decide : 2 + 1 ≤ _), (by decide : 5 + 1 ≤ _)⟩)
    dsimp only [Pt.U, Pt.locs, Pt.cells, Pt.slots] at X9 l9 y9 z9 st9 hQ9
    subst l9 y9 z9
    obtain ⟨rfl, N9q, K9, E9x, C9x, t9, kb9, u9, v9, w9, V9x, A9x⟩ := hQ9
    have N9 := Fr.app N7 N9q
    have Sf_b8_v9 : Safe Z consts_1 s.vm T9.heap b8 := Safe.keep K9 (sfS Sf_b8_v8 sf0) C_v8.1 Sf_b8_v8
    have C_v9 : CHr Z consts_1 s.vm h0 s.vm T9.heap := C_v8.trans (CHr.keep K9 (sfS Sf_b8_v8 sf0) C_v8.1)
    have Z0_v9 : n0 ≤ T9.heap.size := Nat.le_trans Z0_v8 K9.1
    have f_hk_v9 : 0 ≤ T9.heap.size := Nat.le_trans f_hk_v8 K9.1
    have X00_v9 : Old Z n0 T9.heap := X00_v8.keep K9 (allS g_b8 all0)
    have f_K_v9 : Keep h0 T9.heap [] := f_K_v8.trans K9 (allS (Or.inr sz_b8) all0)
    have V_b4_7_v9 : Arv Z T9.heap b4 k4 .char (1 : Int32) [(.int (nar .char (own_chr ((p1.toUInt32 >>> ((2 : Int32) &&& 31).toUInt32).toInt32))))] (.int (0 : Int32)) := V_b4_7_v8.keep K9 (ninS ne_b4_b8 nin0)
    have A8_v9 : Exa Z T9.heap b8 "java/lang/String" := A8.keep K9
    refine Gl.tr st9 ?_
    show Gl p e below P (T9.setTop (mkF m 46 #[.val (.int p1), .val (.int (1 : Int32)), .val (.ref b4)] [(.ref b8)]))
    obtain ⟨fs, hr, hrun, hended, hRE⟩ := X9.leaveW hS0 f_hk_v9 (v := some (.ref b8)) (fun h => by rw [Bd.returns] at h; cases h)
    refine ⟨_, _, retOut X9 hx Bd.returns rfl (Or.inr (Or.inr (Or.inr (Or.inr ⟨rfl, rfl, rfl⟩)))) (hb hby d36_46) hr, hrun, hended, hPost _ _ ⟨_, _, rfl, ?_, ?_, hRE.1, hRE.2.1, hRE.2.2.1, hRE.2.2.2.mono (by decide) (by decide)⟩⟩
    rotate_left
    · show CHr Z consts_1 s.vm s.heap T9.vm T9.heap
      rw [hh]
      exact C_v9.trans (CHv.at X9 hZ0 hEL C_v9.1)
    show Q36 Z p1 G1 h0 n0 _ T9.heap _
    exact ⟨N9, f_K_v9, _, rfl, by rw [hcs]; exact ⟨(own_hpS (own_chr_hp _) own_hp0), Nat.le_of_ble_eq_true rfl, t9, kb9, E9x, C9x, V9x, A9x⟩⟩
  · rw [hq]
    show Gl p e below P (s₁.setTop (mkF m 5 #[.val (.int p1), .unset, .unset] [(.int (2 : Int32))]))
    have hcs : own_cs p1 = ([nar .char (own_chr ((p1.toUInt32 >>> ((2 : Int32) &&& 31).toUInt32).toInt32)), nar .char (own_chr ((p1.toUInt32 >>> ((11 : Int32) &&& 31).toUInt32).toInt32))] : List Int32) := by unfold own_cs; rw [hq]; rfl
    refine Gl.st (fun _ k => XS.istoreN X0.here hx rfl (hb hby d36_5) rfl (l' := #[.val (.int p1), .val (.int (2 : Int32)), .unset]) rfl k) ?_
    show Gl p e below P (s₁.setTop (mkF m 6 #[.val (.int p1), .val (.int (2 : Int32)), .unset] []))
    refine Gl.st (fun _ k => XS.iloadN X0.here hx rfl (hb hby d36_6) rfl k) ?_
    show Gl p e below P (s₁.setTop (mkF m 7 #[.val (.int p1), .val (.int (2 : Int32)), .unset] [(.int (2 : Int32))]))
    obtain ⟨T10, h10, k10, X10, e10, E10, A10, st10⟩ := newP X0 hx hZ0 (hw _ (List.mem_of_getElem? (i := 4) rfl)) e0 (g := (mkF m 7 #[.val (.int p1), .val (.int (2 : Int32)), .unset] [(.int (2 : Int32))])) rfl (hb hby d36_7) rfl (by decide) (cap := 2) (by decide) (by decide) (by decide) (by decide)
    obtain ⟨b10, g10⟩ : ∃ z, z = h0.size := ⟨_, rfl⟩
    rw [← g10] at A10 st10
    refine Gl.st st10 ?_
    have g_b10 : n0 ≤ b10 := Nat.le_trans Z0 (Nat.le_of_eq g10.symm)
    have sz_b10 : h0.size ≤ b10 := Nat.le_trans (Keep.refl h0 []).1 (Nat.le_of_eq g10.symm)
    have C_v10 : CHr Z consts_1 s.vm h0 s.vm h10 := C0.trans (CHr.ext E10 C0.1)
    have Z0_v10 : n0 ≤ h10.size := Nat.le_trans Z0 E10.1
    have f_hk_v10 : 0 ≤ h10.size := Nat.le_trans (Nat.zero_le _) E10.1
    have X00_v10 : Old Z n0 h10 := X00.ext E10
    have f_K_v10 : Keep h0 h10 [] := (Keep.refl h0 []).ext E10
    have V_b10 : Arv Z h10 b10 k10 .char (2 : Int32) [(.int (0 : Int32)), (.int (0 : Int32))] (.int (0 : Int32)) := (Arv.new A10 (by decide)).pad (pad_rep [] (.int (0 : Int32)) 2)
    show Gl p e below P (T10.setTop (mkF m 9 #[.val (.int p1), .val (.int (2 : Int32)), .unset] [(.ref b10)]))
    refine Gl.st (fun _ k => XS.astoreN X10.here hx rfl (hb hby d36_9) rfl rfl (l' := #[.val (.int p1), .val (.int (2 : Int32)), .val (.ref b10)]) rfl k) ?_
    show Gl p e below P (T10.setTop (mkF m 10 #[.val (.int p1), .val (.int (2 : Int32)), .val (.ref b10)] []))
    refine Gl.st (fun _ k => XS.iloadN X10.here hx rfl (hb hby d36_10) rfl k) ?_
    show Gl p e below P (T10.setTop (mkF m 11 #[.val (.int p1), .val (.int (2 : Int32)), .val (.ref b10)] [(.int (2 : Int32))]))
    refine Gl.st (fun _ k => XS.ifNo X10.here hx rfl (hb hby d36_11) rfl ((if0 _ _).trans (tlt (by decide : (0 : Int32) < (2 : Int32))).2.2.2) k) ?_
    show Gl p e below P (T10.setTop (mkF m 14 #[.val (.int p1), .val (.int (2 : Int32)), .val (.ref b10)] []))
    refine Gl.st (fun _ k => XS.aloadN X10.here hx rfl (hb hby d36_14) rfl rfl k) ?_
    show Gl p e below P (T10.setTop (mkF m 15 #[.val (.int p1), .val (.int (2 : Int32)), .val (.ref b10)] [(.ref b10)]))
    refine Gl.st (fun _ k => XS.iconst X10.here hx rfl (hb hby d36_15) k) ?_
    show Gl p e below P (T10.setTop (mkF m 16 #[.val (.int p1), .val (.int (2 : Int32)), .val (.ref b10)] [(.int (0 : Int32)), (.ref b10)]))
    refine Gl.st (fun _ k => XS.iloadN X10.here hx rfl (hb hby d36_16) rfl k) ?_
    show Gl p e below P (T10.setTop (mkF m 17 #[.val (.int p1), .val (.int (2 : Int32)), .val (.ref b10)] [(.int p1), (.int (0 : Int32)), (.ref b10)]))
    refine Gl.st (fun _ k => XS.iconst X10.here hx rfl (hb hby d36_17) k) ?_
    show Gl p e below P (T10.setTop (mkF m 18 #[.val (.int p1), .val (.int (2 : Int32)), .val (.ref b10)] [(.int (2 : Int32)), (.int p1), (.int (0 : Int32)), (.ref b10)]))
    refine Gl.st (fun _ k => XS.iushr X10.here hx rfl (hb hby d36_18) rfl k) ?_
    show Gl p e below P (T10.setTop (mkF m 19 #[.val (.int p1), .val (.int (2 : Int32)), .val (.ref b10)] [(.int ((p1.toUInt32 >>> ((2 : Int32) &&& 31).toUInt32).toInt32)), (.int (0 : Int32)), (.ref b10)]))
    obtain ⟨_, _, ⟨T11, L11, k11, n11⟩, -, X11, ⟨Lc11, hQ11, l11, y11, z11⟩, st11⟩ := Jvm.LawKit.callS X10 hx (y := (⟨"com/example/andersite/andersite/result/CallEdgeEqualsPinLaw", "ch", "(I)C"⟩ : MethodName)) hown0 (mvT hZ0 (hw _ (List.mem_of_getElem? (i := 44) rfl))) (mvT hZ0 (hw _ (List.mem_of_getElem? (i := 45) rfl))) (mvT hZ0 (hw _ (List.mem_of_getElem? (i := 2) rfl))) (mvT hZ0 (hw _ (List.mem_of_getElem? (i := 46) rfl))) (by decide) (backOf (W := 2) (rm20 l Z a0 hw [] ((p1.toUInt32 >>> ((2 : Int32) &&& 31).toUInt32).toInt32) h10 n0 Z0_v10) hZ0 (hw _ (List.mem_of_getElem? (i := 46) rfl)) (hw _ (List.mem_of_getElem? (i := 2) rfl)) (by decide) (by decide)) (g := (mkF m 19 #[.val (.int p1), .val (.int (2 : Int32)), .val (.ref b10)] [(.int ((p1.toUInt32 >>> ((2 : Int32) &&& 31).toUInt32).toInt32)), (.int (0 : Int32)), (.ref b10)])) rfl (by rw [hml]; rfl) (argsL := [(.int ((p1.toUInt32 >>> ((2 : Int32) &&& 31).toUInt32).toInt32))]) (rest := [(.int (0 : Int32)), (.ref b10)]) (lenOf pd_2 rfl) rfl (by show 2 * 0 + _ ≤ _; exact Nat.le_of_eq rfl) (hb hby d36_19) (fun _ _ => ⟨rfl, e10, (by decide : 1 + 0 ≤ _), (by decide : 2 + 0 ≤ _)⟩)
    dsimp only [Pt.U, Pt.locs, Pt.cells, Pt.slots] at X11 l11 y11 z11 st11 hQ11
    subst l11 y11 z11
    obtain ⟨rfl, N11q, e11⟩ := hQ11
    have N11 := Fr.app N0 N11q
    refine Gl.st st11 ?_
    show Gl p e below P (T11.setTop (mkF m 22 #[.val (.int p1), .val (.int (2 : Int32)), .val (.ref b10)] [(.int (own_chr ((p1.toUInt32 >>> ((2 : Int32) &&& 31).toUInt32).toInt32))), (.int (0 : Int32)), (.ref b10)]))
    obtain ⟨c12, Ar12, q12, S12, M12, H12, U12⟩ := id V_b10
    obtain ⟨T13, h13, X13, e13, W13, st13⟩ := stC X11 hx hZ0 e11 Ar12 (j := (0 : Int32)) (inb_of S12 ⟨(by decide : ¬ ((0 : Int32) < (0 : Int32))), (by decide : (0 : Int32) < (2 : Int32))⟩) (g := (mkF m 22 #[.val (.int p1), .val (.int (2 : Int32)), .val (.ref b10)] [(.int (own_chr ((p1.toUInt32 >>> ((2 : Int32) &&& 31).toUInt32).toInt32))), (.int (0 : Int32)), (.ref b10)])) rfl rfl (hb hby d36_22)
    refine Gl.st st13 ?_
    have C_v13 : CHr Z consts_1 s.vm h0 s.vm h13 := C_v10.trans (CHr.wr W13 (Safe.arv hZ0.alike V_b10 (by decide)) C_v10.1)
    have Z0_v13 : n0 ≤ h13.size := Nat.le_trans Z0_v10 (Keep.of_wr W13).1
    have f_hk_v13 : 0 ≤ h13.size := Nat.le_trans f_hk_v10 (Keep.of_wr W13).1
    have X00_v13 : Old Z n0 h13 := X00_v10.wr W13 g_b10
    have f_K_v13 : Keep h0 h13 [] := f_K_v10.wr W13 (Or.inr sz_b10)
    have V_b10_13 : Arv Z h13 b10 k10 .char (2 : Int32) [(.int (nar .char (own_chr ((p1.toUInt32 >>> ((2 : Int32) &&& 31).toUInt32).toInt32)))), (.int (0 : Int32))] (.int (0 : Int32)) := Arv.set Ar12 q12 S12 M12 H12 U12 (fits_nar_char _) W13 0 rfl (Nat.le_of_ble_eq_true rfl)
    have N13 := Fr.snoc X13 N11 g_b10
    show Gl p e below P (T13.setTop (mkF m 23 #[.val (.int p1), .val (.int (2 : Int32)), .val (.ref b10)] []))
    refine Gl.st (fun _ k => XS.iloadN X13.here hx rfl (hb hby d36_23) rfl k) ?_
    show Gl p e below P (T13.setTop (mkF m 24 #[.val (.int p1), .val (.int (2 : Int32)), .val (.ref b10)] [(.int (2 : Int32))]))
    refine Gl.st (fun _ k => XS.iconst X13.here hx rfl (hb hby d36_24) k) ?_
    show Gl p e below P (T13.setTop (mkF m 25 #[.val (.int p1), .val (.int (2 : Int32)), .val (.ref b10)] [(.int (1 : Int32)), (.int (2 : Int32))]))
    refine Gl.st (fun _ k => XS.icmpNo X13.here hx rfl (hb hby d36_25) rfl (tlt (by decide : (1 : Int32) < (2 : Int32))).2.2.2 k) ?_
    show Gl p e below P (T13.setTop (mkF m 28 #[.val (.int p1), .val (.int (2 : Int32)), .val (.ref b10)] []))
    refine Gl.st (fun _ k => XS.aloadN X13.here hx rfl (hb hby d36_28) rfl rfl k) ?_
    show Gl p e below P (T13.setTop (mkF m 29 #[.val (.int p1), .val (.int (2 : Int32)), .val (.ref b10)] [(.ref b10)]))
    refine Gl.st (fun _ k => XS.iconst X13.here hx rfl (hb hby d36_29) k) ?_
    show Gl p e below P (T13.setTop (mkF m 30 #[.val (.int p1), .val (.int (2 : Int32)), .val (.ref b10)] [(.int (1 : Int32)), (.ref b10)]))
    refine Gl.st (fun _ k => XS.iloadN X13.here hx rfl (hb hby d36_30) rfl k) ?_
    show Gl p e below P (T13.setTop (mkF m 31 #[.val (.int p1), .val (.int (2 : Int32)), .val (.ref b10)] [(.int p1), (.int (1 : Int32)), (.ref b10)]))
    refine Gl.st (fun _ k => XS.bipush X13.here hx rfl (hb hby d36_31) k) ?_
    show Gl p e below P (T13.setTop (mkF m 33 #[.val (.int p1), .val (.int (2 : Int32)), .val (.ref b10)] [(.int (11 : Int32)), (.int p1), (.int (1 : Int32)), (.ref b10)]))
    refine Gl.st (fun _ k => XS.iushr X13.here hx rfl (hb hby d36_33) rfl k) ?_
    show Gl p e below P (T13.setTop (mkF m 34 #[.val (.int p1), .val (.int (2 : Int32)), .val (.ref b10)] [(.int ((p1.toUInt32 >>> ((11 : Int32) &&& 31).toUInt32).toInt32)), (.int (1 : Int32)), (.ref b10)]))
    obtain ⟨_, _, ⟨T14, L14, k14, n14⟩, -, X14, ⟨Lc14, hQ14, l14, y14, z14⟩, st14⟩ := Jvm.LawKit.callS X13 hx (y := (⟨"com/example/andersite/andersite/result/CallEdgeEqualsPinLaw", "ch", "(I)C"⟩ : MethodName)) hown0 (mvT hZ0 (hw _ (List.mem_of_getElem? (i := 44) rfl))) (mvT hZ0 (hw _ (List.mem_of_getElem? (i := 45) rfl))) (mvT hZ0 (hw _ (List.mem_of_getElem? (i := 2) rfl))) (mvT hZ0 (hw _ (List.mem_of_getElem? (i := 46) rfl))) (by decide) (backOf (W := 2) (rm20 l Z a0 hw [] ((p1.toUInt32 >>> ((11 : Int32) &&& 31).toUInt32).toInt32) h13 n0 Z0_v13) hZ0 (hw _ (List.mem_of_getElem? (i := 46) rfl)) (hw _ (List.mem_of_getElem? (i := 2) rfl)) (by decide) (by decide)) (g := (mkF m 34 #[.val (.int p1), .val (.int (2 : Int32)), .val (.ref b10)] [(.int ((p1.toUInt32 >>> ((11 : Int32) &&& 31).toUInt32).toInt32)), (.int (1 : Int32)), (.ref b10)])) rfl (by rw [hml]; rfl) (argsL := [(.int ((p1.toUInt32 >>> ((11 : Int32) &&& 31).toUInt32).toInt32))]) (rest := [(.int (1 : Int32)), (.ref b10)]) (lenOf pd_2 rfl) rfl (by show 2 * 0 + _ ≤ _; exact Nat.le_of_eq rfl) (hb hby d36_34) (fun _ _ => ⟨rfl, e13, (by decide : 1 + 0 ≤ _), (by decide : 2 + 0 ≤ _)⟩)
    dsimp only [Pt.U, Pt.locs, Pt.cells, Pt.slots] at X14 l14 y14 z14 st14 hQ14
    subst l14 y14 z14
    obtain ⟨rfl, N14q, e14⟩ := hQ14
    have N14 := Fr.app N13 N14q
    refine Gl.st st14 ?_
    show Gl p e below P (T14.setTop (mkF m 37 #[.val (.int p1), .val (.int (2 : Int32)), .val (.ref b10)] [(.int (own_chr ((p1.toUInt32 >>> ((11 : Int32) &&& 31).toUInt32).toInt32))), (.int (1 : Int32)), (.ref b10)]))
    obtain ⟨c15, Ar15, q15, S15, M15, H15, U15⟩ := id V_b10_13
    obtain ⟨T16, h16, X16, e16, W16, st16⟩ := stC X14 hx hZ0 e14 Ar15 (j := (1 : Int32)) (inb_of S15 ⟨(by decide : ¬ ((1 : Int32) < (0 : Int32))), (by decide : (1 : Int32) < (2 : Int32))⟩) (g := (mkF m 37 #[.val (.int p1), .val (.int (2 : Int32)), .val (.ref b10)] [(.int (own_chr ((p1.toUInt32 >>> ((11 : Int32) &&& 31).toUInt32).toInt32))), (.int (1 : Int32)), (.ref b10)])) rfl rfl (hb hby d36_37)
    refine Gl.st st16 ?_
    have C_v16 : CHr Z consts_1 s.vm h0 s.vm h16 := C_v13.trans (CHr.wr W16 (Safe.arv hZ0.alike V_b10_13 (by decide)) C_v13.1)
    have Z0_v16 : n0 ≤ h16.size := Nat.le_trans Z0_v13 (Keep.of_wr W16).1
    have f_hk_v16 : 0 ≤ h16.size := Nat.le_trans f_hk_v13 (Keep.of_wr W16).1
    have X00_v16 : Old Z n0 h16 := X00_v13.wr W16 g_b10
    have f_K_v16 : Keep h0 h16 [] := f_K_v13.wr W16 (Or.inr sz_b10)
    have V_b10_16 : Arv Z h16 b10 k10 .char (2 : Int32) [(.int (nar .char (own_chr ((p1.toUInt32 >>> ((2 : Int32) &&& 31).toUInt32).toInt32)))), (.int (nar .char (own_chr ((p1.toUInt32 >>> ((11 : Int32) &&& 31).toUInt32).toInt32))))] (.int (0 : Int32)) := Arv.set Ar15 q15 S15 M15 H15 U15 (fits_nar_char _) W16 1 rfl (Nat.le_of_ble_eq_true rfl)
    have N16 := Fr.snoc X16 N14 g_b10
    show Gl p e below P (T16.setTop (mkF m 38 #[.val (.int p1), .val (.int (2 : Int32)), .val (.ref b10)] []))
    obtain ⟨T17, h17, X17, e17, E17, A17, D17, -, st17⟩ := newO X16 hx hZ0 hown0 (hw _ (List.mem_of_getElem? (i := 5) rfl)) (hw _ (List.mem_of_getElem? (i := 6) rfl)) (hw _ (List.mem_of_getElem? (i := 7) rfl)) e16 (g := (mkF m 38 #[.val (.int p1), .val (.int (2 : Int32)), .val (.ref b10)] [])) rfl (hb hby d36_38) (by decide) (by decide)
    obtain ⟨b17, g17⟩ : ∃ z, z = h16.size := ⟨_, rfl⟩
    rw [← g17] at A17 D17 st17
    refine Gl.st st17 ?_
    have g_b17 : n0 ≤ b17 := Nat.le_trans Z0_v16 (Nat.le_of_eq g17.symm)
    have sz_b17 : h0.size ≤ b17 := Nat.le_trans f_K_v16.1 (Nat.le_of_eq g17.symm)
    have ne_b10_b17 : b10 ≠ b17 := Nat.ne_of_lt (Nat.lt_of_lt_of_le V_b10_16.lt (Nat.le_of_eq g17.symm))
    have Sf_b17 : Safe Z consts_1 s.vm h16 b17 := Safe.new (Nat.le_of_eq g17.symm)
    have Sf_b17_v17 : Safe Z consts_1 s.vm h17 b17 := Safe.ext E17 C_v16.1 Sf_b17
    have C_v17 : CHr Z consts_1 s.vm h0 s.vm h17 := C_v16.trans (CHr.ext E17 C_v16.1)
    have Z0_v17 : n0 ≤ h17.size := Nat.le_trans Z0_v16 E17.1
    have f_hk_v17 : 0 ≤ h17.size := Nat.le_trans f_hk_v16 E17.1
    have X00_v17 : Old Z n0 h17 := X00_v16.ext E17
    have f_K_v17 : Keep h0 h17 [] := f_K_v16.ext E17
    have V_b10_16_v17 : Arv Z h17 b10 k10 .char (2 : Int32) [(.int (nar .char (own_chr ((p1.toUInt32 >>> ((2 : Int32) &&& 31).toUInt32).toInt32)))), (.int (nar .char (own_chr ((p1.toUInt32 >>> ((11 : Int32) &&& 31).toUInt32).toInt32))))] (.int (0 : Int32)) := V_b10_16.ext E17
    have F_value_b17 : Fld Z h17 b17 "java/lang/String" "value" "[B" .null := D17 (Or.inr (hw _ (List.mem_of_getElem? (i := 20) rfl))) (ty := (.array .byte)) (by decide)
    have F_coder_b17 : Fld Z h17 b17 "java/lang/String" "coder" "B" (.int (0 : Int32)) := D17 (Or.inr (hw _ (List.mem_of_getElem? (i := 21) rfl))) (ty := .byte) (by decide)
    show Gl p e below P (T17.setTop (mkF m 41 #[.val (.int p1), .val (.int (2 : Int32)), .val (.ref b10)] [(.ref b17)]))
    refine Gl.st (fun _ k => XS.dup X17.here hx rfl (hb hby d36_41) rfl rfl k) ?_
    show Gl p e below P (T17.setTop (mkF m 42 #[.val (.int p1), .val (.int (2 : Int32)), .val (.ref b10)] [(.ref b17), (.ref b17)]))
    refine Gl.st (fun _ k => XS.aloadN X17.here hx rfl (hb hby d36_42) rfl rfl k) ?_
    show Gl p e below P (T17.setTop (mkF m 43 #[.val (.int p1), .val (.int (2 : Int32)), .val (.ref b10)] [(.ref b10), (.ref b17), (.ref b17)]))
    obtain ⟨_, _, ⟨T18, L18, k18, n18⟩, -, X18, ⟨Lc18, hQ18, l18, y18, z18⟩, st18⟩ := X17.specialBack hx (y := (⟨"java/lang/String", "<init>", "([C)V"⟩ : MethodName)) rfl hown0 (mvT hZ0 (hw _ (List.mem_of_getElem? (i := 8) rfl))) (mvT hZ0 (hw _ (List.mem_of_getElem? (i := 9) rfl))) (mvT hZ0 (hw _ (List.mem_of_getElem? (i := 10) rfl))) (by decide) (StrChars.Road.backV (W := 1) hZ0 hws (kI := 4) (hw _ (List.mem_of_getElem? (i := 6) rfl)) (cs := ([(nar .char (own_chr ((p1.toUInt32 >>> ((2 : Int32) &&& 31).toUInt32).toInt32))), (nar .char (own_chr ((p1.toUInt32 >>> ((11 : Int32) &&& 31).toUInt32).toInt32)))] : List Int32)) (bs := (([(nar .char (own_chr ((p1.toUInt32 >>> ((2 : Int32) &&& 31).toUInt32).toInt32))), (nar .char (own_chr ((p1.toUInt32 >>> ((11 : Int32) &&& 31).toUInt32).toInt32)))] : List Int32)).map (fun c => c.toInt8.toInt32)) (n := 2) g_b17 Z0_v17 A17 F_value_b17 F_coder_b17 V_b10_16_v17 (O2.ext X00_v17.2) P5 rfl rfl (by decide) (by decide) (own_hpS (own_chr_hp _) (own_hpS (own_chr_hp _) own_hp0)) rfl (by decide) (by decide)) (g := (mkF m 43 #[.val (.int p1), .val (.int (2 : Int32)), .val (.ref b10)] [(.ref b10), (.ref b17), (.ref b17)])) rfl (by rw [hml]; rfl) (Steps.refl _) (a := b17) (argsL := [(.ref b10)]) (rest := [(.ref b17)]) (lenOf pd_1 rfl) rfl (by show 2 * 0 + _ ≤ _; exact Nat.le_of_eq rfl) (hb hby d36_43) (fun _ _ => ⟨rfl, e17, (by decide : 2 + 1 ≤ _), (by decide : 6 + 2 ≤ _)⟩)
    dsimp only [Pt.U, Pt.locs, Pt.cells, Pt.slots] at X18 l18 y18 z18 st18 hQ18
    subst l18 y18 z18
    obtain ⟨rfl, N18q, K18, E18x, C18x, t18, kb18, u18, v18, w18, V18x, A18x⟩ := hQ18
    have N18 := Fr.app N16 N18q
    have Sf_b17_v18 : Safe Z consts_1 s.vm T18.heap b17 := Safe.keep K18 (sfS Sf_b17_v17 sf0) C_v17.1 Sf_b17_v17
    have C_v18 : CHr Z consts_1 s.vm h0 s.vm T18.heap := C_v17.trans (CHr.keep K18 (sfS Sf_b17_v17 sf0) C_v17.1)
    have Z0_v18 : n0 ≤ T18.heap.size := Nat.le_trans Z0_v17 K18.1
    have f_hk_v18 : 0 ≤ T18.heap.size := Nat.le_trans f_hk_v17 K18.1
    have X00_v18 : Old Z n0 T18.heap := X00_v17.keep K18 (allS g_b17 all0)
    have f_K_v18 : Keep h0 T18.heap [] := f_K_v17.trans K18 (allS (Or.inr sz_b17) all0)
    have V_b10_16_v18 : Arv Z T18.heap b10 k10 .char (2 : Int32) [(.int (nar .char (own_chr ((p1.toUInt32 >>> ((2 : Int32) &&& 31).toUInt32).toInt32)))), (.int (nar .char (own_chr ((p1.toUInt32 >>> ((11 : Int32) &&& 31).toUInt32).toInt32))))] (.int (0 : Int32)) := V_b10_16_v17.keep K18 (ninS ne_b10_b17 nin0)
    have A17_v18 : Exa Z T18.heap b17 "java/lang/String" := A17.keep K18
    refine Gl.tr st18 ?_
    show Gl p e below P (T18.setTop (mkF m 46 #[.val (.int p1), .val (.int (2 : Int32)), .val (.ref b10)] [(.ref b17)]))
    obtain ⟨fs, hr, hrun, hended, hRE⟩ := X18.leaveW hS0 f_hk_v18 (v := some (.ref b17)) (fun h => by rw [Bd.returns] at h; cases h)
    refine ⟨_, _, retOut X18 hx Bd.returns rfl (Or.inr (Or.inr (Or.inr (Or.inr ⟨rfl, rfl, rfl⟩)))) (hb hby d36_46) hr, hrun, hended, hPost _ _ ⟨_, _, rfl, ?_, ?_, hRE.1, hRE.2.1, hRE.2.2.1, hRE.2.2.2.mono (by decide) (by decide)⟩⟩
    rotate_left
    · show CHr Z consts_1 s.vm s.heap T18.vm T18.heap
      rw [hh]
      exact C_v18.trans (CHv.at X18 hZ0 hEL C_v18.1)
    show Q36 Z p1 G1 h0 n0 _ T18.heap _
    exact ⟨N18, f_K_v18, _, rfl, by rw [hcs]; exact ⟨(own_hpS (own_chr_hp _) (own_hpS (own_chr_hp _) own_hp0)), Nat.le_of_ble_eq_true rfl, t18, kb18, E18x, C18x, V18x, A18x⟩⟩
theorem pn_37 : plainName "java/util/Objects" = true := by first | (simp [plainName, overriddenIn]; done) | decide +kernel
theorem ef_37 (m : MethodId) (x0 : Addr) (x1 : Addr) : entryFrame m #[(.ref x0), (.ref x1)] 2 = mkF m 0 #[.val (.ref x0), .val (.ref x1)] [] := by first | (simp [entryFrame, mkF, argsToLocals, Value.category]; done) | rfl
def Q37 (Z : State) (a1 : Addr) (a2 : Addr) (h0 : Heap) (n0 : Nat) (v : Option Value) (h : Heap) (L : List Loc) : Prop := v = some (.ref a1) ∧ Fr n0 L ∧ h = h0
set_option maxRecDepth 65536 in
set_option maxHeartbeats 40000000 in
theorem rm37 (l : Launch) (Z : State) (a0 : Array Value) (hw : ∀ d ∈ tables_1, d.before a0 Z = true) (ws : List Jvm.Cond) (a1 : Addr) (a2 : Addr) (h0 : Heap) (n0 : Nat) (Z0 : n0 ≤ h0.size)  :
    MetFree l (⟨"java/util/Objects", "requireNonNull", "(Ljava/lang/Object;Ljava/lang/String;)Ljava/lang/Object;"⟩ : MethodName) (head1 (Jvm.Cond.code (⟨"java/util/Objects", "requireNonNull", "(Ljava/lang/Object;Ljava/lang/String;)Ljava/lang/Object;"⟩ : MethodName) jdk_31_method_11_code 2 (some (.object "java/lang/Object")) :: ws) ({ frames := 0, cells := 0, slots := 0, locals := 0 } : Room)) (fun a U => a = #[(.ref a1), (.ref a2)] ∧ Z.Warmed39 U.vm ∧ U.heap = h0) (fun _ _ _ _ _ => True) (fun _ U o U' => ∃ v L, o = .returned v ∧ Q37 Z a1 a2 h0 n0 v U'.heap L ∧ FrameEnd U o U' L ({ frames := 0, cells := 0, slots := 0, locals := 0 } : Room).cells ({ frames := 0, cells := 0, slots := 0, locals := 0 } : Room).slots) := by
  refine MetFree.of_bodySF (plainFor_of_name pn_37) hisR ?_
  intro p e s m args below meth c s₁ Bd hml0 hP hK
  obtain ⟨rfl, hZ, hh⟩ := hP
  have hx := Bd.exec
  have hby := Bd.bytes
  have hml : c.maxLocals = 2 := hml0
  have hown : s.vm.findClass "java/util/Objects" = some m.cls := findClass_of_methodNamed Bd.named
  have hnm := (name_of_methodNamed Bd.named Bd.method).1
  have X0 : Stand p l e ({ frames := 0, cells := 0, slots := 0, locals := 0 } : Room) s m #[(.ref a1), (.ref a2)] below meth c s₁ [] 0 0 := Stand.of_body Bd
  have e0 : s₁.heap = h0 := by rw [← hh, Bd.state]; rfl
  have N0 := Fr.nil n0
  refine Gl.gen fun P hPost => ?_
  refine Gl.st (fun t k => castTop (ef_37 m a1 a2 ) k) ?_
  show Gl p e below P (s₁.setTop (mkF m 0 #[.val (.ref a1), .val (.ref a2)] []))
  refine Gl.st (fun _ k => XS.aloadN X0.here hx rfl (hb hby d37_0) rfl rfl k) ?_
  show Gl p e below P (s₁.setTop (mkF m 1 #[.val (.ref a1), .val (.ref a2)] [(.ref a1)]))
  refine Gl.st (fun _ k => XS.ifnonnullYes X0.here hx rfl (pc0 := 1) (pc' := 13) rfl (hb hby d37_1) rfl (by decide) (by decide) k) ?_
  show Gl p e below P (s₁.setTop (mkF m 13 #[.val (.ref a1), .val (.ref a2)] []))
  refine Gl.st (fun _ k => XS.aloadN X0.here hx rfl (hb hby d37_13) rfl rfl k) ?_
  show Gl p e below P (s₁.setTop (mkF m 14 #[.val (.ref a1), .val (.ref a2)] [(.ref a1)]))
  obtain ⟨fs, hr, hrun, hended, hW, hsame⟩ := X0.leave (v := some (.ref a1)) (fun h => by rw [Bd.returns] at h; cases h)
  refine ⟨_, _, retOut X0 hx Bd.returns rfl (Or.inr (Or.inr (Or.inr (Or.inr ⟨rfl, rfl, rfl⟩)))) (hb hby d37_14) hr, hrun, hended, hPost _ _ ⟨_, _, rfl, ?_, ⟨_, rfl⟩, hW, hsame.mono (by decide) (by decide)⟩⟩
  show Q37 Z a1 a2 h0 n0 _ s₁.heap _
  rw [e0]
  exact ⟨rfl, N0, rfl⟩
theorem pn_38 : plainName "com/example/andersite/andersite/result/CallEdge" = true := by first | (simp [plainName, overriddenIn]; done) | decide +kernel
theorem ef_38 (m : MethodId) (x0 : Addr) (x1 : Addr) (x2 : Addr) : entryFrame m #[(.ref x0), (.ref x1), (.ref x2)] 3 = mkF m 0 #[.val (.ref x0), .val (.ref x1), .val (.ref x2)] [] := by first | (simp [entryFrame, mkF, argsToLocals, Value.category]; done) | rfl
def Q38 (Z : State) (a1 : Addr) (s2 : Addr) (s3 : Addr) (h0 : Heap) (n0 : Nat) (v : Option Value) (h : Heap) (L : List Loc) : Prop := v = none ∧ Fr n0 L ∧ Keep h0 h [a1] ∧ Exa Z h a1 "com/example/andersite/andersite/result/CallEdge" ∧ Fld Z h a1 "com/example/andersite/andersite/result/CallEdge" "caller" "Ljava/lang/String;" (.ref s2) ∧ Fld Z h a1 "com/example/andersite/andersite/result/CallEdge" "callee" "Ljava/lang/String;" (.ref s3)
set_option maxRecDepth 65536 in
set_option maxHeartbeats 40000000 in
theorem rm38 (l : Launch) (Z : State) (a0 : Array Value) (hw : ∀ d ∈ tables_1, d.before a0 Z = true) (ws : List Jvm.Cond) (a1 : Addr) (s2 : Addr) (s3 : Addr) (h0 : Heap) (n0 : Nat) (Z0 : n0 ≤ h0.size) (EE1 : Exa Z h0 a1 "com/example/andersite/andersite/result/CallEdge") (F1 : Fld Z h0 a1 "com/example/andersite/andersite/result/CallEdge" "caller" "Ljava/lang/String;" .null) (F2 : Fld Z h0 a1 "com/example/andersite/andersite/result/CallEdge" "callee" "Ljava/lang/String;" .null) (EE2 : Exa Z h0 s2 "java/lang/String") (EE3 : Exa Z h0 s3 "java/lang/String") (g1 : n0 ≤ a1) :
    MetFree l (⟨"com/example/andersite/andersite/result/CallEdge", "<init>", "(Ljava/lang/String;Ljava/lang/String;)V"⟩ : MethodName) (head1 (Jvm.Cond.code (⟨"com/example/andersite/andersite/result/CallEdge", "<init>", "(Ljava/lang/String;Ljava/lang/String;)V"⟩ : MethodName) prog_58_method_1_code 3 none :: ws) ({ frames := 1, cells := 4, slots := 56, locals := 14 } : Room)) (fun a U => a = #[(.ref a1), (.ref s2), (.ref s3)] ∧ Z.Warmed39 U.vm ∧ U.heap = h0 ∧ CHv Z consts_1 U.vm h0) (fun _ _ _ _ _ => True) (fun _ U o U' => ∃ v L, o = .returned v ∧ Q38 Z a1 s2 s3 h0 n0 v U'.heap L ∧ CHr Z consts_1 U.vm U.heap U'.vm U'.heap ∧ ReturnedEndW U o U' L ({ frames := 1, cells := 4, slots := 56, locals := 14 } : Room).cells ({ frames := 1, cells := 4, slots := 56, locals := 14 } : Room).slots) := by
  refine MetFree.of_bodySF (plainFor_of_name pn_38) hisR ?_
  intro p e s m args below meth c s₁ Bd hml0 hP hK
  obtain ⟨rfl, hZ, hh, hC⟩ := hP
  have hx := Bd.exec
  have hby := Bd.bytes
  have hml : c.maxLocals = 3 := hml0
  have hown : s.vm.findClass "com/example/andersite/andersite/result/CallEdge" = some m.cls := findClass_of_methodNamed Bd.named
  have hnm := (name_of_methodNamed Bd.named Bd.method).1
  have X0 : Stand p l e ({ frames := 1, cells := 4, slots := 56, locals := 14 } : Room) (s.setVm s.vm) m #[(.ref a1), (.ref s2), (.ref s3)] below meth c s₁ [] 0 0 := Stand.of_body Bd
  have hS0 : s.Since s.vm 0 := (State.WarmedH.refl s).since 0
  have C0 : CHr Z consts_1 s.vm h0 s.vm h0 := CHr.refl hC
  have hZ0 : Z.Warmed39 (s.setVm s.vm).vm := hZ
  have hown0 : (s.setVm s.vm).vm.findClass "com/example/andersite/andersite/result/CallEdge" = some m.cls := hown
  have hEL := own_EW hw
  have wS := own_wS hw
  have e0 : s₁.heap = h0 := by rw [← hh, Bd.state]; rfl
  have N0 := Fr.nil n0
  refine Gl.gen fun P hPost => ?_
  refine Gl.st (fun t k => castTop (ef_38 m a1 s2 s3 ) k) ?_
  show Gl p e below P (s₁.setTop (mkF m 0 #[.val (.ref a1), .val (.ref s2), .val (.ref s3)] []))
  refine Gl.st (fun _ k => XS.aloadN X0.here hx rfl (hb hby d38_0) rfl rfl k) ?_
  show Gl p e below P (s₁.setTop (mkF m 1 #[.val (.ref a1), .val (.ref s2), .val (.ref s3)] [(.ref a1)]))
  obtain ⟨T1, X1, e1, st1⟩ := initO X0 hx hZ0 hown0 (hw _ (List.mem_of_getElem? (i := 32) rfl)) (hw _ (List.mem_of_getElem? (i := 16) rfl)) (hw _ (List.mem_of_getElem? (i := 17) rfl)) e0 (g := (mkF m 1 #[.val (.ref a1), .val (.ref s2), .val (.ref s3)] [(.ref a1)])) rfl (by rw [hml]; rfl) rfl (hb hby d38_1) (by decide) (W := 0) (by show 2 * 0 + _ ≤ _; exact Nat.le_of_eq rfl) (by decide)
  refine Gl.st st1 ?_
  show Gl p e below P (T1.setTop (mkF m 4 #[.val (.ref a1), .val (.ref s2), .val (.ref s3)] []))
  refine Gl.st (fun _ k => XS.aloadN X1.here hx rfl (hb hby d38_4) rfl rfl k) ?_
  show Gl p e below P (T1.setTop (mkF m 5 #[.val (.ref a1), .val (.ref s2), .val (.ref s3)] [(.ref a1)]))
  refine Gl.st (fun _ k => XS.aloadN X1.here hx rfl (hb hby d38_5) rfl rfl k) ?_
  show Gl p e below P (T1.setTop (mkF m 6 #[.val (.ref a1), .val (.ref s2), .val (.ref s3)] [(.ref s2), (.ref a1)]))
  obtain ⟨la2, T2, h2, k12, X2, e2, E2, hS2, hk2, hZ2, hown2, Cn2, -, st2⟩ := ldcOH X1 hx hZ0 hown0 (hw _ (List.mem_of_getElem? (i := 33) rfl)) wS e1 hS0 (Nat.zero_le _) hEL C0.1 (g := (mkF m 6 #[.val (.ref a1), .val (.ref s2), .val (.ref s3)] [(.ref s2), (.ref a1)])) rfl (hb hby d38_6) (n := 24) (by decide) (by decide) (by decide) (by decide)
  have Z0_v2 : n0 ≤ h2.size := Nat.le_trans Z0 E2.1
  have f_hk_v2 : 0 ≤ h2.size := Nat.le_trans (Nat.zero_le _) E2.1
  have EE1_v2 : Exa Z h2 a1 "com/example/andersite/andersite/result/CallEdge" := EE1.ext E2
  have F1_v2 : Fld Z h2 a1 "com/example/andersite/andersite/result/CallEdge" "caller" "Ljava/lang/String;" .null := F1.ext E2
  have F2_v2 : Fld Z h2 a1 "com/example/andersite/andersite/result/CallEdge" "callee" "Ljava/lang/String;" .null := F2.ext E2
  have EE2_v2 : Exa Z h2 s2 "java/lang/String" := EE2.ext E2
  have EE3_v2 : Exa Z h2 s3 "java/lang/String" := EE3.ext E2
  have f_K_v2 : Keep h0 h2 [a1] := (Keep.refl h0 [a1]).ext E2
  have C_w2 : CHr Z consts_1 s.vm h0 T2.vm h2 := C0.trans Cn2
  refine Gl.st st2 ?_
  show Gl p e below P (T2.setTop (mkF m 8 #[.val (.ref a1), .val (.ref s2), .val (.ref s3)] [(.ref la2), (.ref s2), (.ref a1)]))
  obtain ⟨_, _, ⟨T3, L3, k3, n3⟩, -, X3, ⟨Lc3, hQ3, l3, y3, z3⟩, st3⟩ := Jvm.LawKit.callS X2 hx (y := (⟨"java/util/Objects", "requireNonNull", "(Ljava/lang/Object;Ljava/lang/String;)Ljava/lang/Object;"⟩ : MethodName)) hown2 (mvT hZ2 (hw _ (List.mem_of_getElem? (i := 34) rfl))) (mvT hZ2 (hw _ (List.mem_of_getElem? (i := 35) rfl))) (mvT hZ2 (hw _ (List.mem_of_getElem? (i := 36) rfl))) (mvT hZ2 (hw _ (List.mem_of_getElem? (i := 37) rfl))) (by decide) (backOf (W := 1) (rm37 l Z a0 hw [] s2 la2 h2 n0 Z0_v2) hZ2 (hw _ (List.mem_of_getElem? (i := 37) rfl)) (hw _ (List.mem_of_getElem? (i := 36) rfl)) (by decide) (by decide)) (g := (mkF m 8 #[.val (.ref a1), .val (.ref s2), .val (.ref s3)] [(.ref la2), (.ref s2), (.ref a1)])) rfl (by rw [hml]; rfl) (argsL := [(.ref s2), (.ref la2)]) (rest := [(.ref a1)]) (lenOf pd_3 rfl) rfl (by show 2 * 0 + _ ≤ _; exact Nat.le_of_eq rfl) (hb hby d38_8) (fun _ _ => ⟨rfl, e2, (by decide : 2 + 0 ≤ _), (by decide : 28 + 0 ≤ _)⟩)
  dsimp only [Pt.U, Pt.locs, Pt.cells, Pt.slots] at X3 l3 y3 z3 st3 hQ3
  subst l3 y3 z3
  obtain ⟨rfl, N3q, e3⟩ := hQ3
  have N3 := Fr.app N0 N3q
  refine Gl.st st3 ?_
  show Gl p e below P (T3.setTop (mkF m 11 #[.val (.ref a1), .val (.ref s2), .val (.ref s3)] [(.ref s2), (.ref a1)]))
  obtain ⟨T4, X4, e4, st4⟩ := castY X3 hx hZ2 hown2 (hw _ (List.mem_of_getElem? (i := 38) rfl)) e3 (Ins.self EE2_v2) (g := (mkF m 11 #[.val (.ref a1), .val (.ref s2), .val (.ref s3)] [(.ref s2), (.ref a1)])) rfl rfl (hb hby d38_11)
  refine Gl.st st4 ?_
  show Gl p e below P (T4.setTop (mkF m 14 #[.val (.ref a1), .val (.ref s2), .val (.ref s3)] [(.ref s2), (.ref a1)]))
  obtain ⟨T5, h5, X5, e5, W5, st5⟩ := putF X4 hx hZ2 hown2 (host := "") (Or.inl (hw _ (List.mem_of_getElem? (i := 39) rfl))) Via.refl e4 F1_v2 EE1_v2 (Or.inr ⟨(hw _ (List.mem_of_getElem? (i := 40) rfl)), rfl, hnm⟩) (hw _ (List.mem_of_getElem? (i := 27) rfl)) (ty := (.object "java/lang/String")) (by decide) rfl rfl (g := (mkF m 14 #[.val (.ref a1), .val (.ref s2), .val (.ref s3)] [(.ref s2), (.ref a1)])) rfl rfl (hb hby d38_14)
  refine Gl.st st5 ?_
  have C_v5 : CHr Z consts_1 s.vm h0 T2.vm h5 := C_w2.trans (CHr.wr W5 (Safe.exa hZ2.alike EE1_v2 (by decide) (by decide)) C_w2.1)
  have Z0_v5 : n0 ≤ h5.size := Nat.le_trans Z0_v2 (Keep.of_wr W5).1
  have hk2_v5 : k12 ≤ h5.size := Nat.le_trans hk2 (Keep.of_wr W5).1
  have EE1_v5 : Exa Z h5 a1 "com/example/andersite/andersite/result/CallEdge" := EE1_v2.wr W5
  have F2_v5 : Fld Z h5 a1 "com/example/andersite/andersite/result/CallEdge" "callee" "Ljava/lang/String;" .null := F2_v2.other W5 (Or.inr (slot_ne (Or.inr (hw _ (List.mem_of_getElem? (i := 43) rfl))) (Or.inr (hw _ (List.mem_of_getElem? (i := 40) rfl))) (by decide) (t := (.object "java/lang/String")) (t' := (.object "java/lang/String")) (by decide) (by decide)))
  have EE2_v5 : Exa Z h5 s2 "java/lang/String" := EE2_v2.wr W5
  have EE3_v5 : Exa Z h5 s3 "java/lang/String" := EE3_v2.wr W5
  have f_K_v5 : Keep h0 h5 [a1] := f_K_v2.wr W5 (Or.inl (List.mem_of_getElem? (i := 0) rfl))
  have Fw5 : Fld Z h5 a1 "com/example/andersite/andersite/result/CallEdge" "caller" "Ljava/lang/String;" (.ref s2) := F1_v2.same W5
  have N5 := Fr.snoc X5 N3 g1
  show Gl p e below P (T5.setTop (mkF m 17 #[.val (.ref a1), .val (.ref s2), .val (.ref s3)] []))
  refine Gl.st (fun _ k => XS.aloadN X5.here hx rfl (hb hby d38_17) rfl rfl k) ?_
  show Gl p e below P (T5.setTop (mkF m 18 #[.val (.ref a1), .val (.ref s2), .val (.ref s3)] [(.ref a1)]))
  refine Gl.st (fun _ k => XS.aloadN X5.here hx rfl (hb hby d38_18) rfl rfl k) ?_
  show Gl p e below P (T5.setTop (mkF m 19 #[.val (.ref a1), .val (.ref s2), .val (.ref s3)] [(.ref s3), (.ref a1)]))
  obtain ⟨la6, T6, h6, k16, X6, e6, E6, hS6, hk6, hZ6, hown6, Cn6, -, st6⟩ := ldcOH X5 hx hZ2 hown2 (hw _ (List.mem_of_getElem? (i := 41) rfl)) wS e5 hS2 hk2_v5 hEL C_v5.1 (g := (mkF m 19 #[.val (.ref a1), .val (.ref s2), .val (.ref s3)] [(.ref s3), (.ref a1)])) rfl (hb hby d38_19) (n := 24) (by decide) (by decide) (by decide) (by decide)
  have Z0_v6 : n0 ≤ h6.size := Nat.le_trans Z0_v5 E6.1
  have hk2_v6 : k12 ≤ h6.size := Nat.le_trans hk2_v5 E6.1
  have EE1_v6 : Exa Z h6 a1 "com/example/andersite/andersite/result/CallEdge" := EE1_v5.ext E6
  have F2_v6 : Fld Z h6 a1 "com/example/andersite/andersite/result/CallEdge" "callee" "Ljava/lang/String;" .null := F2_v5.ext E6
  have EE2_v6 : Exa Z h6 s2 "java/lang/String" := EE2_v5.ext E6
  have EE3_v6 : Exa Z h6 s3 "java/lang/String" := EE3_v5.ext E6
  have f_K_v6 : Keep h0 h6 [a1] := f_K_v5.ext E6
  have Fw5_v6 : Fld Z h6 a1 "com/example/andersite/andersite/result/CallEdge" "caller" "Ljava/lang/String;" (.ref s2) := Fw5.ext E6
  have C_w6 : CHr Z consts_1 s.vm h0 T6.vm h6 := C_v5.trans Cn6
  refine Gl.st st6 ?_
  show Gl p e below P (T6.setTop (mkF m 21 #[.val (.ref a1), .val (.ref s2), .val (.ref s3)] [(.ref la6), (.ref s3), (.ref a1)]))
  obtain ⟨_, _, ⟨T7, L7, k7, n7⟩, -, X7, ⟨Lc7, hQ7, l7, y7, z7⟩, st7⟩ := Jvm.LawKit.callS X6 hx (y := (⟨"java/util/Objects", "requireNonNull", "(Ljava/lang/Object;Ljava/lang/String;)Ljava/lang/Object;"⟩ : MethodName)) hown6 (mvT hZ6 (hw _ (List.mem_of_getElem? (i := 34) rfl))) (mvT hZ6 (hw _ (List.mem_of_getElem? (i := 35) rfl))) (mvT hZ6 (hw _ (List.mem_of_getElem? (i := 36) rfl))) (mvT hZ6 (hw _ (List.mem_of_getElem? (i := 37) rfl))) (by decide) (backOf (W := 1) (rm37 l Z a0 hw [] s3 la6 h6 n0 Z0_v6) hZ6 (hw _ (List.mem_of_getElem? (i := 37) rfl)) (hw _ (List.mem_of_getElem? (i := 36) rfl)) (by decide) (by decide)) (g := (mkF m 21 #[.val (.ref a1), .val (.ref s2), .val (.ref s3)] [(.ref la6), (.ref s3), (.ref a1)])) rfl (by rw [hml]; rfl) (argsL := [(.ref s3), (.ref la6)]) (rest := [(.ref a1)]) (lenOf pd_3 rfl) rfl (by show 2 * 0 + _ ≤ _; exact Nat.le_of_eq rfl) (hb hby d38_21) (fun _ _ => ⟨rfl, e6, (by decide : 4 + 0 ≤ _), (by decide : 56 + 0 ≤ _)⟩)
  dsimp only [Pt.U, Pt.locs, Pt.cells, Pt.slots] at X7 l7 y7 z7 st7 hQ7
  subst l7 y7 z7
  obtain ⟨rfl, N7q, e7⟩ := hQ7
  have N7 := Fr.app N5 N7q
  refine Gl.st st7 ?_
  show Gl p e below P (T7.setTop (mkF m 24 #[.val (.ref a1), .val (.ref s2), .val (.ref s3)] [(.ref s3), (.ref a1)]))
  obtain ⟨T8, X8, e8, st8⟩ := castY X7 hx hZ6 hown6 (hw _ (List.mem_of_getElem? (i := 38) rfl)) e7 (Ins.self EE3_v6) (g := (mkF m 24 #[.val (.ref a1), .val (.ref s2), .val (.ref s3)] [(.ref s3), (.ref a1)])) rfl rfl (hb hby d38_24)
  refine Gl.st st8 ?_
  show Gl p e below P (T8.setTop (mkF m 27 #[.val (.ref a1), .val (.ref s2), .val (.ref s3)] [(.ref s3), (.ref a1)]))
  obtain ⟨T9, h9, X9, e9, W9, st9⟩ := putF X8 hx hZ6 hown6 (host := "") (Or.inl (hw _ (List.mem_of_getElem? (i := 42) rfl))) Via.refl e8 F2_v6 EE1_v6 (Or.inr ⟨(hw _ (List.mem_of_getElem? (i := 43) rfl)), rfl, hnm⟩) (hw _ (List.mem_of_getElem? (i := 27) rfl)) (ty := (.object "java/lang/String")) (by decide) rfl rfl (g := (mkF m 27 #[.val (.ref a1), .val (.ref s2), .val (.ref s3)] [(.ref s3), (.ref a1)])) rfl rfl (hb hby d38_27)
  refine Gl.st st9 ?_
  have C_v9 : CHr Z consts_1 s.vm h0 T6.vm h9 := C_w6.trans (CHr.wr W9 (Safe.exa hZ6.alike EE1_v6 (by decide) (by decide)) C_w6.1)
  have Z0_v9 : n0 ≤ h9.size := Nat.le_trans Z0_v6 (Keep.of_wr W9).1
  have hk6_v9 : k16 ≤ h9.size := Nat.le_trans hk6 (Keep.of_wr W9).1
  have EE1_v9 : Exa Z h9 a1 "com/example/andersite/andersite/result/CallEdge" := EE1_v6.wr W9
  have EE2_v9 : Exa Z h9 s2 "java/lang/String" := EE2_v6.wr W9
  have EE3_v9 : Exa Z h9 s3 "java/lang/String" := EE3_v6.wr W9
  have f_K_v9 : Keep h0 h9 [a1] := f_K_v6.wr W9 (Or.inl (List.mem_of_getElem? (i := 0) rfl))
  have Fw5_v9 : Fld Z h9 a1 "com/example/andersite/andersite/result/CallEdge" "caller" "Ljava/lang/String;" (.ref s2) := Fw5_v6.other W9 (Or.inr (slot_ne (Or.inr (hw _ (List.mem_of_getElem? (i := 40) rfl))) (Or.inr (hw _ (List.mem_of_getElem? (i := 43) rfl))) (by decide) (t := (.object "java/lang/String")) (t' := (.object "java/lang/String")) (by decide) (by decide)))
  have Fw9 : Fld Z h9 a1 "com/example/andersite/andersite/result/CallEdge" "callee" "Ljava/lang/String;" (.ref s3) := F2_v6.same W9
  have N9 := Fr.snoc X9 N7 g1
  show Gl p e below P (T9.setTop (mkF m 30 #[.val (.ref a1), .val (.ref s2), .val (.ref s3)] []))
  obtain ⟨fs, hr, hrun, hended, hRE⟩ := X9.leaveW hS6 (by rw [e9]; exact hk6_v9) (v := none) (fun _ => rfl)
  refine ⟨_, _, X9.returnOut hx Bd.returns (hb hby d38_30) hr, hrun, hended, hPost _ _ ⟨_, _, rfl, ?_, ?_, hRE.1, hRE.2.1, hRE.2.2.1, hRE.2.2.2.mono (by decide) (by decide)⟩⟩
  rotate_left
  · show CHr Z consts_1 s.vm s.heap T9.vm T9.heap
    rw [hh, e9]
    exact C_v9.trans (CHv.at X9 hZ6 hEL C_v9.1)
  show Q38 Z a1 s2 s3 h0 n0 _ T9.heap _
  rw [e9]
  exact ⟨rfl, N9, f_K_v9, EE1_v9, Fw5_v9, Fw9⟩
theorem pn_39 : plainName "com/example/andersite/andersite/result/CallEdgeEqualsPinLaw" = true := by first | (simp [plainName, overriddenIn]; done) | decide +kernel
theorem ef_39 (m : MethodId) (x0 : Addr) (x1 : Addr) : entryFrame m #[(.ref x0), (.ref x1)] 3 = mkF m 0 #[.val (.ref x0), .val (.ref x1), .unset] [] := by first | (simp [entryFrame, mkF, argsToLocals, Value.category]; done) | rfl
def Q39 (Z : State) (a1 : Addr) (a2 : Addr) (cs : List Int32) (ds : List Int32) (G1 : Int32) (G3 : Value) (z : Int32) (h0 : Heap) (n0 : Nat) (v : Option Value) (h : Heap) (L : List Loc) : Prop := v = some (.int z) ∧ Fr n0 L ∧ h = h0
set_option maxRecDepth 65536 in
set_option maxHeartbeats 40000000 in
theorem rm39 (l : Launch) (Z : State) (a0 : Array Value) (hw : ∀ d ∈ tables_1, d.before a0 Z = true) (ws : List Jvm.Cond) (a1 : Addr) (a2 : Addr) (cs : List Int32) (ds : List Int32) (G1 : Int32) (G3 : Value) (z : Int32) (h0 : Heap) (n0 : Nat) (Z0 : n0 ≤ h0.size) (U1 : own_Str Z h0 a1 cs) (U2 : own_Str Z h0 a2 ds) (hc : cs.length ≤ 2) (hd : ds.length ≤ 2) (O4 : Sta Z Z.heap "jdk/internal/util/Preconditions" "SIOOBE_FORMATTER" "Ljava/util/function/BiFunction;" G3) (rG3 : G3.isRef = true) (hz : (cs = ds ∧ z = (1 : Int32)) ∨ (¬ cs = ds ∧ z = (0 : Int32))) (O2 : Sta Z Z.heap "java/lang/String" "COMPACT_STRINGS" "Z" (.int G1)) (P5 : ¬ (G1 = (0 : Int32))) (X00 : Old Z n0 h0) :
    MetFree l (⟨"com/example/andersite/andersite/result/CallEdgeEqualsPinLaw", "same", "(Ljava/lang/String;Ljava/lang/String;)Z"⟩ : MethodName) (head1 (Jvm.Cond.code (⟨"com/example/andersite/andersite/result/CallEdgeEqualsPinLaw", "same", "(Ljava/lang/String;Ljava/lang/String;)Z"⟩ : MethodName) method_4_code 3 (some .boolean) :: ws) ({ frames := 4, cells := 0, slots := 0, locals := 54 } : Room)) (fun a U => a = #[(.ref a1), (.ref a2)] ∧ Z.Warmed39 U.vm ∧ U.heap = h0) (fun _ _ _ _ _ => True) (fun _ U o U' => ∃ v L, o = .returned v ∧ Q39 Z a1 a2 cs ds G1 G3 z h0 n0 v U'.heap L ∧ FrameEnd U o U' L ({ frames := 4, cells := 0, slots := 0, locals := 54 } : Room).cells ({ frames := 4, cells := 0, slots := 0, locals := 54 } : Room).slots) := by
  refine MetFree.of_bodySF (plainFor_of_name pn_39) hisR ?_
  intro p e s m args below meth c s₁ Bd hml0 hP hK
  obtain ⟨rfl, hZ, hh⟩ := hP
  have hx := Bd.exec
  have hby := Bd.bytes
  have hml : c.maxLocals = 3 := hml0
  have hown : s.vm.findClass "com/example/andersite/andersite/result/CallEdgeEqualsPinLaw" = some m.cls := findClass_of_methodNamed Bd.named
  have hnm := (name_of_methodNamed Bd.named Bd.method).1
  have X0 : Stand p l e ({ frames := 4, cells := 0, slots := 0, locals := 54 } : Room) s m #[(.ref a1), (.ref a2)] below meth c s₁ [] 0 0 := Stand.of_body Bd
  have e0 : s₁.heap = h0 := by rw [← hh, Bd.state]; rfl
  have N0 := Fr.nil n0
  refine Gl.gen fun P hPost => ?_
  refine Gl.st (fun t k => castTop (ef_39 m a1 a2 ) k) ?_
  show Gl p e below P (s₁.setTop (mkF m 0 #[.val (.ref a1), .val (.ref a2), .unset] []))
  obtain ⟨hp1, hl1, t1, kb1, SE1, SC1, SV1, SA1⟩ := id U1
  have cd1 : StrChars.Road.CodA cs 0 (Int32.ofNat (cs : List Int32).length) (((cs : List Int32).map fun c => c.toInt8.toInt32).map Value.int) := StrChars.Road.codOf rfl (fun c hc => (hp1 c hc).2)
  have bd1 := own_up _ hp1
  obtain ⟨hp2, hl2, t2, kb2, SE2, SC2, SV2, SA2⟩ := id U2
  have cd2 : StrChars.Road.CodA ds 0 (Int32.ofNat (ds : List Int32).length) (((ds : List Int32).map fun c => c.toInt8.toInt32).map Value.int) := StrChars.Road.codOf rfl (fun c hc => (hp2 c hc).2)
  have bd2 := own_up _ hp2
  have hln : ∀ d ∈ StrChars.Road.wordsLen, d.before a0 Z = true := fun d hd => hw d ((by decide +kernel : ∀ d ∈ StrChars.Road.wordsLen, d ∈ tables_1) d hd)
  have hch : ∀ d ∈ StrChars.Road.wordsChN, d.before a0 Z = true := fun d hd => hw d ((by decide +kernel : ∀ d ∈ StrChars.Road.wordsChN, d ∈ tables_1) d hd)
  refine Gl.st (fun _ k => XS.aloadN X0.here hx rfl (hb hby d39_0) rfl rfl k) ?_
  show Gl p e below P (s₁.setTop (mkF m 1 #[.val (.ref a1), .val (.ref a2), .unset] [(.ref a1)]))
  obtain ⟨cq1, kq1, q1a, q1b, q1c⟩ := isOf hZ e0 SE1
  obtain ⟨_, _, ⟨T1, L1, k1, n1⟩, -, X1, ⟨Lc1, hQ1, l1, y1, z1⟩, st1⟩ := X0.virtualBack hx (y := (⟨"java/lang/String", "length", "()I"⟩ : MethodName)) (z := (⟨"java/lang/String", "length", "()I"⟩ : MethodName)) hown (mvT hZ (hw _ (List.mem_of_getElem? (i := 61) rfl))) (mvT hZ (hw _ (List.mem_of_getElem? (i := 62) rfl))) (notFace_of_selects (args := #[]) (mvT hZ (hw _ (List.mem_of_getElem? (i := 64) rfl)))) (mvT hZ (hw _ (List.mem_of_getElem? (i := 64) rfl))) (mvT hZ (hw _ (List.mem_of_getElem? (i := 63) rfl))) (by decide) (StrChars.Road.lenW (W := 0) hZ hln (kI := 4) (hw _ (List.mem_of_getElem? (i := 6) rfl)) SE1 SV1 SC1 SA1 cd1 bd1 (O2.ext X00.2) P5 hl1 (by decide) (by decide)) q1a q1c (g := (mkF m 1 #[.val (.ref a1), .val (.ref a2), .unset] [(.ref a1)])) rfl (by rw [hml]; rfl) (Steps.refl _) (argsL := []) (rest := []) (lenOf pd_4 rfl) rfl (by show 2 * 0 + _ ≤ _; exact Nat.le_of_eq rfl) (hb hby d39_1) (fun _ _ => ⟨rfl, e0, (by decide : 0 + 0 ≤ _), (by decide : 0 + 0 ≤ _)⟩)
  dsimp only [Pt.U, Pt.locs, Pt.cells, Pt.slots] at X1 l1 y1 z1 st1 hQ1
  subst l1 y1 z1
  obtain ⟨rfl, rfl, e1⟩ := hQ1
  have N1 := Fr.app N0 (Fr.nil n0)
  refine Gl.tr st1 ?_
  show Gl p e below P (T1.setTop (mkF m 4 #[.val (.ref a1), .val (.ref a2), .unset] [(.int (Int32.ofNat cs.length))]))
  refine Gl.st (fun _ k => XS.istoreN X1.here hx rfl (hb hby d39_4) rfl (l' := #[.val (.ref a1), .val (.ref a2), .val (.int (Int32.ofNat cs.length))]) rfl k) ?_
  show Gl p e below P (T1.setTop (mkF m 5 #[.val (.ref a1), .val (.ref a2), .val (.int (Int32.ofNat cs.length))] []))
  refine Gl.st (fun _ k => XS.iloadN X1.here hx rfl (hb hby d39_5) rfl k) ?_
  show Gl p e below P (T1.setTop (mkF m 6 #[.val (.ref a1), .val (.ref a2), .val (.int (Int32.ofNat cs.length))] [(.int (Int32.ofNat cs.length))]))
  refine Gl.st (fun _ k => XS.aloadN X1.here hx rfl (hb hby d39_6) rfl rfl k) ?_
  show Gl p e below P (T1.setTop (mkF m 7 #[.val (.ref a1), .val (.ref a2), .val (.int (Int32.ofNat cs.length))] [(.ref a2), (.int (Int32.ofNat cs.length))]))
  obtain ⟨cq2, kq2, q2a, q2b, q2c⟩ := isOf hZ e1 SE2
  obtain ⟨_, _, ⟨T2, L2, k2, n2⟩, -, X2, ⟨Lc2, hQ2, l2, y2, z2⟩, st2⟩ := X1.virtualBack hx (y := (⟨"java/lang/String", "length", "()I"⟩ : MethodName)) (z := (⟨"java/lang/String", "length", "()I"⟩ : MethodName)) hown (mvT hZ (hw _ (List.mem_of_getElem? (i := 61) rfl))) (mvT hZ (hw _ (List.mem_of_getElem? (i := 62) rfl))) (notFace_of_selects (args := #[]) (mvT hZ (hw _ (List.mem_of_getElem? (i := 64) rfl)))) (mvT hZ (hw _ (List.mem_of_getElem? (i := 64) rfl))) (mvT hZ (hw _ (List.mem_of_getElem? (i := 63) rfl))) (by decide) (StrChars.Road.lenW (W := 1) hZ hln (kI := 4) (hw _ (List.mem_of_getElem? (i := 6) rfl)) SE2 SV2 SC2 SA2 cd2 bd2 (O2.ext X00.2) P5 hl2 (by decide) (by decide)) q2a q2c (g := (mkF m 7 #[.val (.ref a1), .val (.ref a2), .val (.int (Int32.ofNat cs.length))] [(.ref a2), (.int (Int32.ofNat cs.length))])) rfl (by rw [hml]; rfl) (Steps.refl _) (argsL := []) (rest := [(.int (Int32.ofNat cs.length))]) (lenOf pd_4 rfl) rfl (by show 2 * 0 + _ ≤ _; exact Nat.le_of_eq rfl) (hb hby d39_7) (fun _ _ => ⟨rfl, e1, (by decide : 0 + 0 ≤ _), (by decide : 0 + 0 ≤ _)⟩)
  dsimp only [Pt.U, Pt.locs, Pt.cells, Pt.slots] at X2 l2 y2 z2 st2 hQ2
  subst l2 y2 z2
  obtain ⟨rfl, rfl, e2⟩ := hQ2
  have N2 := Fr.app N1 (Fr.nil n0)
  refine Gl.tr st2 ?_
  show Gl p e below P (T2.setTop (mkF m 10 #[.val (.ref a1), .val (.ref a2), .val (.int (Int32.ofNat cs.length))] [(.int (Int32.ofNat ds.length)), (.int (Int32.ofNat cs.length))]))
  rcases own_short cs hc with rfl | ⟨c0, rfl⟩ | ⟨c0, c1, rfl⟩ <;> rcases own_short ds hd with rfl | ⟨d0, rfl⟩ | ⟨d0, d1, rfl⟩
  · show Gl p e below P (T2.setTop (mkF m 10 #[.val (.ref a1), .val (.ref a2), .val (.int (0 : Int32))] [(.int (0 : Int32)), (.int (0 : Int32))]))
    refine Gl.st (fun _ k => XS.icmpYes X2.here hx rfl (pc0 := 10) (pc' := 15) rfl (hb hby d39_10) rfl (teq (by decide : (0 : Int32) = (0 : Int32))).1 (by decide) (by decide) k) ?_
    show Gl p e below P (T2.setTop (mkF m 15 #[.val (.ref a1), .val (.ref a2), .val (.int (0 : Int32))] []))
    refine Gl.st (fun _ k => XS.iloadN X2.here hx rfl (hb hby d39_15) rfl k) ?_
    show Gl p e below P (T2.setTop (mkF m 16 #[.val (.ref a1), .val (.ref a2), .val (.int (0 : Int32))] [(.int (0 : Int32))]))
    refine Gl.st (fun _ k => XS.ifYes X2.here hx rfl (pc0 := 16) (pc' := 34) rfl (hb hby d39_16) rfl ((if0 _ _).trans (flt (by decide : ¬ ((0 : Int32) < (0 : Int32)))).2.2.2) (by decide) (by decide) k) ?_
    show Gl p e below P (T2.setTop (mkF m 34 #[.val (.ref a1), .val (.ref a2), .val (.int (0 : Int32))] []))
    refine Gl.st (fun _ k => XS.iloadN X2.here hx rfl (hb hby d39_34) rfl k) ?_
    show Gl p e below P (T2.setTop (mkF m 35 #[.val (.ref a1), .val (.ref a2), .val (.int (0 : Int32))] [(.int (0 : Int32))]))
    refine Gl.st (fun _ k => XS.iconst X2.here hx rfl (hb hby d39_35) k) ?_
    show Gl p e below P (T2.setTop (mkF m 36 #[.val (.ref a1), .val (.ref a2), .val (.int (0 : Int32))] [(.int (1 : Int32)), (.int (0 : Int32))]))
    refine Gl.st (fun _ k => XS.icmpYes X2.here hx rfl (pc0 := 36) (pc' := 54) rfl (hb hby d39_36) rfl (flt (by decide : ¬ ((1 : Int32) < (0 : Int32)))).2.2.2 (by decide) (by decide) k) ?_
    show Gl p e below P (T2.setTop (mkF m 54 #[.val (.ref a1), .val (.ref a2), .val (.int (0 : Int32))] []))
    refine Gl.st (fun _ k => XS.iconst X2.here hx rfl (hb hby d39_54) k) ?_
    show Gl p e below P (T2.setTop (mkF m 55 #[.val (.ref a1), .val (.ref a2), .val (.int (0 : Int32))] [(.int (1 : Int32))]))
    have hz1 : z = (1 : Int32) := by rcases hz with ⟨-, q⟩ | ⟨q, -⟩ <;> first | exact q | exact absurd (by rfl) q
    obtain ⟨fs, hr, hrun, hended, hW, hsame⟩ := X2.leave (v := some (.int (1 : Int32))) (fun h => by rw [Bd.returns] at h; cases h)
    refine ⟨_, _, retN X2 hx (t := .boolean) Bd.returns (by simp) (hb hby d39_55) hr, hrun, hended, hPost _ _ ⟨_, _, rfl, ?_, ⟨_, rfl⟩, hW, hsame.mono (by decide) (by decide)⟩⟩
    show Q39 Z a1 a2 ([] : List Int32) ([] : List Int32) G1 G3 z h0 n0 _ T2.heap _
    rw [e2]
    exact ⟨by rw [hz1], N2, rfl⟩
  · show Gl p e below P (T2.setTop (mkF m 10 #[.val (.ref a1), .val (.ref a2), .val (.int (0 : Int32))] [(.int (1 : Int32)), (.int (0 : Int32))]))
    have hz0 : z = (0 : Int32) := by rcases hz with ⟨q, -⟩ | ⟨-, q⟩ <;> first | exact q | (simp at q)
    refine Gl.st (fun _ k => XS.icmpNo X2.here hx rfl (hb hby d39_10) rfl (feq (by decide : ¬ ((0 : Int32) = (1 : Int32)))).1 k) ?_
    show Gl p e below P (T2.setTop (mkF m 13 #[.val (.ref a1), .val (.ref a2), .val (.int (0 : Int32))] []))
    refine Gl.st (fun _ k => XS.iconst X2.here hx rfl (hb hby d39_13) k) ?_
    show Gl p e below P (T2.setTop (mkF m 14 #[.val (.ref a1), .val (.ref a2), .val (.int (0 : Int32))] [(.int (0 : Int32))]))
    obtain ⟨fs, hr, hrun, hended, hW, hsame⟩ := X2.leave (v := some (.int (0 : Int32))) (fun h => by rw [Bd.returns] at h; cases h)
    refine ⟨_, _, retN X2 hx (t := .boolean) Bd.returns (by simp) (hb hby d39_14) hr, hrun, hended, hPost _ _ ⟨_, _, rfl, ?_, ⟨_, rfl⟩, hW, hsame.mono (by decide) (by decide)⟩⟩
    show Q39 Z a1 a2 ([] : List Int32) ([d0] : List Int32) G1 G3 z h0 n0 _ T2.heap _
    rw [e2]
    exact ⟨by rw [hz0], N2, rfl⟩
  · show Gl p e below P (T2.setTop (mkF m 10 #[.val (.ref a1), .val (.ref a2), .val (.int (0 : Int32))] [(.int (2 : Int32)), (.int (0 : Int32))]))
    have hz0 : z = (0 : Int32) := by rcases hz with ⟨q, -⟩ | ⟨-, q⟩ <;> first | exact q | (simp at q)
    refine Gl.st (fun _ k => XS.icmpNo X2.here hx rfl (hb hby d39_10) rfl (feq (by decide : ¬ ((0 : Int32) = (2 : Int32)))).1 k) ?_
    show Gl p e below P (T2.setTop (mkF m 13 #[.val (.ref a1), .val (.ref a2), .val (.int (0 : Int32))] []))
    refine Gl.st (fun _ k => XS.iconst X2.here hx rfl (hb hby d39_13) k) ?_
    show Gl p e below P (T2.setTop (mkF m 14 #[.val (.ref a1), .val (.ref a2), .val (.int (0 : Int32))] [(.int (0 : Int32))]))
    obtain ⟨fs, hr, hrun, hended, hW, hsame⟩ := X2.leave (v := some (.int (0 : Int32))) (fun h => by rw [Bd.returns] at h; cases h)
    refine ⟨_, _, retN X2 hx (t := .boolean) Bd.returns (by simp) (hb hby d39_14) hr, hrun, hended, hPost _ _ ⟨_, _, rfl, ?_, ⟨_, rfl⟩, hW, hsame.mono (by decide) (by decide)⟩⟩
    show Q39 Z a1 a2 ([] : List Int32) ([d0, d1] : List Int32) G1 G3 z h0 n0 _ T2.heap _
    rw [e2]
    exact ⟨by rw [hz0], N2, rfl⟩
  · show Gl p e below P (T2.setTop (mkF m 10 #[.val (.ref a1), .val (.ref a2), .val (.int (1 : Int32))] [(.int (0 : Int32)), (.int (1 : Int32))]))
    have hz0 : z = (0 : Int32) := by rcases hz with ⟨q, -⟩ | ⟨-, q⟩ <;> first | exact q | (simp at q)
    refine Gl.st (fun _ k => XS.icmpNo X2.here hx rfl (hb hby d39_10) rfl (feq (by decide : ¬ ((1 : Int32) = (0 : Int32)))).1 k) ?_
    show Gl p e below P (T2.setTop (mkF m 13 #[.val (.ref a1), .val (.ref a2), .val (.int (1 : Int32))] []))
    refine Gl.st (fun _ k => XS.iconst X2.here hx rfl (hb hby d39_13) k) ?_
    show Gl p e below P (T2.setTop (mkF m 14 #[.val (.ref a1), .val (.ref a2), .val (.int (1 : Int32))] [(.int (0 : Int32))]))
    obtain ⟨fs, hr, hrun, hended, hW, hsame⟩ := X2.leave (v := some (.int (0 : Int32))) (fun h => by rw [Bd.returns] at h; cases h)
    refine ⟨_, _, retN X2 hx (t := .boolean) Bd.returns (by simp) (hb hby d39_14) hr, hrun, hended, hPost _ _ ⟨_, _, rfl, ?_, ⟨_, rfl⟩, hW, hsame.mono (by decide) (by decide)⟩⟩
    show Q39 Z a1 a2 ([c0] : List Int32) ([] : List Int32) G1 G3 z h0 n0 _ T2.heap _
    rw [e2]
    exact ⟨by rw [hz0], N2, rfl⟩
  · show Gl p e below P (T2.setTop (mkF m 10 #[.val (.ref a1), .val (.ref a2), .val (.int (1 : Int32))] [(.int (1 : Int32)), (.int (1 : Int32))]))
    refine Gl.st (fun _ k => XS.icmpYes X2.here hx rfl (pc0 := 10) (pc' := 15) rfl (hb hby d39_10) rfl (teq (by decide : (1 : Int32) = (1 : Int32))).1 (by decide) (by decide) k) ?_
    show Gl p e below P (T2.setTop (mkF m 15 #[.val (.ref a1), .val (.ref a2), .val (.int (1 : Int32))] []))
    refine Gl.st (fun _ k => XS.iloadN X2.here hx rfl (hb hby d39_15) rfl k) ?_
    show Gl p e below P (T2.setTop (mkF m 16 #[.val (.ref a1), .val (.ref a2), .val (.int (1 : Int32))] [(.int (1 : Int32))]))
    refine Gl.st (fun _ k => XS.ifNo X2.here hx rfl (hb hby d39_16) rfl ((if0 _ _).trans (tlt (by decide : (0 : Int32) < (1 : Int32))).2.2.2) k) ?_
    show Gl p e below P (T2.setTop (mkF m 19 #[.val (.ref a1), .val (.ref a2), .val (.int (1 : Int32))] []))
    refine Gl.st (fun _ k => XS.aloadN X2.here hx rfl (hb hby d39_19) rfl rfl k) ?_
    show Gl p e below P (T2.setTop (mkF m 20 #[.val (.ref a1), .val (.ref a2), .val (.int (1 : Int32))] [(.ref a1)]))
    refine Gl.st (fun _ k => XS.iconst X2.here hx rfl (hb hby d39_20) k) ?_
    show Gl p e below P (T2.setTop (mkF m 21 #[.val (.ref a1), .val (.ref a2), .val (.int (1 : Int32))] [(.int (0 : Int32)), (.ref a1)]))
    obtain ⟨cq3, kq3, q3a, q3b, q3c⟩ := isOf hZ e2 SE1
    obtain ⟨_, _, ⟨T3, L3, k3, n3⟩, -, X3, ⟨Lc3, hQ3, l3, y3, z3⟩, st3⟩ := X2.virtualBack hx (y := (⟨"java/lang/String", "charAt", "(I)C"⟩ : MethodName)) (z := (⟨"java/lang/String", "charAt", "(I)C"⟩ : MethodName)) hown (mvT hZ (hw _ (List.mem_of_getElem? (i := 88) rfl))) (mvT hZ (hw _ (List.mem_of_getElem? (i := 89) rfl))) (notFace_of_selects (args := #[]) (mvT hZ (hw _ (List.mem_of_getElem? (i := 91) rfl)))) (mvT hZ (hw _ (List.mem_of_getElem? (i := 91) rfl))) (mvT hZ (hw _ (List.mem_of_getElem? (i := 90) rfl))) (by decide) (StrChars.Road.chN (W := 0) hZ hch (kI := 4) (hw _ (List.mem_of_getElem? (i := 6) rfl)) SE1 SV1 SC1 SA1 cd1 bd1 (O2.ext X00.2) P5 (O4.ext X00.2) rG3 hl1 (i := 0) (Nat.le_of_ble_eq_true rfl) (j := (0 : Int32)) rfl (by decide) (by decide)) q3a q3c (g := (mkF m 21 #[.val (.ref a1), .val (.ref a2), .val (.int (1 : Int32))] [(.int (0 : Int32)), (.ref a1)])) rfl (by rw [hml]; rfl) (Steps.refl _) (argsL := [(.int (0 : Int32))]) (rest := []) (lenOf pd_2 rfl) rfl (by show 2 * 0 + _ ≤ _; exact Nat.le_of_eq rfl) (hb hby d39_21) (fun _ _ => ⟨rfl, e2, (by decide : 0 + 0 ≤ _), (by decide : 0 + 0 ≤ _)⟩)
    dsimp only [Pt.U, Pt.locs, Pt.cells, Pt.slots] at X3 l3 y3 z3 st3 hQ3
    subst l3 y3 z3
    obtain ⟨rfl, rfl, e3⟩ := hQ3
    have N3 := Fr.app N2 (Fr.nil n0)
    refine Gl.tr st3 ?_
    show Gl p e below P (T3.setTop (mkF m 24 #[.val (.ref a1), .val (.ref a2), .val (.int (1 : Int32))] [(.int c0)]))
    refine Gl.st (fun _ k => XS.aloadN X3.here hx rfl (hb hby d39_24) rfl rfl k) ?_
    show Gl p e below P (T3.setTop (mkF m 25 #[.val (.ref a1), .val (.ref a2), .val (.int (1 : Int32))] [(.ref a2), (.int c0)]))
    refine Gl.st (fun _ k => XS.iconst X3.here hx rfl (hb hby d39_25) k) ?_
    show Gl p e below P (T3.setTop (mkF m 26 #[.val (.ref a1), .val (.ref a2), .val (.int (1 : Int32))] [(.int (0 : Int32)), (.ref a2), (.int c0)]))
    obtain ⟨cq4, kq4, q4a, q4b, q4c⟩ := isOf hZ e3 SE2
    obtain ⟨_, _, ⟨T4, L4, k4, n4⟩, -, X4, ⟨Lc4, hQ4, l4, y4, z4⟩, st4⟩ := X3.virtualBack hx (y := (⟨"java/lang/String", "charAt", "(I)C"⟩ : MethodName)) (z := (⟨"java/lang/String", "charAt", "(I)C"⟩ : MethodName)) hown (mvT hZ (hw _ (List.mem_of_getElem? (i := 88) rfl))) (mvT hZ (hw _ (List.mem_of_getElem? (i := 89) rfl))) (notFace_of_selects (args := #[]) (mvT hZ (hw _ (List.mem_of_getElem? (i := 91) rfl)))) (mvT hZ (hw _ (List.mem_of_getElem? (i := 91) rfl))) (mvT hZ (hw _ (List.mem_of_getElem? (i := 90) rfl))) (by decide) (StrChars.Road.chN (W := 1) hZ hch (kI := 4) (hw _ (List.mem_of_getElem? (i := 6) rfl)) SE2 SV2 SC2 SA2 cd2 bd2 (O2.ext X00.2) P5 (O4.ext X00.2) rG3 hl2 (i := 0) (Nat.le_of_ble_eq_true rfl) (j := (0 : Int32)) rfl (by decide) (by decide)) q4a q4c (g := (mkF m 26 #[.val (.ref a1), .val (.ref a2), .val (.int (1 : Int32))] [(.int (0 : Int32)), (.ref a2), (.int c0)])) rfl (by rw [hml]; rfl) (Steps.refl _) (argsL := [(.int (0 : Int32))]) (rest := [(.int c0)]) (lenOf pd_2 rfl) rfl (by show 2 * 0 + _ ≤ _; exact Nat.le_of_eq rfl) (hb hby d39_26) (fun _ _ => ⟨rfl, e3, (by decide : 0 + 0 ≤ _), (by decide : 0 + 0 ≤ _)⟩)
    dsimp only [Pt.U, Pt.locs, Pt.cells, Pt.slots] at X4 l4 y4 z4 st4 hQ4
    subst l4 y4 z4
    obtain ⟨rfl, rfl, e4⟩ := hQ4
    have N4 := Fr.app N3 (Fr.nil n0)
    refine Gl.tr st4 ?_
    show Gl p e below P (T4.setTop (mkF m 29 #[.val (.ref a1), .val (.ref a2), .val (.int (1 : Int32))] [(.int d0), (.int c0)]))
    by_cases hq0 : c0 = d0
    · refine Gl.st (fun _ k => XS.icmpYes X4.here hx rfl (pc0 := 29) (pc' := 34) rfl (hb hby d39_29) rfl (teq (hq0 : c0 = d0)).1 (by decide) (by decide) k) ?_
      show Gl p e below P (T4.setTop (mkF m 34 #[.val (.ref a1), .val (.ref a2), .val (.int (1 : Int32))] []))
      refine Gl.st (fun _ k => XS.iloadN X4.here hx rfl (hb hby d39_34) rfl k) ?_
      show Gl p e below P (T4.setTop (mkF m 35 #[.val (.ref a1), .val (.ref a2), .val (.int (1 : Int32))] [(.int (1 : Int32))]))
      refine Gl.st (fun _ k => XS.iconst X4.here hx rfl (hb hby d39_35) k) ?_
      show Gl p e below P (T4.setTop (mkF m 36 #[.val (.ref a1), .val (.ref a2), .val (.int (1 : Int32))] [(.int (1 : Int32)), (.int (1 : Int32))]))
      refine Gl.st (fun _ k => XS.icmpYes X4.here hx rfl (pc0 := 36) (pc' := 54) rfl (hb hby d39_36) rfl (flt (by decide : ¬ ((1 : Int32) < (1 : Int32)))).2.2.2 (by decide) (by decide) k) ?_
      show Gl p e below P (T4.setTop (mkF m 54 #[.val (.ref a1), .val (.ref a2), .val (.int (1 : Int32))] []))
      refine Gl.st (fun _ k => XS.iconst X4.here hx rfl (hb hby d39_54) k) ?_
      show Gl p e below P (T4.setTop (mkF m 55 #[.val (.ref a1), .val (.ref a2), .val (.int (1 : Int32))] [(.int (1 : Int32))]))
      have hz1 : z = (1 : Int32) := by rcases hz with ⟨-, q⟩ | ⟨q, -⟩ <;> first | exact q | exact absurd (by rw [hq0]) q
      obtain ⟨fs, hr, hrun, hended, hW, hsame⟩ := X4.leave (v := some (.int (1 : Int32))) (fun h => by rw [Bd.returns] at h; cases h)
      refine ⟨_, _, retN X4 hx (t := .boolean) Bd.returns (by simp) (hb hby d39_55) hr, hrun, hended, hPost _ _ ⟨_, _, rfl, ?_, ⟨_, rfl⟩, hW, hsame.mono (by decide) (by decide)⟩⟩
      show Q39 Z a1 a2 ([c0] : List Int32) ([d0] : List Int32) G1 G3 z h0 n0 _ T4.heap _
      rw [e4]
      exact ⟨by rw [hz1], N4, rfl⟩
    · refine Gl.st (fun _ k => XS.icmpNo X4.here hx rfl (hb hby d39_29) rfl (feq (hq0 : ¬ (c0 = d0))).1 k) ?_
      show Gl p e below P (T4.setTop (mkF m 32 #[.val (.ref a1), .val (.ref a2), .val (.int (1 : Int32))] []))
      have hz0 : z = (0 : Int32) := by rcases hz with ⟨q, -⟩ | ⟨-, q⟩ <;> first | exact q | (simp at q; simp_all)
      refine Gl.st (fun _ k => XS.iconst X4.here hx rfl (hb hby d39_32) k) ?_
      show Gl p e below P (T4.setTop (mkF m 33 #[.val (.ref a1), .val (.ref a2), .val (.int (1 : Int32))] [(.int (0 : Int32))]))
      obtain ⟨fs, hr, hrun, hended, hW, hsame⟩ := X4.leave (v := some (.int (0 : Int32))) (fun h => by rw [Bd.returns] at h; cases h)
      refine ⟨_, _, retN X4 hx (t := .boolean) Bd.returns (by simp) (hb hby d39_33) hr, hrun, hended, hPost _ _ ⟨_, _, rfl, ?_, ⟨_, rfl⟩, hW, hsame.mono (by decide) (by decide)⟩⟩
      show Q39 Z a1 a2 ([c0] : List Int32) ([d0] : List Int32) G1 G3 z h0 n0 _ T4.heap _
      rw [e4]
      exact ⟨by rw [hz0], N4, rfl⟩
  · show Gl p e below P (T2.setTop (mkF m 10 #[.val (.ref a1), .val (.ref a2), .val (.int (1 : Int32))] [(.int (2 : Int32)), (.int (1 : Int32))]))
    have hz0 : z = (0 : Int32) := by rcases hz with ⟨q, -⟩ | ⟨-, q⟩ <;> first | exact q | (simp at q)
    refine Gl.st (fun _ k => XS.icmpNo X2.here hx rfl (hb hby d39_10) rfl (feq (by decide : ¬ ((1 : Int32) = (2 : Int32)))).1 k) ?_
    show Gl p e below P (T2.setTop (mkF m 13 #[.val (.ref a1), .val (.ref a2), .val (.int (1 : Int32))] []))
    refine Gl.st (fun _ k => XS.iconst X2.here hx rfl (hb hby d39_13) k) ?_
    show Gl p e below P (T2.setTop (mkF m 14 #[.val (.ref a1), .val (.ref a2), .val (.int (1 : Int32))] [(.int (0 : Int32))]))
    obtain ⟨fs, hr, hrun, hended, hW, hsame⟩ := X2.leave (v := some (.int (0 : Int32))) (fun h => by rw [Bd.returns] at h; cases h)
    refine ⟨_, _, retN X2 hx (t := .boolean) Bd.returns (by simp) (hb hby d39_14) hr, hrun, hended, hPost _ _ ⟨_, _, rfl, ?_, ⟨_, rfl⟩, hW, hsame.mono (by decide) (by decide)⟩⟩
    show Q39 Z a1 a2 ([c0] : List Int32) ([d0, d1] : List Int32) G1 G3 z h0 n0 _ T2.heap _
    rw [e2]
    exact ⟨by rw [hz0], N2, rfl⟩
  · show Gl p e below P (T2.setTop (mkF m 10 #[.val (.ref a1), .val (.ref a2), .val (.int (2 : Int32))] [(.int (0 : Int32)), (.int (2 : Int32))]))
    have hz0 : z = (0 : Int32) := by rcases hz with ⟨q, -⟩ | ⟨-, q⟩ <;> first | exact q | (simp at q)
    refine Gl.st (fun _ k => XS.icmpNo X2.here hx rfl (hb hby d39_10) rfl (feq (by decide : ¬ ((2 : Int32) = (0 : Int32)))).1 k) ?_
    show Gl p e below P (T2.setTop (mkF m 13 #[.val (.ref a1), .val (.ref a2), .val (.int (2 : Int32))] []))
    refine Gl.st (fun _ k => XS.iconst X2.here hx rfl (hb hby d39_13) k) ?_
    show Gl p e below P (T2.setTop (mkF m 14 #[.val (.ref a1), .val (.ref a2), .val (.int (2 : Int32))] [(.int (0 : Int32))]))
    obtain ⟨fs, hr, hrun, hended, hW, hsame⟩ := X2.leave (v := some (.int (0 : Int32))) (fun h => by rw [Bd.returns] at h; cases h)
    refine ⟨_, _, retN X2 hx (t := .boolean) Bd.returns (by simp) (hb hby d39_14) hr, hrun, hended, hPost _ _ ⟨_, _, rfl, ?_, ⟨_, rfl⟩, hW, hsame.mono (by decide) (by decide)⟩⟩
    show Q39 Z a1 a2 ([c0, c1] : List Int32) ([] : List Int32) G1 G3 z h0 n0 _ T2.heap _
    rw [e2]
    exact ⟨by rw [hz0], N2, rfl⟩
  · show Gl p e below P (T2.setTop (mkF m 10 #[.val (.ref a1), .val (.ref a2), .val (.int (2 : Int32))] [(.int (1 : Int32)), (.int (2 : Int32))]))
    have hz0 : z = (0 : Int32) := by rcases hz with ⟨q, -⟩ | ⟨-, q⟩ <;> first | exact q | (simp at q)
    refine Gl.st (fun _ k => XS.icmpNo X2.here hx rfl (hb hby d39_10) rfl (feq (by decide : ¬ ((2 : Int32) = (1 : Int32)))).1 k) ?_
    show Gl p e below P (T2.setTop (mkF m 13 #[.val (.ref a1), .val (.ref a2), .val (.int (2 : Int32))] []))
    refine Gl.st (fun _ k => XS.iconst X2.here hx rfl (hb hby d39_13) k) ?_
    show Gl p e below P (T2.setTop (mkF m 14 #[.val (.ref a1), .val (.ref a2), .val (.int (2 : Int32))] [(.int (0 : Int32))]))
    obtain ⟨fs, hr, hrun, hended, hW, hsame⟩ := X2.leave (v := some (.int (0 : Int32))) (fun h => by rw [Bd.returns] at h; cases h)
    refine ⟨_, _, retN X2 hx (t := .boolean) Bd.returns (by simp) (hb hby d39_14) hr, hrun, hended, hPost _ _ ⟨_, _, rfl, ?_, ⟨_, rfl⟩, hW, hsame.mono (by decide) (by decide)⟩⟩
    show Q39 Z a1 a2 ([c0, c1] : List Int32) ([d0] : List Int32) G1 G3 z h0 n0 _ T2.heap _
    rw [e2]
    exact ⟨by rw [hz0], N2, rfl⟩
  · show Gl p e below P (T2.setTop (mkF m 10 #[.val (.ref a1), .val (.ref a2), .val (.int (2 : Int32))] [(.int (2 : Int32)), (.int (2 : Int32))]))
    refine Gl.st (fun _ k => XS.icmpYes X2.here hx rfl (pc0 := 10) (pc' := 15) rfl (hb hby d39_10) rfl (teq (by decide : (2 : Int32) = (2 : Int32))).1 (by decide) (by decide) k) ?_
    show Gl p e below P (T2.setTop (mkF m 15 #[.val (.ref a1), .val (.ref a2), .val (.int (2 : Int32))] []))
    refine Gl.st (fun _ k => XS.iloadN X2.here hx rfl (hb hby d39_15) rfl k) ?_
    show Gl p e below P (T2.setTop (mkF m 16 #[.val (.ref a1), .val (.ref a2), .val (.int (2 : Int32))] [(.int (2 : Int32))]))
    refine Gl.st (fun _ k => XS.ifNo X2.here hx rfl (hb hby d39_16) rfl ((if0 _ _).trans (tlt (by decide : (0 : Int32) < (2 : Int32))).2.2.2) k) ?_
    show Gl p e below P (T2.setTop (mkF m 19 #[.val (.ref a1), .val (.ref a2), .val (.int (2 : Int32))] []))
    refine Gl.st (fun _ k => XS.aloadN X2.here hx rfl (hb hby d39_19) rfl rfl k) ?_
    show Gl p e below P (T2.setTop (mkF m 20 #[.val (.ref a1), .val (.ref a2), .val (.int (2 : Int32))] [(.ref a1)]))
    refine Gl.st (fun _ k => XS.iconst X2.here hx rfl (hb hby d39_20) k) ?_
    show Gl p e below P (T2.setTop (mkF m 21 #[.val (.ref a1), .val (.ref a2), .val (.int (2 : Int32))] [(.int (0 : Int32)), (.ref a1)]))
    obtain ⟨cq5, kq5, q5a, q5b, q5c⟩ := isOf hZ e2 SE1
    obtain ⟨_, _, ⟨T5, L5, k5, n5⟩, -, X5, ⟨Lc5, hQ5, l5, y5, z5⟩, st5⟩ := X2.virtualBack hx (y := (⟨"java/lang/String", "charAt", "(I)C"⟩ : MethodName)) (z := (⟨"java/lang/String", "charAt", "(I)C"⟩ : MethodName)) hown (mvT hZ (hw _ (List.mem_of_getElem? (i := 88) rfl))) (mvT hZ (hw _ (List.mem_of_getElem? (i := 89) rfl))) (notFace_of_selects (args := #[]) (mvT hZ (hw _ (List.mem_of_getElem? (i := 91) rfl)))) (mvT hZ (hw _ (List.mem_of_getElem? (i := 91) rfl))) (mvT hZ (hw _ (List.mem_of_getElem? (i := 90) rfl))) (by decide) (StrChars.Road.chN (W := 0) hZ hch (kI := 4) (hw _ (List.mem_of_getElem? (i := 6) rfl)) SE1 SV1 SC1 SA1 cd1 bd1 (O2.ext X00.2) P5 (O4.ext X00.2) rG3 hl1 (i := 0) (Nat.le_of_ble_eq_true rfl) (j := (0 : Int32)) rfl (by decide) (by decide)) q5a q5c (g := (mkF m 21 #[.val (.ref a1), .val (.ref a2), .val (.int (2 : Int32))] [(.int (0 : Int32)), (.ref a1)])) rfl (by rw [hml]; rfl) (Steps.refl _) (argsL := [(.int (0 : Int32))]) (rest := []) (lenOf pd_2 rfl) rfl (by show 2 * 0 + _ ≤ _; exact Nat.le_of_eq rfl) (hb hby d39_21) (fun _ _ => ⟨rfl, e2, (by decide : 0 + 0 ≤ _), (by decide : 0 + 0 ≤ _)⟩)
    dsimp only [Pt.U, Pt.locs, Pt.cells, Pt.slots] at X5 l5 y5 z5 st5 hQ5
    subst l5 y5 z5
    obtain ⟨rfl, rfl, e5⟩ := hQ5
    have N5 := Fr.app N2 (Fr.nil n0)
    refine Gl.tr st5 ?_
    show Gl p e below P (T5.setTop (mkF m 24 #[.val (.ref a1), .val (.ref a2), .val (.int (2 : Int32))] [(.int c0)]))
    refine Gl.st (fun _ k => XS.aloadN X5.here hx rfl (hb hby d39_24) rfl rfl k) ?_
    show Gl p e below P (T5.setTop (mkF m 25 #[.val (.ref a1), .val (.ref a2), .val (.int (2 : Int32))] [(.ref a2), (.int c0)]))
    refine Gl.st (fun _ k => XS.iconst X5.here hx rfl (hb hby d39_25) k) ?_
    show Gl p e below P (T5.setTop (mkF m 26 #[.val (.ref a1), .val (.ref a2), .val (.int (2 : Int32))] [(.int (0 : Int32)), (.ref a2), (.int c0)]))
    obtain ⟨cq6, kq6, q6a, q6b, q6c⟩ := isOf hZ e5 SE2
    obtain ⟨_, _, ⟨T6, L6, k6, n6⟩, -, X6, ⟨Lc6, hQ6, l6, y6, z6⟩, st6⟩ := X5.virtualBack hx (y := (⟨"java/lang/String", "charAt", "(I)C"⟩ : MethodName)) (z := (⟨"java/lang/String", "charAt", "(I)C"⟩ : MethodName)) hown (mvT hZ (hw _ (List.mem_of_getElem? (i := 88) rfl))) (mvT hZ (hw _ (List.mem_of_getElem? (i := 89) rfl))) (notFace_of_selects (args := #[]) (mvT hZ (hw _ (List.mem_of_getElem? (i := 91) rfl)))) (mvT hZ (hw _ (List.mem_of_getElem? (i := 91) rfl))) (mvT hZ (hw _ (List.mem_of_getElem? (i := 90) rfl))) (by decide) (StrChars.Road.chN (W := 1) hZ hch (kI := 4) (hw _ (List.mem_of_getElem? (i := 6) rfl)) SE2 SV2 SC2 SA2 cd2 bd2 (O2.ext X00.2) P5 (O4.ext X00.2) rG3 hl2 (i := 0) (Nat.le_of_ble_eq_true rfl) (j := (0 : Int32)) rfl (by decide) (by decide)) q6a q6c (g := (mkF m 26 #[.val (.ref a1), .val (.ref a2), .val (.int (2 : Int32))] [(.int (0 : Int32)), (.ref a2), (.int c0)])) rfl (by rw [hml]; rfl) (Steps.refl _) (argsL := [(.int (0 : Int32))]) (rest := [(.int c0)]) (lenOf pd_2 rfl) rfl (by show 2 * 0 + _ ≤ _; exact Nat.le_of_eq rfl) (hb hby d39_26) (fun _ _ => ⟨rfl, e5, (by decide : 0 + 0 ≤ _), (by decide : 0 + 0 ≤ _)⟩)
    dsimp only [Pt.U, Pt.locs, Pt.cells, Pt.slots] at X6 l6 y6 z6 st6 hQ6
    subst l6 y6 z6
    obtain ⟨rfl, rfl, e6⟩ := hQ6
    have N6 := Fr.app N5 (Fr.nil n0)
    refine Gl.tr st6 ?_
    show Gl p e below P (T6.setTop (mkF m 29 #[.val (.ref a1), .val (.ref a2), .val (.int (2 : Int32))] [(.int d0), (.int c0)]))
    by_cases hq0 : c0 = d0
    · refine Gl.st (fun _ k => XS.icmpYes X6.here hx rfl (pc0 := 29) (pc' := 34) rfl (hb hby d39_29) rfl (teq (hq0 : c0 = d0)).1 (by decide) (by decide) k) ?_
      show Gl p e below P (T6.setTop (mkF m 34 #[.val (.ref a1), .val (.ref a2), .val (.int (2 : Int32))] []))
      refine Gl.st (fun _ k => XS.iloadN X6.here hx rfl (hb hby d39_34) rfl k) ?_
      show Gl p e below P (T6.setTop (mkF m 35 #[.val (.ref a1), .val (.ref a2), .val (.int (2 : Int32))] [(.int (2 : Int32))]))
      refine Gl.st (fun _ k => XS.iconst X6.here hx rfl (hb hby d39_35) k) ?_
      show Gl p e below P (T6.setTop (mkF m 36 #[.val (.ref a1), .val (.ref a2), .val (.int (2 : Int32))] [(.int (1 : Int32)), (.int (2 : Int32))]))
      refine Gl.st (fun _ k => XS.icmpNo X6.here hx rfl (hb hby d39_36) rfl (tlt (by decide : (1 : Int32) < (2 : Int32))).2.2.2 k) ?_
      show Gl p e below P (T6.setTop (mkF m 39 #[.val (.ref a1), .val (.ref a2), .val (.int (2 : Int32))] []))
      refine Gl.st (fun _ k => XS.aloadN X6.here hx rfl (hb hby d39_39) rfl rfl k) ?_
      show Gl p e below P (T6.setTop (mkF m 40 #[.val (.ref a1), .val (.ref a2), .val (.int (2 : Int32))] [(.ref a1)]))
      refine Gl.st (fun _ k => XS.iconst X6.here hx rfl (hb hby d39_40) k) ?_
      show Gl p e below P (T6.setTop (mkF m 41 #[.val (.ref a1), .val (.ref a2), .val (.int (2 : Int32))] [(.int (1 : Int32)), (.ref a1)]))
      obtain ⟨cq7, kq7, q7a, q7b, q7c⟩ := isOf hZ e6 SE1
      obtain ⟨_, _, ⟨T7, L7, k7, n7⟩, -, X7, ⟨Lc7, hQ7, l7, y7, z7⟩, st7⟩ := X6.virtualBack hx (y := (⟨"java/lang/String", "charAt", "(I)C"⟩ : MethodName)) (z := (⟨"java/lang/String", "charAt", "(I)C"⟩ : MethodName)) hown (mvT hZ (hw _ (List.mem_of_getElem? (i := 88) rfl))) (mvT hZ (hw _ (List.mem_of_getElem? (i := 89) rfl))) (notFace_of_selects (args := #[]) (mvT hZ (hw _ (List.mem_of_getElem? (i := 91) rfl)))) (mvT hZ (hw _ (List.mem_of_getElem? (i := 91) rfl))) (mvT hZ (hw _ (List.mem_of_getElem? (i := 90) rfl))) (by decide) (StrChars.Road.chN (W := 0) hZ hch (kI := 4) (hw _ (List.mem_of_getElem? (i := 6) rfl)) SE1 SV1 SC1 SA1 cd1 bd1 (O2.ext X00.2) P5 (O4.ext X00.2) rG3 hl1 (i := 1) (Nat.le_of_ble_eq_true rfl) (j := (1 : Int32)) rfl (by decide) (by decide)) q7a q7c (g := (mkF m 41 #[.val (.ref a1), .val (.ref a2), .val (.int (2 : Int32))] [(.int (1 : Int32)), (.ref a1)])) rfl (by rw [hml]; rfl) (Steps.refl _) (argsL := [(.int (1 : Int32))]) (rest := []) (lenOf pd_2 rfl) rfl (by show 2 * 0 + _ ≤ _; exact Nat.le_of_eq rfl) (hb hby d39_41) (fun _ _ => ⟨rfl, e6, (by decide : 0 + 0 ≤ _), (by decide : 0 + 0 ≤ _)⟩)
      dsimp only [Pt.U, Pt.locs, Pt.cells, Pt.slots] at X7 l7 y7 z7 st7 hQ7
      subst l7 y7 z7
      obtain ⟨rfl, rfl, e7⟩ := hQ7
      have N7 := Fr.app N6 (Fr.nil n0)
      refine Gl.tr st7 ?_
      show Gl p e below P (T7.setTop (mkF m 44 #[.val (.ref a1), .val (.ref a2), .val (.int (2 : Int32))] [(.int c1)]))
      refine Gl.st (fun _ k => XS.aloadN X7.here hx rfl (hb hby d39_44) rfl rfl k) ?_
      show Gl p e below P (T7.setTop (mkF m 45 #[.val (.ref a1), .val (.ref a2), .val (.int (2 : Int32))] [(.ref a2), (.int c1)]))
      refine Gl.st (fun _ k => XS.iconst X7.here hx rfl (hb hby d39_45) k) ?_
      show Gl p e below P (T7.setTop (mkF m 46 #[.val (.ref a1), .val (.ref a2), .val (.int (2 : Int32))] [(.int (1 : Int32)), (.ref a2), (.int c1)]))
      obtain ⟨cq8, kq8, q8a, q8b, q8c⟩ := isOf hZ e7 SE2
      obtain ⟨_, _, ⟨T8, L8, k8, n8⟩, -, X8, ⟨Lc8, hQ8, l8, y8, z8⟩, st8⟩ := X7.virtualBack hx (y := (⟨"java/lang/String", "charAt", "(I)C"⟩ : MethodName)) (z := (⟨"java/lang/String", "charAt", "(I)C"⟩ : MethodName)) hown (mvT hZ (hw _ (List.mem_of_getElem? (i := 88) rfl))) (mvT hZ (hw _ (List.mem_of_getElem? (i := 89) rfl))) (notFace_of_selects (args := #[]) (mvT hZ (hw _ (List.mem_of_getElem? (i := 91) rfl)))) (mvT hZ (hw _ (List.mem_of_getElem? (i := 91) rfl))) (mvT hZ (hw _ (List.mem_of_getElem? (i := 90) rfl))) (by decide) (StrChars.Road.chN (W := 1) hZ hch (kI := 4) (hw _ (List.mem_of_getElem? (i := 6) rfl)) SE2 SV2 SC2 SA2 cd2 bd2 (O2.ext X00.2) P5 (O4.ext X00.2) rG3 hl2 (i := 1) (Nat.le_of_ble_eq_true rfl) (j := (1 : Int32)) rfl (by decide) (by decide)) q8a q8c (g := (mkF m 46 #[.val (.ref a1), .val (.ref a2), .val (.int (2 : Int32))] [(.int (1 : Int32)), (.ref a2), (.int c1)])) rfl (by rw [hml]; rfl) (Steps.refl _) (argsL := [(.int (1 : Int32))]) (rest := [(.int c1)]) (lenOf pd_2 rfl) rfl (by show 2 * 0 + _ ≤ _; exact Nat.le_of_eq rfl) (hb hby d39_46) (fun _ _ => ⟨rfl, e7, (by decide : 0 + 0 ≤ _), (by decide : 0 + 0 ≤ _)⟩)
      dsimp only [Pt.U, Pt.locs, Pt.cells, Pt.slots] at X8 l8 y8 z8 st8 hQ8
      subst l8 y8 z8
      obtain ⟨rfl, rfl, e8⟩ := hQ8
      have N8 := Fr.app N7 (Fr.nil n0)
      refine Gl.tr st8 ?_
      show Gl p e below P (T8.setTop (mkF m 49 #[.val (.ref a1), .val (.ref a2), .val (.int (2 : Int32))] [(.int d1), (.int c1)]))
      by_cases hq1 : c1 = d1
      · refine Gl.st (fun _ k => XS.icmpYes X8.here hx rfl (pc0 := 49) (pc' := 54) rfl (hb hby d39_49) rfl (teq (hq1 : c1 = d1)).1 (by decide) (by decide) k) ?_
        show Gl p e below P (T8.setTop (mkF m 54 #[.val (.ref a1), .val (.ref a2), .val (.int (2 : Int32))] []))
        refine Gl.st (fun _ k => XS.iconst X8.here hx rfl (hb hby d39_54) k) ?_
        show Gl p e below P (T8.setTop (mkF m 55 #[.val (.ref a1), .val (.ref a2), .val (.int (2 : Int32))] [(.int (1 : Int32))]))
        have hz1 : z = (1 : Int32) := by rcases hz with ⟨-, q⟩ | ⟨q, -⟩ <;> first | exact q | exact absurd (by rw [hq0, hq1]) q
        obtain ⟨fs, hr, hrun, hended, hW, hsame⟩ := X8.leave (v := some (.int (1 : Int32))) (fun h => by rw [Bd.returns] at h; cases h)
        refine ⟨_, _, retN X8 hx (t := .boolean) Bd.returns (by simp) (hb hby d39_55) hr, hrun, hended, hPost _ _ ⟨_, _, rfl, ?_, ⟨_, rfl⟩, hW, hsame.mono (by decide) (by decide)⟩⟩
        show Q39 Z a1 a2 ([c0, c1] : List Int32) ([d0, d1] : List Int32) G1 G3 z h0 n0 _ T8.heap _
        rw [e8]
        exact ⟨by rw [hz1], N8, rfl⟩
      · refine Gl.st (fun _ k => XS.icmpNo X8.here hx rfl (hb hby d39_49) rfl (feq (hq1 : ¬ (c1 = d1))).1 k) ?_
        show Gl p e below P (T8.setTop (mkF m 52 #[.val (.ref a1), .val (.ref a2), .val (.int (2 : Int32))] []))
        have hz0 : z = (0 : Int32) := by rcases hz with ⟨q, -⟩ | ⟨-, q⟩ <;> first | exact q | (simp at q; simp_all)
        refine Gl.st (fun _ k => XS.iconst X8.here hx rfl (hb hby d39_52) k) ?_
        show Gl p e below P (T8.setTop (mkF m 53 #[.val (.ref a1), .val (.ref a2), .val (.int (2 : Int32))] [(.int (0 : Int32))]))
        obtain ⟨fs, hr, hrun, hended, hW, hsame⟩ := X8.leave (v := some (.int (0 : Int32))) (fun h => by rw [Bd.returns] at h; cases h)
        refine ⟨_, _, retN X8 hx (t := .boolean) Bd.returns (by simp) (hb hby d39_53) hr, hrun, hended, hPost _ _ ⟨_, _, rfl, ?_, ⟨_, rfl⟩, hW, hsame.mono (by decide) (by decide)⟩⟩
        show Q39 Z a1 a2 ([c0, c1] : List Int32) ([d0, d1] : List Int32) G1 G3 z h0 n0 _ T8.heap _
        rw [e8]
        exact ⟨by rw [hz0], N8, rfl⟩
    · refine Gl.st (fun _ k => XS.icmpNo X6.here hx rfl (hb hby d39_29) rfl (feq (hq0 : ¬ (c0 = d0))).1 k) ?_
      show Gl p e below P (T6.setTop (mkF m 32 #[.val (.ref a1), .val (.ref a2), .val (.int (2 : Int32))] []))
      have hz0 : z = (0 : Int32) := by rcases hz with ⟨q, -⟩ | ⟨-, q⟩ <;> first | exact q | (simp at q; simp_all)
      refine Gl.st (fun _ k => XS.iconst X6.here hx rfl (hb hby d39_32) k) ?_
      show Gl p e below P (T6.setTop (mkF m 33 #[.val (.ref a1), .val (.ref a2), .val (.int (2 : Int32))] [(.int (0 : Int32))]))
      obtain ⟨fs, hr, hrun, hended, hW, hsame⟩ := X6.leave (v := some (.int (0 : Int32))) (fun h => by rw [Bd.returns] at h; cases h)
      refine ⟨_, _, retN X6 hx (t := .boolean) Bd.returns (by simp) (hb hby d39_33) hr, hrun, hended, hPost _ _ ⟨_, _, rfl, ?_, ⟨_, rfl⟩, hW, hsame.mono (by decide) (by decide)⟩⟩
      show Q39 Z a1 a2 ([c0, c1] : List Int32) ([d0, d1] : List Int32) G1 G3 z h0 n0 _ T6.heap _
      rw [e6]
      exact ⟨by rw [hz0], N6, rfl⟩
theorem pn_40 : plainName "com/example/andersite/andersite/result/CallEdge" = true := by first | (simp [plainName, overriddenIn]; done) | decide +kernel
theorem ef_40 (m : MethodId) (x0 : Addr) : entryFrame m #[(.ref x0), .null] 3 = mkF m 0 #[.val (.ref x0), .val .null, .unset] [] := by first | (simp [entryFrame, mkF, argsToLocals, Value.category]; done) | rfl
def Q40 (Z : State) (a1 : Addr) (h0 : Heap) (n0 : Nat) (v : Option Value) (h : Heap) (L : List Loc) : Prop := v = some (.int (0 : Int32)) ∧ Fr n0 L ∧ h = h0
set_option maxRecDepth 65536 in
set_option maxHeartbeats 40000000 in
theorem rm40 (l : Launch) (Z : State) (a0 : Array Value) (hw : ∀ d ∈ tables_1, d.before a0 Z = true) (ws : List Jvm.Cond) (a1 : Addr) (h0 : Heap) (n0 : Nat) (Z0 : n0 ≤ h0.size)  :
    MetFree l (⟨"com/example/andersite/andersite/result/CallEdge", "equals", "(Ljava/lang/Object;)Z"⟩ : MethodName) (head1 (Jvm.Cond.code (⟨"com/example/andersite/andersite/result/CallEdge", "equals", "(Ljava/lang/Object;)Z"⟩ : MethodName) prog_58_method_4_code 3 (some .boolean) :: ws) ({ frames := 0, cells := 0, slots := 0, locals := 0 } : Room)) (fun a U => a = #[(.ref a1), .null] ∧ Z.Warmed39 U.vm ∧ U.heap = h0) (fun _ _ _ _ _ => True) (fun _ U o U' => ∃ v L, o = .returned v ∧ Q40 Z a1 h0 n0 v U'.heap L ∧ FrameEnd U o U' L ({ frames := 0, cells := 0, slots := 0, locals := 0 } : Room).cells ({ frames := 0, cells := 0, slots := 0, locals := 0 } : Room).slots) := by
  refine MetFree.of_bodySF (plainFor_of_name pn_40) hisR ?_
  intro p e s m args below meth c s₁ Bd hml0 hP hK
  obtain ⟨rfl, hZ, hh⟩ := hP
  have hx := Bd.exec
  have hby := Bd.bytes
  have hml : c.maxLocals = 3 := hml0
  have hown : s.vm.findClass "com/example/andersite/andersite/result/CallEdge" = some m.cls := findClass_of_methodNamed Bd.named
  have hnm := (name_of_methodNamed Bd.named Bd.method).1
  have X0 : Stand p l e ({ frames := 0, cells := 0, slots := 0, locals := 0 } : Room) s m #[(.ref a1), .null] below meth c s₁ [] 0 0 := Stand.of_body Bd
  have e0 : s₁.heap = h0 := by rw [← hh, Bd.state]; rfl
  have N0 := Fr.nil n0
  refine Gl.gen fun P hPost => ?_
  refine Gl.st (fun t k => castTop (ef_40 m a1 ) k) ?_
  show Gl p e below P (s₁.setTop (mkF m 0 #[.val (.ref a1), .val .null, .unset] []))
  refine Gl.st (fun _ k => XS.aloadN X0.here hx rfl (hb hby d40_0) rfl rfl k) ?_
  show Gl p e below P (s₁.setTop (mkF m 1 #[.val (.ref a1), .val .null, .unset] [.null]))
  refine Gl.st (X0.instanceofNull hx (g := (mkF m 1 #[.val (.ref a1), .val .null, .unset] [.null])) rfl rfl (hb hby d40_1)) ?_
  show Gl p e below P (s₁.setTop (mkF m 4 #[.val (.ref a1), .val .null, .unset] [(.int (0 : Int32))]))
  refine Gl.st (fun _ k => XS.ifYes X0.here hx rfl (pc0 := 4) (pc' := 44) rfl (hb hby d40_4) rfl ((if0 _ _).trans (teq (by decide : (0 : Int32) = (0 : Int32))).1) (by decide) (by decide) k) ?_
  show Gl p e below P (s₁.setTop (mkF m 44 #[.val (.ref a1), .val .null, .unset] []))
  refine Gl.st (fun _ k => XS.iconst X0.here hx rfl (hb hby d40_44) k) ?_
  show Gl p e below P (s₁.setTop (mkF m 45 #[.val (.ref a1), .val .null, .unset] [(.int (0 : Int32))]))
  obtain ⟨fs, hr, hrun, hended, hW, hsame⟩ := X0.leave (v := some (.int (0 : Int32))) (fun h => by rw [Bd.returns] at h; cases h)
  refine ⟨_, _, retN X0 hx (t := .boolean) Bd.returns (by simp) (hb hby d40_45) hr, hrun, hended, hPost _ _ ⟨_, _, rfl, ?_, ⟨_, rfl⟩, hW, hsame.mono (by decide) (by decide)⟩⟩
  show Q40 Z a1 h0 n0 _ s₁.heap _
  rw [e0]
  exact ⟨rfl, N0, rfl⟩
theorem pn_41 : plainName "com/example/andersite/andersite/result/CallEdge" = true := by first | (simp [plainName, overriddenIn]; done) | decide +kernel
theorem ef_41 (m : MethodId) (x0 : Addr) (x1 : Addr) : entryFrame m #[(.ref x0), (.ref x1)] 3 = mkF m 0 #[.val (.ref x0), .val (.ref x1), .unset] [] := by first | (simp [entryFrame, mkF, argsToLocals, Value.category]; done) | rfl
def Q41 (Z : State) (a1 : Addr) (a2 : Addr) (h0 : Heap) (n0 : Nat) (v : Option Value) (h : Heap) (L : List Loc) : Prop := v = some (.int (0 : Int32)) ∧ Fr n0 L ∧ h = h0
set_option maxRecDepth 65536 in
set_option maxHeartbeats 40000000 in
theorem rm41 (l : Launch) (Z : State) (a0 : Array Value) (hw : ∀ d ∈ tables_1, d.before a0 Z = true) (ws : List Jvm.Cond) (a1 : Addr) (a2 : Addr) (h0 : Heap) (n0 : Nat) (Z0 : n0 ≤ h0.size) (E2 : Exa Z h0 a2 "java/lang/String") :
    MetFree l (⟨"com/example/andersite/andersite/result/CallEdge", "equals", "(Ljava/lang/Object;)Z"⟩ : MethodName) (head1 (Jvm.Cond.code (⟨"com/example/andersite/andersite/result/CallEdge", "equals", "(Ljava/lang/Object;)Z"⟩ : MethodName) prog_58_method_4_code 3 (some .boolean) :: ws) ({ frames := 0, cells := 0, slots := 0, locals := 0 } : Room)) (fun a U => a = #[(.ref a1), (.ref a2)] ∧ Z.Warmed39 U.vm ∧ U.heap = h0) (fun _ _ _ _ _ => True) (fun _ U o U' => ∃ v L, o = .returned v ∧ Q41 Z a1 a2 h0 n0 v U'.heap L ∧ FrameEnd U o U' L ({ frames := 0, cells := 0, slots := 0, locals := 0 } : Room).cells ({ frames := 0, cells := 0, slots := 0, locals := 0 } : Room).slots) := by
  refine MetFree.of_bodySF (plainFor_of_name pn_41) hisR ?_
  intro p e s m args below meth c s₁ Bd hml0 hP hK
  obtain ⟨rfl, hZ, hh⟩ := hP
  have hx := Bd.exec
  have hby := Bd.bytes
  have hml : c.maxLocals = 3 := hml0
  have hown : s.vm.findClass "com/example/andersite/andersite/result/CallEdge" = some m.cls := findClass_of_methodNamed Bd.named
  have hnm := (name_of_methodNamed Bd.named Bd.method).1
  have X0 : Stand p l e ({ frames := 0, cells := 0, slots := 0, locals := 0 } : Room) s m #[(.ref a1), (.ref a2)] below meth c s₁ [] 0 0 := Stand.of_body Bd
  have e0 : s₁.heap = h0 := by rw [← hh, Bd.state]; rfl
  have N0 := Fr.nil n0
  refine Gl.gen fun P hPost => ?_
  refine Gl.st (fun t k => castTop (ef_41 m a1 a2 ) k) ?_
  show Gl p e below P (s₁.setTop (mkF m 0 #[.val (.ref a1), .val (.ref a2), .unset] []))
  refine Gl.st (fun _ k => XS.aloadN X0.here hx rfl (hb hby d40_0) rfl rfl k) ?_
  show Gl p e below P (s₁.setTop (mkF m 1 #[.val (.ref a1), .val (.ref a2), .unset] [(.ref a2)]))
  obtain ⟨T1, X1, e1, st1⟩ := instNo X0 hx hZ hown (hw _ (List.mem_of_getElem? (i := 76) rfl)) e0 E2 (own_no (hw _ (List.mem_of_getElem? (i := 109) rfl)) (hw _ (List.mem_of_getElem? (i := 110) rfl)) (hw _ (List.mem_of_getElem? (i := 27) rfl)) (by decide) (by decide)) (g := (mkF m 1 #[.val (.ref a1), .val (.ref a2), .unset] [(.ref a2)])) rfl rfl (hb hby d40_1)
  refine Gl.st st1 ?_
  show Gl p e below P (T1.setTop (mkF m 4 #[.val (.ref a1), .val (.ref a2), .unset] [(.int (0 : Int32))]))
  refine Gl.st (fun _ k => XS.ifYes X1.here hx rfl (pc0 := 4) (pc' := 44) rfl (hb hby d40_4) rfl ((if0 _ _).trans (teq (by decide : (0 : Int32) = (0 : Int32))).1) (by decide) (by decide) k) ?_
  show Gl p e below P (T1.setTop (mkF m 44 #[.val (.ref a1), .val (.ref a2), .unset] []))
  refine Gl.st (fun _ k => XS.iconst X1.here hx rfl (hb hby d40_44) k) ?_
  show Gl p e below P (T1.setTop (mkF m 45 #[.val (.ref a1), .val (.ref a2), .unset] [(.int (0 : Int32))]))
  obtain ⟨fs, hr, hrun, hended, hW, hsame⟩ := X1.leave (v := some (.int (0 : Int32))) (fun h => by rw [Bd.returns] at h; cases h)
  refine ⟨_, _, retN X1 hx (t := .boolean) Bd.returns (by simp) (hb hby d40_45) hr, hrun, hended, hPost _ _ ⟨_, _, rfl, ?_, ⟨_, rfl⟩, hW, hsame.mono (by decide) (by decide)⟩⟩
  show Q41 Z a1 a2 h0 n0 _ T1.heap _
  rw [e1]
  exact ⟨rfl, N0, rfl⟩
theorem pn_42 : plainName "com/example/andersite/andersite/result/CallEdge" = true := by first | (simp [plainName, overriddenIn]; done) | decide +kernel
theorem ef_42 (m : MethodId) (x0 : Addr) (x1 : Addr) : entryFrame m #[(.ref x0), (.ref x1)] 3 = mkF m 0 #[.val (.ref x0), .val (.ref x1), .unset] [] := by first | (simp [entryFrame, mkF, argsToLocals, Value.category]; done) | rfl
def Q42 (Z : State) (a1 : Addr) (a2 : Addr) (s1 : Addr) (s2 : Addr) (s3 : Addr) (s4 : Addr) (c1 : List Int32) (c2 : List Int32) (c3 : List Int32) (c4 : List Int32) (G1 : Int32) (z : Int32) (h0 : Heap) (n0 : Nat) (v : Option Value) (h : Heap) (L : List Loc) : Prop := v = some (.int z) ∧ Fr n0 L ∧ h = h0
set_option maxRecDepth 65536 in
set_option maxHeartbeats 40000000 in
theorem rm42 (l : Launch) (Z : State) (a0 : Array Value) (hw : ∀ d ∈ tables_1, d.before a0 Z = true) (ws : List Jvm.Cond) (a1 : Addr) (a2 : Addr) (s1 : Addr) (s2 : Addr) (s3 : Addr) (s4 : Addr) (c1 : List Int32) (c2 : List Int32) (c3 : List Int32) (c4 : List Int32) (G1 : Int32) (z : Int32) (h0 : Heap) (n0 : Nat) (Z0 : n0 ≤ h0.size) (E2 : Exa Z h0 a2 "com/example/andersite/andersite/result/CallEdge") (F1 : Fld Z h0 a1 "com/example/andersite/andersite/result/CallEdge" "caller" "Ljava/lang/String;" (.ref s1)) (F2 : Fld Z h0 a1 "com/example/andersite/andersite/result/CallEdge" "callee" "Ljava/lang/String;" (.ref s2)) (F3 : Fld Z h0 a2 "com/example/andersite/andersite/result/CallEdge" "caller" "Ljava/lang/String;" (.ref s3)) (F4 : Fld Z h0 a2 "com/example/andersite/andersite/result/CallEdge" "callee" "Ljava/lang/String;" (.ref s4)) (U1 : own_Str Z h0 s1 c1) (U2 : own_Str Z h0 s2 c2) (U3 : own_Str Z h0 s3 c3) (U4 : own_Str Z h0 s4 c4) (hz : ((c1 = c3 ∧ c2 = c4) ∧ z = (1 : Int32)) ∨ (¬ (c1 = c3 ∧ c2 = c4) ∧ z = (0 : Int32))) (O2 : Sta Z Z.heap "java/lang/String" "COMPACT_STRINGS" "Z" (.int G1)) (P5 : ¬ (G1 = (0 : Int32))) (X00 : Old Z n0 h0) :
    MetFree l (⟨"com/example/andersite/andersite/result/CallEdge", "equals", "(Ljava/lang/Object;)Z"⟩ : MethodName) (head1 (Jvm.Cond.code (⟨"com/example/andersite/andersite/result/CallEdge", "equals", "(Ljava/lang/Object;)Z"⟩ : MethodName) prog_58_method_4_code 3 (some .boolean) :: ws) ({ frames := 2, cells := 0, slots := 0, locals := 28 } : Room)) (fun a U => a = #[(.ref a1), (.ref a2)] ∧ Z.Warmed39 U.vm ∧ U.heap = h0) (fun _ _ _ _ _ => True) (fun _ U o U' => ∃ v L, o = .returned v ∧ Q42 Z a1 a2 s1 s2 s3 s4 c1 c2 c3 c4 G1 z h0 n0 v U'.heap L ∧ FrameEnd U o U' L ({ frames := 2, cells := 0, slots := 0, locals := 28 } : Room).cells ({ frames := 2, cells := 0, slots := 0, locals := 28 } : Room).slots) := by
  refine MetFree.of_bodySF (plainFor_of_name pn_42) hisR ?_
  intro p e s m args below meth c s₁ Bd hml0 hP hK
  obtain ⟨rfl, hZ, hh⟩ := hP
  have hx := Bd.exec
  have hby := Bd.bytes
  have hml : c.maxLocals = 3 := hml0
  have hown : s.vm.findClass "com/example/andersite/andersite/result/CallEdge" = some m.cls := findClass_of_methodNamed Bd.named
  have hnm := (name_of_methodNamed Bd.named Bd.method).1
  have X0 : Stand p l e ({ frames := 2, cells := 0, slots := 0, locals := 28 } : Room) s m #[(.ref a1), (.ref a2)] below meth c s₁ [] 0 0 := Stand.of_body Bd
  have e0 : s₁.heap = h0 := by rw [← hh, Bd.state]; rfl
  have N0 := Fr.nil n0
  refine Gl.gen fun P hPost => ?_
  refine Gl.st (fun t k => castTop (ef_42 m a1 a2 ) k) ?_
  show Gl p e below P (s₁.setTop (mkF m 0 #[.val (.ref a1), .val (.ref a2), .unset] []))
  obtain ⟨hp1, hl1, t1, kb1, SE1, SC1, SV1, SA1⟩ := id U1
  have cd1 : StrChars.Road.CodA c1 0 (Int32.ofNat (c1 : List Int32).length) (((c1 : List Int32).map fun c => c.toInt8.toInt32).map Value.int) := StrChars.Road.codOf rfl (fun c hc => (hp1 c hc).2)
  have bd1 := own_up _ hp1
  obtain ⟨hp2, hl2, t2, kb2, SE2, SC2, SV2, SA2⟩ := id U2
  have cd2 : StrChars.Road.CodA c2 0 (Int32.ofNat (c2 : List Int32).length) (((c2 : List Int32).map fun c => c.toInt8.toInt32).map Value.int) := StrChars.Road.codOf rfl (fun c hc => (hp2 c hc).2)
  have bd2 := own_up _ hp2
  obtain ⟨hp3, hl3, t3, kb3, SE3, SC3, SV3, SA3⟩ := id U3
  have cd3 : StrChars.Road.CodA c3 0 (Int32.ofNat (c3 : List Int32).length) (((c3 : List Int32).map fun c => c.toInt8.toInt32).map Value.int) := StrChars.Road.codOf rfl (fun c hc => (hp3 c hc).2)
  have bd3 := own_up _ hp3
  obtain ⟨hp4, hl4, t4, kb4, SE4, SC4, SV4, SA4⟩ := id U4
  have cd4 : StrChars.Road.CodA c4 0 (Int32.ofNat (c4 : List Int32).length) (((c4 : List Int32).map fun c => c.toInt8.toInt32).map Value.int) := StrChars.Road.codOf rfl (fun c hc => (hp4 c hc).2)
  have bd4 := own_up _ hp4
  have heq : ∀ d ∈ StrChars.Road.wordsEq, d.before a0 Z = true := fun d hd => hw d ((by decide +kernel : ∀ d ∈ StrChars.Road.wordsEq, d ∈ tables_1) d hd)
  refine Gl.st (fun _ k => XS.aloadN X0.here hx rfl (hb hby d40_0) rfl rfl k) ?_
  show Gl p e below P (s₁.setTop (mkF m 1 #[.val (.ref a1), .val (.ref a2), .unset] [(.ref a2)]))
  obtain ⟨T1, X1, e1, st1⟩ := instY X0 hx hZ hown (hw _ (List.mem_of_getElem? (i := 76) rfl)) e0 (Ins.self E2) (g := (mkF m 1 #[.val (.ref a1), .val (.ref a2), .unset] [(.ref a2)])) rfl rfl (hb hby d40_1)
  refine Gl.st st1 ?_
  show Gl p e below P (T1.setTop (mkF m 4 #[.val (.ref a1), .val (.ref a2), .unset] [(.int (1 : Int32))]))
  refine Gl.st (fun _ k => XS.ifNo X1.here hx rfl (hb hby d40_4) rfl ((if0 _ _).trans (feq (by decide : ¬ ((1 : Int32) = (0 : Int32)))).1) k) ?_
  show Gl p e below P (T1.setTop (mkF m 7 #[.val (.ref a1), .val (.ref a2), .unset] []))
  refine Gl.st (fun _ k => XS.aloadN X1.here hx rfl (hb hby d40_7) rfl rfl k) ?_
  show Gl p e below P (T1.setTop (mkF m 8 #[.val (.ref a1), .val (.ref a2), .unset] [(.ref a2)]))
  obtain ⟨T2, X2, e2, st2⟩ := castY X1 hx hZ hown (hw _ (List.mem_of_getElem? (i := 76) rfl)) e1 (Ins.self E2) (g := (mkF m 8 #[.val (.ref a1), .val (.ref a2), .unset] [(.ref a2)])) rfl rfl (hb hby d40_8)
  refine Gl.st st2 ?_
  show Gl p e below P (T2.setTop (mkF m 11 #[.val (.ref a1), .val (.ref a2), .unset] [(.ref a2)]))
  refine Gl.st (fun _ k => XS.astoreN X2.here hx rfl (hb hby d40_11) rfl rfl (l' := #[.val (.ref a1), .val (.ref a2), .val (.ref a2)]) rfl k) ?_
  show Gl p e below P (T2.setTop (mkF m 12 #[.val (.ref a1), .val (.ref a2), .val (.ref a2)] []))
  refine Gl.st (fun _ k => XS.aloadN X2.here hx rfl (hb hby d40_12) rfl rfl k) ?_
  show Gl p e below P (T2.setTop (mkF m 13 #[.val (.ref a1), .val (.ref a2), .val (.ref a2)] [(.ref a1)]))
  obtain ⟨T3, X3, e3, st3⟩ := getF X2 hx hZ hown (host := "") (Or.inl (hw _ (List.mem_of_getElem? (i := 39) rfl))) Via.refl e2 F1 (g := (mkF m 13 #[.val (.ref a1), .val (.ref a2), .val (.ref a2)] [(.ref a1)])) rfl rfl (hb hby d40_13)
  refine Gl.st st3 ?_
  show Gl p e below P (T3.setTop (mkF m 16 #[.val (.ref a1), .val (.ref a2), .val (.ref a2)] [(.ref s1)]))
  refine Gl.st (fun _ k => XS.aloadN X3.here hx rfl (hb hby d40_16) rfl rfl k) ?_
  show Gl p e below P (T3.setTop (mkF m 17 #[.val (.ref a1), .val (.ref a2), .val (.ref a2)] [(.ref a2), (.ref s1)]))
  obtain ⟨T4, X4, e4, st4⟩ := getF X3 hx hZ hown (host := "") (Or.inl (hw _ (List.mem_of_getElem? (i := 39) rfl))) Via.refl e3 F3 (g := (mkF m 17 #[.val (.ref a1), .val (.ref a2), .val (.ref a2)] [(.ref a2), (.ref s1)])) rfl rfl (hb hby d40_17)
  refine Gl.st st4 ?_
  show Gl p e below P (T4.setTop (mkF m 20 #[.val (.ref a1), .val (.ref a2), .val (.ref a2)] [(.ref s3), (.ref s1)]))
  obtain ⟨cq5, kq5, q5a, q5b, q5c⟩ := isOf hZ e4 SE1
  obtain ⟨_, _, ⟨T5, L5, k5, n5⟩, -, X5, ⟨Lc5, hQ5, l5, y5, z5⟩, st5⟩ := X4.virtualBack hx (y := (⟨"java/lang/String", "equals", "(Ljava/lang/Object;)Z"⟩ : MethodName)) (z := (⟨"java/lang/String", "equals", "(Ljava/lang/Object;)Z"⟩ : MethodName)) hown (mvT hZ (hw _ (List.mem_of_getElem? (i := 78) rfl))) (mvT hZ (hw _ (List.mem_of_getElem? (i := 79) rfl))) (notFace_of_selects (args := #[]) (mvT hZ (hw _ (List.mem_of_getElem? (i := 81) rfl)))) (mvT hZ (hw _ (List.mem_of_getElem? (i := 81) rfl))) (mvT hZ (hw _ (List.mem_of_getElem? (i := 80) rfl))) (by decide) (StrChars.Road.eqW (W := 0) hZ heq (kI := 4) (hw _ (List.mem_of_getElem? (i := 6) rfl)) SE1 SV1 SC1 SA1 cd1 bd1 hl1 SE3 SV3 SC3 SA3 cd3 bd3 hl3 (O2.ext X00.2) P5 (by decide) (by decide)) q5a q5c (g := (mkF m 20 #[.val (.ref a1), .val (.ref a2), .val (.ref a2)] [(.ref s3), (.ref s1)])) rfl (by rw [hml]; rfl) (Steps.refl _) (argsL := [(.ref s3)]) (rest := []) (lenOf pd_5 rfl) rfl (by show 2 * 0 + _ ≤ _; exact Nat.le_of_eq rfl) (hb hby d40_20) (fun _ _ => ⟨rfl, e4, (by decide : 0 + 0 ≤ _), (by decide : 0 + 0 ≤ _)⟩)
  dsimp only [Pt.U, Pt.locs, Pt.cells, Pt.slots] at X5 l5 y5 z5 st5 hQ5
  subst l5 y5 z5
  obtain ⟨hv1, rfl, e5⟩ := hQ5
  rcases hv1 with ⟨rfl, q1⟩ | ⟨rfl, q1⟩
  · have N5 := Fr.app N0 (Fr.nil n0)
    refine Gl.tr st5 ?_
    show Gl p e below P (T5.setTop (mkF m 23 #[.val (.ref a1), .val (.ref a2), .val (.ref a2)] [(.int (1 : Int32))]))
    refine Gl.st (fun _ k => XS.ifNo X5.here hx rfl (hb hby d40_23) rfl ((if0 _ _).trans (feq (by decide : ¬ ((1 : Int32) = (0 : Int32)))).1) k) ?_
    show Gl p e below P (T5.setTop (mkF m 26 #[.val (.ref a1), .val (.ref a2), .val (.ref a2)] []))
    refine Gl.st (fun _ k => XS.aloadN X5.here hx rfl (hb hby d40_26) rfl rfl k) ?_
    show Gl p e below P (T5.setTop (mkF m 27 #[.val (.ref a1), .val (.ref a2), .val (.ref a2)] [(.ref a1)]))
    obtain ⟨T6, X6, e6, st6⟩ := getF X5 hx hZ hown (host := "") (Or.inl (hw _ (List.mem_of_getElem? (i := 42) rfl))) Via.refl e5 F2 (g := (mkF m 27 #[.val (.ref a1), .val (.ref a2), .val (.ref a2)] [(.ref a1)])) rfl rfl (hb hby d40_27)
    refine Gl.st st6 ?_
    show Gl p e below P (T6.setTop (mkF m 30 #[.val (.ref a1), .val (.ref a2), .val (.ref a2)] [(.ref s2)]))
    refine Gl.st (fun _ k => XS.aloadN X6.here hx rfl (hb hby d40_30) rfl rfl k) ?_
    show Gl p e below P (T6.setTop (mkF m 31 #[.val (.ref a1), .val (.ref a2), .val (.ref a2)] [(.ref a2), (.ref s2)]))
    obtain ⟨T7, X7, e7, st7⟩ := getF X6 hx hZ hown (host := "") (Or.inl (hw _ (List.mem_of_getElem? (i := 42) rfl))) Via.refl e6 F4 (g := (mkF m 31 #[.val (.ref a1), .val (.ref a2), .val (.ref a2)] [(.ref a2), (.ref s2)])) rfl rfl (hb hby d40_31)
    refine Gl.st st7 ?_
    show Gl p e below P (T7.setTop (mkF m 34 #[.val (.ref a1), .val (.ref a2), .val (.ref a2)] [(.ref s4), (.ref s2)]))
    obtain ⟨cq8, kq8, q8a, q8b, q8c⟩ := isOf hZ e7 SE2
    obtain ⟨_, _, ⟨T8, L8, k8, n8⟩, -, X8, ⟨Lc8, hQ8, l8, y8, z8⟩, st8⟩ := X7.virtualBack hx (y := (⟨"java/lang/String", "equals", "(Ljava/lang/Object;)Z"⟩ : MethodName)) (z := (⟨"java/lang/String", "equals", "(Ljava/lang/Object;)Z"⟩ : MethodName)) hown (mvT hZ (hw _ (List.mem_of_getElem? (i := 78) rfl))) (mvT hZ (hw _ (List.mem_of_getElem? (i := 79) rfl))) (notFace_of_selects (args := #[]) (mvT hZ (hw _ (List.mem_of_getElem? (i := 81) rfl)))) (mvT hZ (hw _ (List.mem_of_getElem? (i := 81) rfl))) (mvT hZ (hw _ (List.mem_of_getElem? (i := 80) rfl))) (by decide) (StrChars.Road.eqW (W := 0) hZ heq (kI := 4) (hw _ (List.mem_of_getElem? (i := 6) rfl)) SE2 SV2 SC2 SA2 cd2 bd2 hl2 SE4 SV4 SC4 SA4 cd4 bd4 hl4 (O2.ext X00.2) P5 (by decide) (by decide)) q8a q8c (g := (mkF m 34 #[.val (.ref a1), .val (.ref a2), .val (.ref a2)] [(.ref s4), (.ref s2)])) rfl (by rw [hml]; rfl) (Steps.refl _) (argsL := [(.ref s4)]) (rest := []) (lenOf pd_5 rfl) rfl (by show 2 * 0 + _ ≤ _; exact Nat.le_of_eq rfl) (hb hby d40_34) (fun _ _ => ⟨rfl, e7, (by decide : 0 + 0 ≤ _), (by decide : 0 + 0 ≤ _)⟩)
    dsimp only [Pt.U, Pt.locs, Pt.cells, Pt.slots] at X8 l8 y8 z8 st8 hQ8
    subst l8 y8 z8
    obtain ⟨hv2, rfl, e8⟩ := hQ8
    rcases hv2 with ⟨rfl, q2⟩ | ⟨rfl, q2⟩
    · have N8 := Fr.app N5 (Fr.nil n0)
      refine Gl.tr st8 ?_
      show Gl p e below P (T8.setTop (mkF m 37 #[.val (.ref a1), .val (.ref a2), .val (.ref a2)] [(.int (1 : Int32))]))
      refine Gl.st (fun _ k => XS.ifNo X8.here hx rfl (hb hby d40_37) rfl ((if0 _ _).trans (feq (by decide : ¬ ((1 : Int32) = (0 : Int32)))).1) k) ?_
      show Gl p e below P (T8.setTop (mkF m 40 #[.val (.ref a1), .val (.ref a2), .val (.ref a2)] []))
      refine Gl.st (fun _ k => XS.iconst X8.here hx rfl (hb hby d40_40) k) ?_
      show Gl p e below P (T8.setTop (mkF m 41 #[.val (.ref a1), .val (.ref a2), .val (.ref a2)] [(.int (1 : Int32))]))
      refine Gl.st (fun _ k => XS.goto X8.here hx rfl (pc0 := 41) (pc' := 45) rfl (hb hby d40_41) (by decide) (by decide) k) ?_
      show Gl p e below P (T8.setTop (mkF m 45 #[.val (.ref a1), .val (.ref a2), .val (.ref a2)] [(.int (1 : Int32))]))
      have hz1 : z = (1 : Int32) := by rcases hz with ⟨-, q⟩ | ⟨q, -⟩ <;> first | exact q | exact absurd ⟨q1, q2⟩ q
      obtain ⟨fs, hr, hrun, hended, hW, hsame⟩ := X8.leave (v := some (.int (1 : Int32))) (fun h => by rw [Bd.returns] at h; cases h)
      refine ⟨_, _, retN X8 hx (t := .boolean) Bd.returns (by simp) (hb hby d40_45) hr, hrun, hended, hPost _ _ ⟨_, _, rfl, ?_, ⟨_, rfl⟩, hW, hsame.mono (by decide) (by decide)⟩⟩
      show Q42 Z a1 a2 s1 s2 s3 s4 c1 c2 c3 c4 G1 z h0 n0 _ T8.heap _
      rw [e8]
      exact ⟨by rw [hz1], N8, rfl⟩
    · have N8 := Fr.app N5 (Fr.nil n0)
      refine Gl.tr st8 ?_
      show Gl p e below P (T8.setTop (mkF m 37 #[.val (.ref a1), .val (.ref a2), .val (.ref a2)] [(.int (0 : Int32))]))
      refine Gl.st (fun _ k => XS.ifYes X8.here hx rfl (pc0 := 37) (pc' := 44) rfl (hb hby d40_37) rfl ((if0 _ _).trans (teq (by decide : (0 : Int32) = (0 : Int32))).1) (by decide) (by decide) k) ?_
      show Gl p e below P (T8.setTop (mkF m 44 #[.val (.ref a1), .val (.ref a2), .val (.ref a2)] []))
      refine Gl.st (fun _ k => XS.iconst X8.here hx rfl (hb hby d40_44) k) ?_
      show Gl p e below P (T8.setTop (mkF m 45 #[.val (.ref a1), .val (.ref a2), .val (.ref a2)] [(.int (0 : Int32))]))
      have hz0 : z = (0 : Int32) := by rcases hz with ⟨q, -⟩ | ⟨-, q⟩ <;> first | exact q | exact absurd q.2 q2
      obtain ⟨fs, hr, hrun, hended, hW, hsame⟩ := X8.leave (v := some (.int (0 : Int32))) (fun h => by rw [Bd.returns] at h; cases h)
      refine ⟨_, _, retN X8 hx (t := .boolean) Bd.returns (by simp) (hb hby d40_45) hr, hrun, hended, hPost _ _ ⟨_, _, rfl, ?_, ⟨_, rfl⟩, hW, hsame.mono (by decide) (by decide)⟩⟩
      show Q42 Z a1 a2 s1 s2 s3 s4 c1 c2 c3 c4 G1 z h0 n0 _ T8.heap _
      rw [e8]
      exact ⟨by rw [hz0], N8, rfl⟩
  · have N5 := Fr.app N0 (Fr.nil n0)
    refine Gl.tr st5 ?_
    show Gl p e below P (T5.setTop (mkF m 23 #[.val (.ref a1), .val (.ref a2), .val (.ref a2)] [(.int (0 : Int32))]))
    refine Gl.st (fun _ k => XS.ifYes X5.here hx rfl (pc0 := 23) (pc' := 44) rfl (hb hby d40_23) rfl ((if0 _ _).trans (teq (by decide : (0 : Int32) = (0 : Int32))).1) (by decide) (by decide) k) ?_
    show Gl p e below P (T5.setTop (mkF m 44 #[.val (.ref a1), .val (.ref a2), .val (.ref a2)] []))
    refine Gl.st (fun _ k => XS.iconst X5.here hx rfl (hb hby d40_44) k) ?_
    show Gl p e below P (T5.setTop (mkF m 45 #[.val (.ref a1), .val (.ref a2), .val (.ref a2)] [(.int (0 : Int32))]))
    have hz0 : z = (0 : Int32) := by rcases hz with ⟨q, -⟩ | ⟨-, q⟩ <;> first | exact q | exact absurd q.1 q1
    obtain ⟨fs, hr, hrun, hended, hW, hsame⟩ := X5.leave (v := some (.int (0 : Int32))) (fun h => by rw [Bd.returns] at h; cases h)
    refine ⟨_, _, retN X5 hx (t := .boolean) Bd.returns (by simp) (hb hby d40_45) hr, hrun, hended, hPost _ _ ⟨_, _, rfl, ?_, ⟨_, rfl⟩, hW, hsame.mono (by decide) (by decide)⟩⟩
    show Q42 Z a1 a2 s1 s2 s3 s4 c1 c2 c3 c4 G1 z h0 n0 _ T5.heap _
    rw [e5]
    exact ⟨by rw [hz0], N5, rfl⟩
theorem pn_0 : plainName "com/example/andersite/andersite/result/CallEdgeEqualsPinLaw" = true := by first | (simp [plainName, overriddenIn]; done) | decide +kernel
theorem ef_0 (m : MethodId) (x0 : Int32) (x1 : Int32) (x2 : Int32) (x3 : Int32) (x4 : Int32) : entryFrame m #[(.int x0), (.int x1), (.int x2), (.int x3), (.int x4)] maxLocals = mkF m 0 #[.val (.int x0), .val (.int x1), .val (.int x2), .val (.int x3), .val (.int x4), .unset, .unset, .unset, .unset, .unset, .unset, .unset, .unset] [] := by first | (simp [entryFrame, mkF, argsToLocals, Value.category, maxLocals]; done) | rfl
def Q0 (Z : State) (p1 : Int32) (p2 : Int32) (p3 : Int32) (p4 : Int32) (p5 : Int32) (G1 : Int32) (G3 : Value) (h0 : Heap) (n0 : Nat) (v : Option Value) (h : Heap) (L : List Loc) : Prop := v = some (.int 1) ∧ Fr n0 L
set_option maxRecDepth 65536 in
set_option maxHeartbeats 40000000 in
theorem rm0 (l : Launch) (Z : State) (a0 : Array Value) (hw : ∀ d ∈ tables_1, d.before a0 Z = true) (ws : List Jvm.Cond) (p1 : Int32) (p2 : Int32) (p3 : Int32) (p4 : Int32) (p5 : Int32) (G1 : Int32) (G3 : Value) (h0 : Heap) (n0 : Nat) (Z0 : n0 ≤ h0.size) (O4 : Sta Z Z.heap "jdk/internal/util/Preconditions" "SIOOBE_FORMATTER" "Ljava/util/function/BiFunction;" G3) (rG3 : G3.isRef = true) (O2 : Sta Z Z.heap "java/lang/String" "COMPACT_STRINGS" "Z" (.int G1)) (P5 : ¬ (G1 = (0 : Int32))) (X00 : Old Z n0 h0) :
    MetFree l x (head1 (Jvm.Cond.code x code maxLocals ret :: ws) room_1) (fun a U => a = #[(.int p1), (.int p2), (.int p3), (.int p4), (.int p5)] ∧ Z.Warmed39 U.vm ∧ U.heap = h0 ∧ CHv Z consts_1 U.vm h0) (fun _ _ _ _ _ => True) (fun _ U o U' => ∃ v L, o = .returned v ∧ Q0 Z p1 p2 p3 p4 p5 G1 G3 h0 n0 v U'.heap L ∧ CHr Z consts_1 U.vm U.heap U'.vm U'.heap ∧ ReturnedEndW U o U' L 48 3264) := by
  refine MetFree.of_bodySF (plainFor_of_name pn_0) hisR ?_
  intro p e s m args below meth c s₁ Bd hml0 hP hK
  obtain ⟨rfl, hZ, hh, hC⟩ := hP
  have hx := Bd.exec
  have hby := Bd.bytes
  have hml : c.maxLocals = 13 := hml0
  have hown : s.vm.findClass "com/example/andersite/andersite/result/CallEdgeEqualsPinLaw" = some m.cls := findClass_of_methodNamed Bd.named
  have hnm := (name_of_methodNamed Bd.named Bd.method).1
  have X0 : Stand p l e room_1 (s.setVm s.vm) m #[(.int p1), (.int p2), (.int p3), (.int p4), (.int p5)] below meth c s₁ [] 0 0 := Stand.of_body Bd
  have hS0 : s.Since s.vm 0 := (State.WarmedH.refl s).since 0
  have C0 : CHr Z consts_1 s.vm h0 s.vm h0 := CHr.refl hC
  have hZ0 : Z.Warmed39 (s.setVm s.vm).vm := hZ
  have hown0 : (s.setVm s.vm).vm.findClass "com/example/andersite/andersite/result/CallEdgeEqualsPinLaw" = some m.cls := hown
  have hEL := own_EW hw
  have wS := own_wS hw
  have e0 : s₁.heap = h0 := by rw [← hh, Bd.state]; rfl
  have N0 := Fr.nil n0
  refine Gl.gen fun P hPost => ?_
  refine Gl.st (fun t k => castTop (ef_0 m p1 p2 p3 p4 p5 ) k) ?_
  show Gl p e below P (s₁.setTop (mkF m 0 #[.val (.int p1), .val (.int p2), .val (.int p3), .val (.int p4), .val (.int p5), .unset, .unset, .unset, .unset, .unset, .unset, .unset, .unset] []))
  refine Gl.st (fun _ k => XS.iloadN X0.here hx rfl (hb hby at_0) rfl k) ?_
  show Gl p e below P (s₁.setTop (mkF m 1 #[.val (.int p1), .val (.int p2), .val (.int p3), .val (.int p4), .val (.int p5), .unset, .unset, .unset, .unset, .unset, .unset, .unset, .unset] [(.int p1)]))
  obtain ⟨_, _, ⟨T1, L1, k1, n1⟩, -, X1, hs1, hg1, ⟨Lc1, hQ1, l1, y1, z1, Cn1⟩, st1⟩ := callSS X0 hx (y := (⟨"com/example/andersite/andersite/result/CallEdgeEqualsPinLaw", "str", "(I)Ljava/lang/String;"⟩ : MethodName)) hown0 (mvT hZ0 (hw _ (List.mem_of_getElem? (i := 0) rfl))) (mvT hZ0 (hw _ (List.mem_of_getElem? (i := 1) rfl))) (mvT hZ0 (hw _ (List.mem_of_getElem? (i := 2) rfl))) (mvT hZ0 (hw _ (List.mem_of_getElem? (i := 3) rfl))) (by decide) (backOfSH (s := s) (W := 0) (rm36 l Z a0 hw [] p1 G1 h0 n0 Z0 O2 P5 X00) hZ0 (hw _ (List.mem_of_getElem? (i := 3) rfl)) (hw _ (List.mem_of_getElem? (i := 2) rfl)) (by decide) (by decide) hEL C0.1) (g := (mkF m 1 #[.val (.int p1), .val (.int p2), .val (.int p3), .val (.int p4), .val (.int p5), .unset, .unset, .unset, .unset, .unset, .unset, .unset, .unset] [(.int p1)])) rfl (by rw [hml]; rfl) (argsL := [(.int p1)]) (rest := []) (lenOf pd_6 rfl) rfl (by show 2 * 0 + _ ≤ _; exact Nat.le_of_eq rfl) (hb hby at_1) (fun _ _ => ⟨rfl, e0, (by decide : 0 + 6 ≤ _), (by decide : 0 + 12 ≤ _)⟩)
  dsimp only [Pt.U, Pt.locs, Pt.cells, Pt.slots] at X1 hs1 hg1 l1 y1 z1 st1 hQ1 Cn1
  subst l1 y1 z1
  obtain ⟨N1q, K1, s1, rfl, Ts1⟩ := hQ1
  have X1 : Stand p l e room_1 (s.setVm T1.vm) m _ below meth c T1 _ _ _ := X1
  have N1 := Fr.app N0 N1q
  have Z0_v1 : n0 ≤ T1.heap.size := Nat.le_trans Z0 K1.1
  have f_hk_v1 : 0 ≤ T1.heap.size := Nat.le_trans (Nat.zero_le _) K1.1
  have X00_v1 : Old Z n0 T1.heap := X00.keep K1 all0
  have hS1 : s.Since T1.vm T1.heap.size := foldS hS0 (by rw [e0]; exact (Nat.zero_le _)) hs1 hg1
  have hZ1 : Z.Warmed39 (s.setVm T1.vm).vm := State.Warmed39.trans (t := s.setVm s.vm) hZ0 hs1.1
  have hown1 : (s.setVm T1.vm).vm.findClass "com/example/andersite/andersite/result/CallEdgeEqualsPinLaw" = some m.cls := by rw [show (s.setVm T1.vm).vm = T1.vm from rfl, hs1.1.alike.findClass]; exact hown0
  have C_w1 : CHr Z consts_1 s.vm h0 T1.vm T1.heap := C0.trans Cn1
  refine Gl.tr st1 ?_
  show Gl p e below P (T1.setTop (mkF m 4 #[.val (.int p1), .val (.int p2), .val (.int p3), .val (.int p4), .val (.int p5), .unset, .unset, .unset, .unset, .unset, .unset, .unset, .unset] [(.ref s1)]))
  refine Gl.st (fun _ k => XS.astore X1.here hx rfl (hb hby at_4) rfl rfl (l' := #[.val (.int p1), .val (.int p2), .val (.int p3), .val (.int p4), .val (.int p5), .val (.ref s1), .unset, .unset, .unset, .unset, .unset, .unset, .unset]) rfl k) ?_
  show Gl p e below P (T1.setTop (mkF m 6 #[.val (.int p1), .val (.int p2), .val (.int p3), .val (.int p4), .val (.int p5), .val (.ref s1), .unset, .unset, .unset, .unset, .unset, .unset, .unset] []))
  refine Gl.st (fun _ k => XS.iloadN X1.here hx rfl (hb hby at_6) rfl k) ?_
  show Gl p e below P (T1.setTop (mkF m 7 #[.val (.int p1), .val (.int p2), .val (.int p3), .val (.int p4), .val (.int p5), .val (.ref s1), .unset, .unset, .unset, .unset, .unset, .unset, .unset] [(.int p2)]))
  obtain ⟨_, _, ⟨T2, L2, k2, n2⟩, -, X2, hs2, hg2, ⟨Lc2, hQ2, l2, y2, z2, Cn2⟩, st2⟩ := callSS X1 hx (y := (⟨"com/example/andersite/andersite/result/CallEdgeEqualsPinLaw", "str", "(I)Ljava/lang/String;"⟩ : MethodName)) hown1 (mvT hZ1 (hw _ (List.mem_of_getElem? (i := 0) rfl))) (mvT hZ1 (hw _ (List.mem_of_getElem? (i := 1) rfl))) (mvT hZ1 (hw _ (List.mem_of_getElem? (i := 2) rfl))) (mvT hZ1 (hw _ (List.mem_of_getElem? (i := 3) rfl))) (by decide) (backOfSH (s := s) (W := 0) (rm36 l Z a0 hw [] p2 G1 T1.heap n0 Z0_v1 O2 P5 X00_v1) hZ1 (hw _ (List.mem_of_getElem? (i := 3) rfl)) (hw _ (List.mem_of_getElem? (i := 2) rfl)) (by decide) (by decide) hEL C_w1.1) (g := (mkF m 7 #[.val (.int p1), .val (.int p2), .val (.int p3), .val (.int p4), .val (.int p5), .val (.ref s1), .unset, .unset, .unset, .unset, .unset, .unset, .unset] [(.int p2)])) rfl (by rw [hml]; rfl) (argsL := [(.int p2)]) (rest := []) (lenOf pd_6 rfl) rfl (by show 2 * 0 + _ ≤ _; exact Nat.le_of_eq rfl) (hb hby at_7) (fun _ _ => ⟨rfl, rfl, (by decide : 6 + 6 ≤ _), (by decide : 12 + 12 ≤ _)⟩)
  dsimp only [Pt.U, Pt.locs, Pt.cells, Pt.slots] at X2 hs2 hg2 l2 y2 z2 st2 hQ2 Cn2
  subst l2 y2 z2
  obtain ⟨N2q, K2, s2, rfl, Ts2⟩ := hQ2
  have X2 : Stand p l e room_1 (s.setVm T2.vm) m _ below meth c T2 _ _ _ := X2
  have N2 := Fr.app N1 N2q
  have Z0_v2 : n0 ≤ T2.heap.size := Nat.le_trans Z0_v1 K2.1
  have f_hk_v2 : T1.heap.size ≤ T2.heap.size := Nat.le_trans (Nat.le_refl _) K2.1
  have X00_v2 : Old Z n0 T2.heap := X00_v1.keep K2 all0
  have Ts1_v2 : own_Str Z T2.heap s1 (own_cs p1) := own_Str_keep0 K2 Ts1
  have hS2 : s.Since T2.vm T2.heap.size := foldS hS1 (Nat.le_refl _) hs2 hg2
  have hZ2 : Z.Warmed39 (s.setVm T2.vm).vm := State.Warmed39.trans (t := s.setVm T1.vm) hZ1 hs2.1
  have hown2 : (s.setVm T2.vm).vm.findClass "com/example/andersite/andersite/result/CallEdgeEqualsPinLaw" = some m.cls := by rw [show (s.setVm T2.vm).vm = T2.vm from rfl, hs2.1.alike.findClass]; exact hown1
  have C_w2 : CHr Z consts_1 s.vm h0 T2.vm T2.heap := C_w1.trans Cn2
  refine Gl.tr st2 ?_
  show Gl p e below P (T2.setTop (mkF m 10 #[.val (.int p1), .val (.int p2), .val (.int p3), .val (.int p4), .val (.int p5), .val (.ref s1), .unset, .unset, .unset, .unset, .unset, .unset, .unset] [(.ref s2)]))
  refine Gl.st (fun _ k => XS.astore X2.here hx rfl (hb hby at_10) rfl rfl (l' := #[.val (.int p1), .val (.int p2), .val (.int p3), .val (.int p4), .val (.int p5), .val (.ref s1), .val (.ref s2), .unset, .unset, .unset, .unset, .unset, .unset]) rfl k) ?_
  show Gl p e below P (T2.setTop (mkF m 12 #[.val (.int p1), .val (.int p2), .val (.int p3), .val (.int p4), .val (.int p5), .val (.ref s1), .val (.ref s2), .unset, .unset, .unset, .unset, .unset, .unset] []))
  obtain ⟨T3, h3, X3, e3, E3, A3, D3, -, st3⟩ := newO X2 hx hZ2 hown2 (hw _ (List.mem_of_getElem? (i := 26) rfl)) (hw _ (List.mem_of_getElem? (i := 27) rfl)) (hw _ (List.mem_of_getElem? (i := 28) rfl)) rfl (g := (mkF m 12 #[.val (.int p1), .val (.int p2), .val (.int p3), .val (.int p4), .val (.int p5), .val (.ref s1), .val (.ref s2), .unset, .unset, .unset, .unset, .unset, .unset] [])) rfl (hb hby at_12) (by decide) (by decide)
  obtain ⟨b3, g3⟩ : ∃ z, z = T2.heap.size := ⟨_, rfl⟩
  rw [← g3] at A3 D3 st3
  refine Gl.st st3 ?_
  have g_b3 : n0 ≤ b3 := Nat.le_trans Z0_v2 (Nat.le_of_eq g3.symm)
  have ne_s1_b3 : s1 ≠ b3 := Nat.ne_of_lt (Nat.lt_of_lt_of_le (own_Str_exa Ts1_v2).lt (Nat.le_of_eq g3.symm))
  have ne_s2_b3 : s2 ≠ b3 := Nat.ne_of_lt (Nat.lt_of_lt_of_le (own_Str_exa Ts2).lt (Nat.le_of_eq g3.symm))
  have C_v3 : CHr Z consts_1 s.vm h0 T2.vm h3 := C_w2.trans (CHr.ext E3 C_w2.1)
  have Z0_v3 : n0 ≤ h3.size := Nat.le_trans Z0_v2 E3.1
  have f_hk_v3 : T2.heap.size ≤ h3.size := Nat.le_trans (Nat.le_refl _) E3.1
  have X00_v3 : Old Z n0 h3 := X00_v2.ext E3
  have Ts1_v3 : own_Str Z h3 s1 (own_cs p1) := own_Str_ext E3 Ts1_v2
  have Ts2_v3 : own_Str Z h3 s2 (own_cs p2) := own_Str_ext E3 Ts2
  have F_caller_b3 : Fld Z h3 b3 "com/example/andersite/andersite/result/CallEdge" "caller" "Ljava/lang/String;" .null := D3 (Or.inr (hw _ (List.mem_of_getElem? (i := 40) rfl))) (ty := (.object "java/lang/String")) (by decide)
  have F_callee_b3 : Fld Z h3 b3 "com/example/andersite/andersite/result/CallEdge" "callee" "Ljava/lang/String;" .null := D3 (Or.inr (hw _ (List.mem_of_getElem? (i := 43) rfl))) (ty := (.object "java/lang/String")) (by decide)
  show Gl p e below P (T3.setTop (mkF m 15 #[.val (.int p1), .val (.int p2), .val (.int p3), .val (.int p4), .val (.int p5), .val (.ref s1), .val (.ref s2), .unset, .unset, .unset, .unset, .unset, .unset] [(.ref b3)]))
  refine Gl.st (fun _ k => XS.dup X3.here hx rfl (hb hby at_15) rfl rfl k) ?_
  show Gl p e below P (T3.setTop (mkF m 16 #[.val (.int p1), .val (.int p2), .val (.int p3), .val (.int p4), .val (.int p5), .val (.ref s1), .val (.ref s2), .unset, .unset, .unset, .unset, .unset, .unset] [(.ref b3), (.ref b3)]))
  refine Gl.st (fun _ k => XS.aload X3.here hx rfl (hb hby at_16) rfl rfl k) ?_
  show Gl p e below P (T3.setTop (mkF m 18 #[.val (.int p1), .val (.int p2), .val (.int p3), .val (.int p4), .val (.int p5), .val (.ref s1), .val (.ref s2), .unset, .unset, .unset, .unset, .unset, .unset] [(.ref s1), (.ref b3), (.ref b3)]))
  refine Gl.st (fun _ k => XS.aload X3.here hx rfl (hb hby at_18) rfl rfl k) ?_
  show Gl p e below P (T3.setTop (mkF m 20 #[.val (.int p1), .val (.int p2), .val (.int p3), .val (.int p4), .val (.int p5), .val (.ref s1), .val (.ref s2), .unset, .unset, .unset, .unset, .unset, .unset] [(.ref s2), (.ref s1), (.ref b3), (.ref b3)]))
  obtain ⟨_, _, ⟨T4, L4, k4, n4⟩, -, X4, hs4, hg4, ⟨Lc4, hQ4, l4, y4, z4, Cn4⟩, st4⟩ := X3.specialBackS hx (y := (⟨"com/example/andersite/andersite/result/CallEdge", "<init>", "(Ljava/lang/String;Ljava/lang/String;)V"⟩ : MethodName)) rfl hown2 (mvT hZ2 (hw _ (List.mem_of_getElem? (i := 29) rfl))) (mvT hZ2 (hw _ (List.mem_of_getElem? (i := 30) rfl))) (mvT hZ2 (hw _ (List.mem_of_getElem? (i := 31) rfl))) (by decide) (backOfSH (s := s) (W := 1) (rm38 l Z a0 hw [] b3 s1 s2 h3 n0 Z0_v3 A3 F_caller_b3 F_callee_b3 (own_Str_exa Ts1_v3) (own_Str_exa Ts2_v3) g_b3) hZ2 (hw _ (List.mem_of_getElem? (i := 31) rfl)) (hw _ (List.mem_of_getElem? (i := 28) rfl)) (by decide) (by decide) hEL C_v3.1) (g := (mkF m 20 #[.val (.int p1), .val (.int p2), .val (.int p3), .val (.int p4), .val (.int p5), .val (.ref s1), .val (.ref s2), .unset, .unset, .unset, .unset, .unset, .unset] [(.ref s2), (.ref s1), (.ref b3), (.ref b3)])) rfl (by rw [hml]; rfl) (Steps.refl _) (a := b3) (argsL := [(.ref s1), (.ref s2)]) (rest := [(.ref b3)]) (lenOf pd_7 rfl) rfl (by show 2 * 0 + _ ≤ _; exact Nat.le_of_eq rfl) (hb hby at_20) (fun _ _ => ⟨rfl, e3, (by decide : 13 + 4 ≤ _), (by decide : 26 + 56 ≤ _)⟩)
  dsimp only [Pt.U, Pt.locs, Pt.cells, Pt.slots] at X4 hs4 hg4 l4 y4 z4 st4 hQ4 Cn4
  subst l4 y4 z4
  obtain ⟨rfl, N4q, K4, E4x, F4a, F4b⟩ := hQ4
  have X4 : Stand p l e room_1 (s.setVm T4.vm) m _ below meth c T4 _ _ _ := X4
  have N4 := Fr.app N2 N4q
  have Z0_v4 : n0 ≤ T4.heap.size := Nat.le_trans Z0_v3 K4.1
  have f_hk_v4 : T2.heap.size ≤ T4.heap.size := Nat.le_trans f_hk_v3 K4.1
  have X00_v4 : Old Z n0 T4.heap := X00_v3.keep K4 (allS g_b3 all0)
  have Ts1_v4 : own_Str Z T4.heap s1 (own_cs p1) := own_Str_keep1 K4 A3 (by decide) (hw _ (List.mem_of_getElem? (i := 27) rfl)) Ts1_v3
  have Ts2_v4 : own_Str Z T4.heap s2 (own_cs p2) := own_Str_keep1 K4 A3 (by decide) (hw _ (List.mem_of_getElem? (i := 27) rfl)) Ts2_v3
  have A3_v4 : Exa Z T4.heap b3 "com/example/andersite/andersite/result/CallEdge" := A3.keep K4
  have hS4 : s.Since T4.vm T4.heap.size := foldS hS2 (by rw [e3]; exact f_hk_v3) hs4 hg4
  have hZ4 : Z.Warmed39 (s.setVm T4.vm).vm := State.Warmed39.trans (t := s.setVm T2.vm) hZ2 hs4.1
  have hown4 : (s.setVm T4.vm).vm.findClass "com/example/andersite/andersite/result/CallEdgeEqualsPinLaw" = some m.cls := by rw [show (s.setVm T4.vm).vm = T4.vm from rfl, hs4.1.alike.findClass]; exact hown2
  have C_w4 : CHr Z consts_1 s.vm h0 T4.vm T4.heap := C_v3.trans Cn4
  refine Gl.tr st4 ?_
  show Gl p e below P (T4.setTop (mkF m 23 #[.val (.int p1), .val (.int p2), .val (.int p3), .val (.int p4), .val (.int p5), .val (.ref s1), .val (.ref s2), .unset, .unset, .unset, .unset, .unset, .unset] [(.ref b3)]))
  refine Gl.st (fun _ k => XS.astore X4.here hx rfl (hb hby at_23) rfl rfl (l' := #[.val (.int p1), .val (.int p2), .val (.int p3), .val (.int p4), .val (.int p5), .val (.ref s1), .val (.ref s2), .val (.ref b3), .unset, .unset, .unset, .unset, .unset]) rfl k) ?_
  show Gl p e below P (T4.setTop (mkF m 25 #[.val (.int p1), .val (.int p2), .val (.int p3), .val (.int p4), .val (.int p5), .val (.ref s1), .val (.ref s2), .val (.ref b3), .unset, .unset, .unset, .unset, .unset] []))
  refine Gl.st (fun _ k => XS.iload X4.here hx rfl (hb hby at_25) rfl k) ?_
  show Gl p e below P (T4.setTop (mkF m 27 #[.val (.int p1), .val (.int p2), .val (.int p3), .val (.int p4), .val (.int p5), .val (.ref s1), .val (.ref s2), .val (.ref b3), .unset, .unset, .unset, .unset, .unset] [(.int p5)]))
  refine Gl.st (fun _ k => XS.iconst X4.here hx rfl (hb hby at_27) k) ?_
  show Gl p e below P (T4.setTop (mkF m 28 #[.val (.int p1), .val (.int p2), .val (.int p3), .val (.int p4), .val (.int p5), .val (.ref s1), .val (.ref s2), .val (.ref b3), .unset, .unset, .unset, .unset, .unset] [(.int (3 : Int32)), (.int p5)]))
  refine Gl.st (fun _ k => XS.iand X4.here hx rfl (hb hby at_28) rfl k) ?_
  show Gl p e below P (T4.setTop (mkF m 29 #[.val (.int p1), .val (.int p2), .val (.int p3), .val (.int p4), .val (.int p5), .val (.ref s1), .val (.ref s2), .val (.ref b3), .unset, .unset, .unset, .unset, .unset] [(.int (p5 &&& (3 : Int32)))]))
  refine Gl.st (fun _ k => XS.istore X4.here hx rfl (hb hby at_29) rfl (l' := #[.val (.int p1), .val (.int p2), .val (.int p3), .val (.int p4), .val (.int p5), .val (.ref s1), .val (.ref s2), .val (.ref b3), .val (.int (p5 &&& (3 : Int32))), .unset, .unset, .unset, .unset]) rfl k) ?_
  show Gl p e below P (T4.setTop (mkF m 31 #[.val (.int p1), .val (.int p2), .val (.int p3), .val (.int p4), .val (.int p5), .val (.ref s1), .val (.ref s2), .val (.ref b3), .val (.int (p5 &&& (3 : Int32))), .unset, .unset, .unset, .unset] []))
  refine Gl.st (fun _ k => XS.iload X4.here hx rfl (hb hby at_31) rfl k) ?_
  show Gl p e below P (T4.setTop (mkF m 33 #[.val (.int p1), .val (.int p2), .val (.int p3), .val (.int p4), .val (.int p5), .val (.ref s1), .val (.ref s2), .val (.ref b3), .val (.int (p5 &&& (3 : Int32))), .unset, .unset, .unset, .unset] [(.int (p5 &&& (3 : Int32)))]))
  refine Gl.st (fun _ k => XS.iconst X4.here hx rfl (hb hby at_33) k) ?_
  show Gl p e below P (T4.setTop (mkF m 34 #[.val (.int p1), .val (.int p2), .val (.int p3), .val (.int p4), .val (.int p5), .val (.ref s1), .val (.ref s2), .val (.ref b3), .val (.int (p5 &&& (3 : Int32))), .unset, .unset, .unset, .unset] [(.int (1 : Int32)), (.int (p5 &&& (3 : Int32)))]))
  have JT : ∀ s3 : Addr, ∀ s4 : Addr, ∀ c3 : List Int32, ∀ c4 : List Int32, ∀ (vm5 : Vm) (T5 : State) (locs5 : List Loc) (h5 : Heap) (k15 : Nat), Stand p l e room_1 (s.setVm vm5) m #[(.int p1), (.int p2), (.int p3), (.int p4), (.int p5)] below meth c T5 locs5 29 106 → T5.heap = h5 → Fr n0 locs5 → s.Since vm5 k15 → k15 ≤ h5.size → Z.Warmed39 (s.setVm vm5).vm → (s.setVm vm5).vm.findClass "com/example/andersite/andersite/result/CallEdgeEqualsPinLaw" = some m.cls → CHr Z consts_1 s.vm h0 vm5 h5 → n0 ≤ h5.size → Old Z n0 h5 → own_Str Z h5 s1 (own_cs p1) → own_Str Z h5 s2 (own_cs p2) → Exa Z h5 b3 "com/example/andersite/andersite/result/CallEdge" → Fld Z h5 b3 "com/example/andersite/andersite/result/CallEdge" "caller" "Ljava/lang/String;" (.ref s1) → Fld Z h5 b3 "com/example/andersite/andersite/result/CallEdge" "callee" "Ljava/lang/String;" (.ref s2) → own_Str Z h5 s3 c3 → own_Str Z h5 s4 c4 → c3.length ≤ 2 → c4.length ≤ 2 → ((p5 &&& (3 : Int32)) = (3 : Int32) → own_cs p1 = c3 ∧ own_cs p2 = c4) → Gl p e below P (T5.setTop (mkF m 107 #[.val (.int p1), .val (.int p2), .val (.int p3), .val (.int p4), .val (.int p5), .val (.ref s1), .val (.ref s2), .val (.ref b3), .val (.int (p5 &&& (3 : Int32))), .val (.ref s3), .val (.ref s4), .unset, .unset] [])) := by
    intro s3 s4 c3 c4 vm5 T5 locs5 h5 k15 X5 e5 N5 hS5 hk5 hZ5 hown5 C5 J5_Z J5_O J5_T_s1 J5_T_s2 J5_E_b3 J5_F_b3_caller J5_F_b3_callee J5_T_s3 J5_T_s4 l3 l4 hm3
    show Gl p e below P (T5.setTop (mkF m 107 #[.val (.int p1), .val (.int p2), .val (.int p3), .val (.int p4), .val (.int p5), .val (.ref s1), .val (.ref s2), .val (.ref b3), .val (.int (p5 &&& (3 : Int32))), .val (.ref s3), .val (.ref s4), .unset, .unset] []))
    obtain ⟨T6, h6, X6, e6, E6, A6, D6, -, st6⟩ := newO X5 hx hZ5 hown5 (hw _ (List.mem_of_getElem? (i := 26) rfl)) (hw _ (List.mem_of_getElem? (i := 27) rfl)) (hw _ (List.mem_of_getElem? (i := 28) rfl)) e5 (g := (mkF m 107 #[.val (.int p1), .val (.int p2), .val (.int p3), .val (.int p4), .val (.int p5), .val (.ref s1), .val (.ref s2), .val (.ref b3), .val (.int (p5 &&& (3 : Int32))), .val (.ref s3), .val (.ref s4), .unset, .unset] [])) rfl (hb hby at_107) (by decide) (by decide)
    obtain ⟨b6, g6⟩ : ∃ z, z = h5.size := ⟨_, rfl⟩
    rw [← g6] at A6 D6 st6
    refine Gl.st st6 ?_
    have g_b6 : n0 ≤ b6 := Nat.le_trans J5_Z (Nat.le_of_eq g6.symm)
    have ne_s1_b6 : s1 ≠ b6 := Nat.ne_of_lt (Nat.lt_of_lt_of_le (own_Str_exa J5_T_s1).lt (Nat.le_of_eq g6.symm))
    have ne_s2_b6 : s2 ≠ b6 := Nat.ne_of_lt (Nat.lt_of_lt_of_le (own_Str_exa J5_T_s2).lt (Nat.le_of_eq g6.symm))
    have ne_b3_b6 : b3 ≠ b6 := Nat.ne_of_lt (Nat.lt_of_lt_of_le J5_E_b3.lt (Nat.le_of_eq g6.symm))
    have ne_s3_b6 : s3 ≠ b6 := Nat.ne_of_lt (Nat.lt_of_lt_of_le (own_Str_exa J5_T_s3).lt (Nat.le_of_eq g6.symm))
    have ne_s4_b6 : s4 ≠ b6 := Nat.ne_of_lt (Nat.lt_of_lt_of_le (own_Str_exa J5_T_s4).lt (Nat.le_of_eq g6.symm))
    have C_v6 : CHr Z consts_1 s.vm h0 vm5 h6 := C5.trans (CHr.ext E6 C5.1)
    have J5_Z_v6 : n0 ≤ h6.size := Nat.le_trans J5_Z E6.1
    have J5_O_v6 : Old Z n0 h6 := J5_O.ext E6
    have J5_T_s1_v6 : own_Str Z h6 s1 (own_cs p1) := own_Str_ext E6 J5_T_s1
    have J5_T_s2_v6 : own_Str Z h6 s2 (own_cs p2) := own_Str_ext E6 J5_T_s2
    have J5_E_b3_v6 : Exa Z h6 b3 "com/example/andersite/andersite/result/CallEdge" := J5_E_b3.ext E6
    have J5_F_b3_caller_v6 : Fld Z h6 b3 "com/example/andersite/andersite/result/CallEdge" "caller" "Ljava/lang/String;" (.ref s1) := J5_F_b3_caller.ext E6
    have J5_F_b3_callee_v6 : Fld Z h6 b3 "com/example/andersite/andersite/result/CallEdge" "callee" "Ljava/lang/String;" (.ref s2) := J5_F_b3_callee.ext E6
    have J5_T_s3_v6 : own_Str Z h6 s3 c3 := own_Str_ext E6 J5_T_s3
    have J5_T_s4_v6 : own_Str Z h6 s4 c4 := own_Str_ext E6 J5_T_s4
    have hk5_v6 : k15 ≤ h6.size := Nat.le_trans hk5 E6.1
    have F_caller_b6 : Fld Z h6 b6 "com/example/andersite/andersite/result/CallEdge" "caller" "Ljava/lang/String;" .null := D6 (Or.inr (hw _ (List.mem_of_getElem? (i := 40) rfl))) (ty := (.object "java/lang/String")) (by decide)
    have F_callee_b6 : Fld Z h6 b6 "com/example/andersite/andersite/result/CallEdge" "callee" "Ljava/lang/String;" .null := D6 (Or.inr (hw _ (List.mem_of_getElem? (i := 43) rfl))) (ty := (.object "java/lang/String")) (by decide)
    show Gl p e below P (T6.setTop (mkF m 110 #[.val (.int p1), .val (.int p2), .val (.int p3), .val (.int p4), .val (.int p5), .val (.ref s1), .val (.ref s2), .val (.ref b3), .val (.int (p5 &&& (3 : Int32))), .val (.ref s3), .val (.ref s4), .unset, .unset] [(.ref b6)]))
    refine Gl.st (fun _ k => XS.dup X6.here hx rfl (hb hby at_110) rfl rfl k) ?_
    show Gl p e below P (T6.setTop (mkF m 111 #[.val (.int p1), .val (.int p2), .val (.int p3), .val (.int p4), .val (.int p5), .val (.ref s1), .val (.ref s2), .val (.ref b3), .val (.int (p5 &&& (3 : Int32))), .val (.ref s3), .val (.ref s4), .unset, .unset] [(.ref b6), (.ref b6)]))
    refine Gl.st (fun _ k => XS.aload X6.here hx rfl (hb hby at_111) rfl rfl k) ?_
    show Gl p e below P (T6.setTop (mkF m 113 #[.val (.int p1), .val (.int p2), .val (.int p3), .val (.int p4), .val (.int p5), .val (.ref s1), .val (.ref s2), .val (.ref b3), .val (.int (p5 &&& (3 : Int32))), .val (.ref s3), .val (.ref s4), .unset, .unset] [(.ref s3), (.ref b6), (.ref b6)]))
    refine Gl.st (fun _ k => XS.aload X6.here hx rfl (hb hby at_113) rfl rfl k) ?_
    show Gl p e below P (T6.setTop (mkF m 115 #[.val (.int p1), .val (.int p2), .val (.int p3), .val (.int p4), .val (.int p5), .val (.ref s1), .val (.ref s2), .val (.ref b3), .val (.int (p5 &&& (3 : Int32))), .val (.ref s3), .val (.ref s4), .unset, .unset] [(.ref s4), (.ref s3), (.ref b6), (.ref b6)]))
    obtain ⟨_, _, ⟨T7, L7, k7, n7⟩, -, X7, hs7, hg7, ⟨Lc7, hQ7, l7, y7, z7, Cn7⟩, st7⟩ := X6.specialBackS hx (y := (⟨"com/example/andersite/andersite/result/CallEdge", "<init>", "(Ljava/lang/String;Ljava/lang/String;)V"⟩ : MethodName)) rfl hown5 (mvT hZ5 (hw _ (List.mem_of_getElem? (i := 29) rfl))) (mvT hZ5 (hw _ (List.mem_of_getElem? (i := 30) rfl))) (mvT hZ5 (hw _ (List.mem_of_getElem? (i := 31) rfl))) (by decide) (backOfSH (s := s) (W := 1) (rm38 l Z a0 hw [] b6 s3 s4 h6 n0 J5_Z_v6 A6 F_caller_b6 F_callee_b6 (own_Str_exa J5_T_s3_v6) (own_Str_exa J5_T_s4_v6) g_b6) hZ5 (hw _ (List.mem_of_getElem? (i := 31) rfl)) (hw _ (List.mem_of_getElem? (i := 28) rfl)) (by decide) (by decide) hEL C_v6.1) (g := (mkF m 115 #[.val (.int p1), .val (.int p2), .val (.int p3), .val (.int p4), .val (.int p5), .val (.ref s1), .val (.ref s2), .val (.ref b3), .val (.int (p5 &&& (3 : Int32))), .val (.ref s3), .val (.ref s4), .unset, .unset] [(.ref s4), (.ref s3), (.ref b6), (.ref b6)])) rfl (by rw [hml]; rfl) (Steps.refl _) (a := b6) (argsL := [(.ref s3), (.ref s4)]) (rest := [(.ref b6)]) (lenOf pd_7 rfl) rfl (by show 2 * 0 + _ ≤ _; exact Nat.le_of_eq rfl) (hb hby at_115) (fun _ _ => ⟨rfl, e6, (by decide : 30 + 4 ≤ _), (by decide : 108 + 56 ≤ _)⟩)
    dsimp only [Pt.U, Pt.locs, Pt.cells, Pt.slots] at X7 hs7 hg7 l7 y7 z7 st7 hQ7 Cn7
    subst l7 y7 z7
    obtain ⟨rfl, N7q, K7, E7x, F7a, F7b⟩ := hQ7
    have X7 : Stand p l e room_1 (s.setVm T7.vm) m _ below meth c T7 _ _ _ := X7
    have N7 := Fr.app N5 N7q
    have J5_Z_v7 : n0 ≤ T7.heap.size := Nat.le_trans J5_Z_v6 K7.1
    have J5_O_v7 : Old Z n0 T7.heap := J5_O_v6.keep K7 (allS g_b6 all0)
    have J5_T_s1_v7 : own_Str Z T7.heap s1 (own_cs p1) := own_Str_keep1 K7 A6 (by decide) (hw _ (List.mem_of_getElem? (i := 27) rfl)) J5_T_s1_v6
    have J5_T_s2_v7 : own_Str Z T7.heap s2 (own_cs p2) := own_Str_keep1 K7 A6 (by decide) (hw _ (List.mem_of_getElem? (i := 27) rfl)) J5_T_s2_v6
    have J5_E_b3_v7 : Exa Z T7.heap b3 "com/example/andersite/andersite/result/CallEdge" := J5_E_b3_v6.keep K7
    have J5_F_b3_caller_v7 : Fld Z T7.heap b3 "com/example/andersite/andersite/result/CallEdge" "caller" "Ljava/lang/String;" (.ref s1) := J5_F_b3_caller_v6.keep K7 (ninS ne_b3_b6 nin0)
    have J5_F_b3_callee_v7 : Fld Z T7.heap b3 "com/example/andersite/andersite/result/CallEdge" "callee" "Ljava/lang/String;" (.ref s2) := J5_F_b3_callee_v6.keep K7 (ninS ne_b3_b6 nin0)
    have J5_T_s3_v7 : own_Str Z T7.heap s3 c3 := own_Str_keep1 K7 A6 (by decide) (hw _ (List.mem_of_getElem? (i := 27) rfl)) J5_T_s3_v6
    have J5_T_s4_v7 : own_Str Z T7.heap s4 c4 := own_Str_keep1 K7 A6 (by decide) (hw _ (List.mem_of_getElem? (i := 27) rfl)) J5_T_s4_v6
    have hk5_v7 : k15 ≤ T7.heap.size := Nat.le_trans hk5_v6 K7.1
    have A6_v7 : Exa Z T7.heap b6 "com/example/andersite/andersite/result/CallEdge" := A6.keep K7
    have hS7 : s.Since T7.vm T7.heap.size := foldS hS5 (by rw [e6]; exact hk5_v6) hs7 hg7
    have hZ7 : Z.Warmed39 (s.setVm T7.vm).vm := State.Warmed39.trans (t := s.setVm vm5) hZ5 hs7.1
    have hown7 : (s.setVm T7.vm).vm.findClass "com/example/andersite/andersite/result/CallEdgeEqualsPinLaw" = some m.cls := by rw [show (s.setVm T7.vm).vm = T7.vm from rfl, hs7.1.alike.findClass]; exact hown5
    have C_w7 : CHr Z consts_1 s.vm h0 T7.vm T7.heap := C_v6.trans Cn7
    refine Gl.tr st7 ?_
    show Gl p e below P (T7.setTop (mkF m 118 #[.val (.int p1), .val (.int p2), .val (.int p3), .val (.int p4), .val (.int p5), .val (.ref s1), .val (.ref s2), .val (.ref b3), .val (.int (p5 &&& (3 : Int32))), .val (.ref s3), .val (.ref s4), .unset, .unset] [(.ref b6)]))
    refine Gl.st (fun _ k => XS.astore X7.here hx rfl (hb hby at_118) rfl rfl (l' := #[.val (.int p1), .val (.int p2), .val (.int p3), .val (.int p4), .val (.int p5), .val (.ref s1), .val (.ref s2), .val (.ref b3), .val (.int (p5 &&& (3 : Int32))), .val (.ref s3), .val (.ref s4), .val (.ref b6), .unset]) rfl k) ?_
    show Gl p e below P (T7.setTop (mkF m 120 #[.val (.int p1), .val (.int p2), .val (.int p3), .val (.int p4), .val (.int p5), .val (.ref s1), .val (.ref s2), .val (.ref b3), .val (.int (p5 &&& (3 : Int32))), .val (.ref s3), .val (.ref s4), .val (.ref b6), .unset] []))
    refine Gl.st (fun _ k => XS.aload X7.here hx rfl (hb hby at_120) rfl rfl k) ?_
    show Gl p e below P (T7.setTop (mkF m 122 #[.val (.int p1), .val (.int p2), .val (.int p3), .val (.int p4), .val (.int p5), .val (.ref s1), .val (.ref s2), .val (.ref b3), .val (.int (p5 &&& (3 : Int32))), .val (.ref s3), .val (.ref s4), .val (.ref b6), .unset] [(.ref s1)]))
    refine Gl.st (fun _ k => XS.aload X7.here hx rfl (hb hby at_122) rfl rfl k) ?_
    show Gl p e below P (T7.setTop (mkF m 124 #[.val (.int p1), .val (.int p2), .val (.int p3), .val (.int p4), .val (.int p5), .val (.ref s1), .val (.ref s2), .val (.ref b3), .val (.int (p5 &&& (3 : Int32))), .val (.ref s3), .val (.ref s4), .val (.ref b6), .unset] [(.ref s3), (.ref s1)]))
    by_cases q1 : own_cs p1 = c3
    · obtain ⟨_, _, ⟨T8, L8, k8, n8⟩, -, X8, ⟨Lc8, hQ8, l8, y8, z8⟩, st8⟩ := Jvm.LawKit.callS X7 hx (y := (⟨"com/example/andersite/andersite/result/CallEdgeEqualsPinLaw", "same", "(Ljava/lang/String;Ljava/lang/String;)Z"⟩ : MethodName)) hown7 (mvT hZ7 (hw _ (List.mem_of_getElem? (i := 58) rfl))) (mvT hZ7 (hw _ (List.mem_of_getElem? (i := 59) rfl))) (mvT hZ7 (hw _ (List.mem_of_getElem? (i := 2) rfl))) (mvT hZ7 (hw _ (List.mem_of_getElem? (i := 60) rfl))) (by decide) (backOf (W := 0) (rm39 l Z a0 hw [] s1 s3 (own_cs p1) c3 G1 G3 (1 : Int32) T7.heap n0 J5_Z_v7 J5_T_s1_v7 J5_T_s3_v7 (own_cs_len p1) l3 O4 rG3 (Or.inl ⟨q1, rfl⟩) O2 P5 J5_O_v7) hZ7 (hw _ (List.mem_of_getElem? (i := 60) rfl)) (hw _ (List.mem_of_getElem? (i := 2) rfl)) (by decide) (by decide)) (g := (mkF m 124 #[.val (.int p1), .val (.int p2), .val (.int p3), .val (.int p4), .val (.int p5), .val (.ref s1), .val (.ref s2), .val (.ref b3), .val (.int (p5 &&& (3 : Int32))), .val (.ref s3), .val (.ref s4), .val (.ref b6), .unset] [(.ref s3), (.ref s1)])) rfl (by rw [hml]; rfl) (argsL := [(.ref s1), (.ref s3)]) (rest := []) (lenOf pd_8 rfl) rfl (by show 2 * 0 + _ ≤ _; exact Nat.le_of_eq rfl) (hb hby at_124) (fun _ _ => ⟨rfl, rfl, (by decide : 34 + 0 ≤ _), (by decide : 164 + 0 ≤ _)⟩)
      dsimp only [Pt.U, Pt.locs, Pt.cells, Pt.slots] at X8 l8 y8 z8 st8 hQ8
      subst l8 y8 z8
      obtain ⟨rfl, N8q, e8⟩ := hQ8
      have N8 := Fr.app N7 N8q
      refine Gl.st st8 ?_
      show Gl p e below P (T8.setTop (mkF m 127 #[.val (.int p1), .val (.int p2), .val (.int p3), .val (.int p4), .val (.int p5), .val (.ref s1), .val (.ref s2), .val (.ref b3), .val (.int (p5 &&& (3 : Int32))), .val (.ref s3), .val (.ref s4), .val (.ref b6), .unset] [(.int (1 : Int32))]))
      refine Gl.st (fun _ k => XS.ifNo X8.here hx rfl (hb hby at_127) rfl ((if0 _ _).trans (feq (by decide : ¬ ((1 : Int32) = (0 : Int32)))).1) k) ?_
      show Gl p e below P (T8.setTop (mkF m 130 #[.val (.int p1), .val (.int p2), .val (.int p3), .val (.int p4), .val (.int p5), .val (.ref s1), .val (.ref s2), .val (.ref b3), .val (.int (p5 &&& (3 : Int32))), .val (.ref s3), .val (.ref s4), .val (.ref b6), .unset] []))
      refine Gl.st (fun _ k => XS.aload X8.here hx rfl (hb hby at_130) rfl rfl k) ?_
      show Gl p e below P (T8.setTop (mkF m 132 #[.val (.int p1), .val (.int p2), .val (.int p3), .val (.int p4), .val (.int p5), .val (.ref s1), .val (.ref s2), .val (.ref b3), .val (.int (p5 &&& (3 : Int32))), .val (.ref s3), .val (.ref s4), .val (.ref b6), .unset] [(.ref s2)]))
      refine Gl.st (fun _ k => XS.aload X8.here hx rfl (hb hby at_132) rfl rfl k) ?_
      show Gl p e below P (T8.setTop (mkF m 134 #[.val (.int p1), .val (.int p2), .val (.int p3), .val (.int p4), .val (.int p5), .val (.ref s1), .val (.ref s2), .val (.ref b3), .val (.int (p5 &&& (3 : Int32))), .val (.ref s3), .val (.ref s4), .val (.ref b6), .unset] [(.ref s4), (.ref s2)]))
      by_cases q2 : own_cs p2 = c4
      · obtain ⟨_, _, ⟨T9, L9, k9, n9⟩, -, X9, ⟨Lc9, hQ9, l9, y9, z9⟩, st9⟩ := Jvm.LawKit.callS X8 hx (y := (⟨"com/example/andersite/andersite/result/CallEdgeEqualsPinLaw", "same", "(Ljava/lang/String;Ljava/lang/String;)Z"⟩ : MethodName)) hown7 (mvT hZ7 (hw _ (List.mem_of_getElem? (i := 58) rfl))) (mvT hZ7 (hw _ (List.mem_of_getElem? (i := 59) rfl))) (mvT hZ7 (hw _ (List.mem_of_getElem? (i := 2) rfl))) (mvT hZ7 (hw _ (List.mem_of_getElem? (i := 60) rfl))) (by decide) (backOf (W := 0) (rm39 l Z a0 hw [] s2 s4 (own_cs p2) c4 G1 G3 (1 : Int32) T7.heap n0 J5_Z_v7 J5_T_s2_v7 J5_T_s4_v7 (own_cs_len p2) l4 O4 rG3 (Or.inl ⟨q2, rfl⟩) O2 P5 J5_O_v7) hZ7 (hw _ (List.mem_of_getElem? (i := 60) rfl)) (hw _ (List.mem_of_getElem? (i := 2) rfl)) (by decide) (by decide)) (g := (mkF m 134 #[.val (.int p1), .val (.int p2), .val (.int p3), .val (.int p4), .val (.int p5), .val (.ref s1), .val (.ref s2), .val (.ref b3), .val (.int (p5 &&& (3 : Int32))), .val (.ref s3), .val (.ref s4), .val (.ref b6), .unset] [(.ref s4), (.ref s2)])) rfl (by rw [hml]; rfl) (argsL := [(.ref s2), (.ref s4)]) (rest := []) (lenOf pd_8 rfl) rfl (by show 2 * 0 + _ ≤ _; exact Nat.le_of_eq rfl) (hb hby at_134) (fun _ _ => ⟨rfl, e8, (by decide : 34 + 0 ≤ _), (by decide : 164 + 0 ≤ _)⟩)
        dsimp only [Pt.U, Pt.locs, Pt.cells, Pt.slots] at X9 l9 y9 z9 st9 hQ9
        subst l9 y9 z9
        obtain ⟨rfl, N9q, e9⟩ := hQ9
        have N9 := Fr.app N8 N9q
        refine Gl.st st9 ?_
        show Gl p e below P (T9.setTop (mkF m 137 #[.val (.int p1), .val (.int p2), .val (.int p3), .val (.int p4), .val (.int p5), .val (.ref s1), .val (.ref s2), .val (.ref b3), .val (.int (p5 &&& (3 : Int32))), .val (.ref s3), .val (.ref s4), .val (.ref b6), .unset] [(.int (1 : Int32))]))
        refine Gl.st (fun _ k => XS.ifNo X9.here hx rfl (hb hby at_137) rfl ((if0 _ _).trans (feq (by decide : ¬ ((1 : Int32) = (0 : Int32)))).1) k) ?_
        show Gl p e below P (T9.setTop (mkF m 140 #[.val (.int p1), .val (.int p2), .val (.int p3), .val (.int p4), .val (.int p5), .val (.ref s1), .val (.ref s2), .val (.ref b3), .val (.int (p5 &&& (3 : Int32))), .val (.ref s3), .val (.ref s4), .val (.ref b6), .unset] []))
        refine Gl.st (fun _ k => XS.iconst X9.here hx rfl (hb hby at_140) k) ?_
        show Gl p e below P (T9.setTop (mkF m 141 #[.val (.int p1), .val (.int p2), .val (.int p3), .val (.int p4), .val (.int p5), .val (.ref s1), .val (.ref s2), .val (.ref b3), .val (.int (p5 &&& (3 : Int32))), .val (.ref s3), .val (.ref s4), .val (.ref b6), .unset] [(.int (1 : Int32))]))
        refine Gl.st (fun _ k => XS.goto X9.here hx rfl (pc0 := 141) (pc' := 145) rfl (hb hby at_141) (by decide) (by decide) k) ?_
        show Gl p e below P (T9.setTop (mkF m 145 #[.val (.int p1), .val (.int p2), .val (.int p3), .val (.int p4), .val (.int p5), .val (.ref s1), .val (.ref s2), .val (.ref b3), .val (.int (p5 &&& (3 : Int32))), .val (.ref s3), .val (.ref s4), .val (.ref b6), .unset] [(.int (1 : Int32))]))
        refine Gl.st (fun _ k => XS.istore X9.here hx rfl (hb hby at_145) rfl (l' := #[.val (.int p1), .val (.int p2), .val (.int p3), .val (.int p4), .val (.int p5), .val (.ref s1), .val (.ref s2), .val (.ref b3), .val (.int (p5 &&& (3 : Int32))), .val (.ref s3), .val (.ref s4), .val (.ref b6), .val (.int (1 : Int32))]) rfl k) ?_
        show Gl p e below P (T9.setTop (mkF m 147 #[.val (.int p1), .val (.int p2), .val (.int p3), .val (.int p4), .val (.int p5), .val (.ref s1), .val (.ref s2), .val (.ref b3), .val (.int (p5 &&& (3 : Int32))), .val (.ref s3), .val (.ref s4), .val (.ref b6), .val (.int (1 : Int32))] []))
        refine Gl.st (fun _ k => XS.iload X9.here hx rfl (hb hby at_147) rfl k) ?_
        show Gl p e below P (T9.setTop (mkF m 149 #[.val (.int p1), .val (.int p2), .val (.int p3), .val (.int p4), .val (.int p5), .val (.ref s1), .val (.ref s2), .val (.ref b3), .val (.int (p5 &&& (3 : Int32))), .val (.ref s3), .val (.ref s4), .val (.ref b6), .val (.int (1 : Int32))] [(.int (p5 &&& (3 : Int32)))]))
        refine Gl.st (fun _ k => XS.iconst X9.here hx rfl (hb hby at_149) k) ?_
        show Gl p e below P (T9.setTop (mkF m 150 #[.val (.int p1), .val (.int p2), .val (.int p3), .val (.int p4), .val (.int p5), .val (.ref s1), .val (.ref s2), .val (.ref b3), .val (.int (p5 &&& (3 : Int32))), .val (.ref s3), .val (.ref s4), .val (.ref b6), .val (.int (1 : Int32))] [(.int (3 : Int32)), (.int (p5 &&& (3 : Int32)))]))
        by_cases hm : (p5 &&& (3 : Int32)) = (3 : Int32)
        · refine Gl.st (fun _ k => XS.icmpNo X9.here hx rfl (hb hby at_150) rfl (teq (hm : (p5 &&& (3 : Int32)) = (3 : Int32))).2 k) ?_
          show Gl p e below P (T9.setTop (mkF m 153 #[.val (.int p1), .val (.int p2), .val (.int p3), .val (.int p4), .val (.int p5), .val (.ref s1), .val (.ref s2), .val (.ref b3), .val (.int (p5 &&& (3 : Int32))), .val (.ref s3), .val (.ref s4), .val (.ref b6), .val (.int (1 : Int32))] []))
          refine Gl.st (fun _ k => XS.iload X9.here hx rfl (hb hby at_153) rfl k) ?_
          show Gl p e below P (T9.setTop (mkF m 155 #[.val (.int p1), .val (.int p2), .val (.int p3), .val (.int p4), .val (.int p5), .val (.ref s1), .val (.ref s2), .val (.ref b3), .val (.int (p5 &&& (3 : Int32))), .val (.ref s3), .val (.ref s4), .val (.ref b6), .val (.int (1 : Int32))] [(.int (1 : Int32))]))
          refine Gl.st (fun _ k => XS.ifYes X9.here hx rfl (pc0 := 155) (pc' := 160) rfl (hb hby at_155) rfl ((if0 _ _).trans (feq (by decide : ¬ ((1 : Int32) = (0 : Int32)))).2) (by decide) (by decide) k) ?_
          show Gl p e below P (T9.setTop (mkF m 160 #[.val (.int p1), .val (.int p2), .val (.int p3), .val (.int p4), .val (.int p5), .val (.ref s1), .val (.ref s2), .val (.ref b3), .val (.int (p5 &&& (3 : Int32))), .val (.ref s3), .val (.ref s4), .val (.ref b6), .val (.int (1 : Int32))] []))
          refine Gl.st (fun _ k => XS.aload X9.here hx rfl (hb hby at_160) rfl rfl k) ?_
          show Gl p e below P (T9.setTop (mkF m 162 #[.val (.int p1), .val (.int p2), .val (.int p3), .val (.int p4), .val (.int p5), .val (.ref s1), .val (.ref s2), .val (.ref b3), .val (.int (p5 &&& (3 : Int32))), .val (.ref s3), .val (.ref s4), .val (.ref b6), .val (.int (1 : Int32))] [(.ref b3)]))
          refine Gl.st (fun _ k => XS.aload X9.here hx rfl (hb hby at_162) rfl rfl k) ?_
          show Gl p e below P (T9.setTop (mkF m 164 #[.val (.int p1), .val (.int p2), .val (.int p3), .val (.int p4), .val (.int p5), .val (.ref s1), .val (.ref s2), .val (.ref b3), .val (.int (p5 &&& (3 : Int32))), .val (.ref s3), .val (.ref s4), .val (.ref b6), .val (.int (1 : Int32))] [(.ref b6), (.ref b3)]))
          obtain ⟨cq10, kq10, q10a, q10b, q10c⟩ := isOf hZ7 e9 J5_E_b3_v7
          obtain ⟨_, _, ⟨T10, L10, k10, n10⟩, -, X10, ⟨Lc10, hQ10, l10, y10, z10⟩, st10⟩ := X9.virtualBack hx (y := (⟨"com/example/andersite/andersite/result/CallEdge", "equals", "(Ljava/lang/Object;)Z"⟩ : MethodName)) (z := (⟨"com/example/andersite/andersite/result/CallEdge", "equals", "(Ljava/lang/Object;)Z"⟩ : MethodName)) hown7 (mvT hZ7 (hw _ (List.mem_of_getElem? (i := 71) rfl))) (mvT hZ7 (hw _ (List.mem_of_getElem? (i := 72) rfl))) (notFace_of_selects (args := #[]) (mvT hZ7 (hw _ (List.mem_of_getElem? (i := 74) rfl)))) (mvT hZ7 (hw _ (List.mem_of_getElem? (i := 74) rfl))) (mvT hZ7 (hw _ (List.mem_of_getElem? (i := 73) rfl))) (by decide) (backOf (W := 0) (rm42 l Z a0 hw [] b3 b6 s1 s2 s3 s4 (own_cs p1) (own_cs p2) c3 c4 G1 (1 : Int32) T7.heap n0 J5_Z_v7 A6_v7 J5_F_b3_caller_v7 J5_F_b3_callee_v7 F7a F7b J5_T_s1_v7 J5_T_s2_v7 J5_T_s3_v7 J5_T_s4_v7 (Or.inl ⟨⟨q1, q2⟩, rfl⟩) O2 P5 J5_O_v7) hZ7 (hw _ (List.mem_of_getElem? (i := 75) rfl)) (hw _ (List.mem_of_getElem? (i := 28) rfl)) (by decide) (by decide)) q10a q10c (g := (mkF m 164 #[.val (.int p1), .val (.int p2), .val (.int p3), .val (.int p4), .val (.int p5), .val (.ref s1), .val (.ref s2), .val (.ref b3), .val (.int (p5 &&& (3 : Int32))), .val (.ref s3), .val (.ref s4), .val (.ref b6), .val (.int (1 : Int32))] [(.ref b6), (.ref b3)])) rfl (by rw [hml]; rfl) (Steps.refl _) (argsL := [(.ref b6)]) (rest := []) (lenOf pd_5 rfl) rfl (by show 2 * 0 + _ ≤ _; exact Nat.le_of_eq rfl) (hb hby at_164) (fun _ _ => ⟨rfl, e9, (by decide : 34 + 0 ≤ _), (by decide : 164 + 0 ≤ _)⟩)
          dsimp only [Pt.U, Pt.locs, Pt.cells, Pt.slots] at X10 l10 y10 z10 st10 hQ10
          subst l10 y10 z10
          obtain ⟨rfl, N10q, e10⟩ := hQ10
          have N10 := Fr.app N9 N10q
          refine Gl.tr st10 ?_
          show Gl p e below P (T10.setTop (mkF m 167 #[.val (.int p1), .val (.int p2), .val (.int p3), .val (.int p4), .val (.int p5), .val (.ref s1), .val (.ref s2), .val (.ref b3), .val (.int (p5 &&& (3 : Int32))), .val (.ref s3), .val (.ref s4), .val (.ref b6), .val (.int (1 : Int32))] [(.int (1 : Int32))]))
          refine Gl.st (fun _ k => XS.iload X10.here hx rfl (hb hby at_167) rfl k) ?_
          show Gl p e below P (T10.setTop (mkF m 169 #[.val (.int p1), .val (.int p2), .val (.int p3), .val (.int p4), .val (.int p5), .val (.ref s1), .val (.ref s2), .val (.ref b3), .val (.int (p5 &&& (3 : Int32))), .val (.ref s3), .val (.ref s4), .val (.ref b6), .val (.int (1 : Int32))] [(.int (1 : Int32)), (.int (1 : Int32))]))
          refine Gl.st (fun _ k => XS.icmpNo X10.here hx rfl (hb hby at_169) rfl (teq (by decide : (1 : Int32) = (1 : Int32))).2 k) ?_
          show Gl p e below P (T10.setTop (mkF m 172 #[.val (.int p1), .val (.int p2), .val (.int p3), .val (.int p4), .val (.int p5), .val (.ref s1), .val (.ref s2), .val (.ref b3), .val (.int (p5 &&& (3 : Int32))), .val (.ref s3), .val (.ref s4), .val (.ref b6), .val (.int (1 : Int32))] []))
          refine Gl.st (fun _ k => XS.aload X10.here hx rfl (hb hby at_172) rfl rfl k) ?_
          show Gl p e below P (T10.setTop (mkF m 174 #[.val (.int p1), .val (.int p2), .val (.int p3), .val (.int p4), .val (.int p5), .val (.ref s1), .val (.ref s2), .val (.ref b3), .val (.int (p5 &&& (3 : Int32))), .val (.ref s3), .val (.ref s4), .val (.ref b6), .val (.int (1 : Int32))] [(.ref b6)]))
          refine Gl.st (fun _ k => XS.aload X10.here hx rfl (hb hby at_174) rfl rfl k) ?_
          show Gl p e below P (T10.setTop (mkF m 176 #[.val (.int p1), .val (.int p2), .val (.int p3), .val (.int p4), .val (.int p5), .val (.ref s1), .val (.ref s2), .val (.ref b3), .val (.int (p5 &&& (3 : Int32))), .val (.ref s3), .val (.ref s4), .val (.ref b6), .val (.int (1 : Int32))] [(.ref b3), (.ref b6)]))
          obtain ⟨cq11, kq11, q11a, q11b, q11c⟩ := isOf hZ7 e10 A6_v7
          obtain ⟨_, _, ⟨T11, L11, k11, n11⟩, -, X11, ⟨Lc11, hQ11, l11, y11, z11⟩, st11⟩ := X10.virtualBack hx (y := (⟨"com/example/andersite/andersite/result/CallEdge", "equals", "(Ljava/lang/Object;)Z"⟩ : MethodName)) (z := (⟨"com/example/andersite/andersite/result/CallEdge", "equals", "(Ljava/lang/Object;)Z"⟩ : MethodName)) hown7 (mvT hZ7 (hw _ (List.mem_of_getElem? (i := 71) rfl))) (mvT hZ7 (hw _ (List.mem_of_getElem? (i := 72) rfl))) (notFace_of_selects (args := #[]) (mvT hZ7 (hw _ (List.mem_of_getElem? (i := 74) rfl)))) (mvT hZ7 (hw _ (List.mem_of_getElem? (i := 74) rfl))) (mvT hZ7 (hw _ (List.mem_of_getElem? (i := 73) rfl))) (by decide) (backOf (W := 0) (rm42 l Z a0 hw [] b6 b3 s3 s4 s1 s2 c3 c4 (own_cs p1) (own_cs p2) G1 (1 : Int32) T7.heap n0 J5_Z_v7 J5_E_b3_v7 F7a F7b J5_F_b3_caller_v7 J5_F_b3_callee_v7 J5_T_s3_v7 J5_T_s4_v7 J5_T_s1_v7 J5_T_s2_v7 (Or.inl ⟨⟨q1.symm, q2.symm⟩, rfl⟩) O2 P5 J5_O_v7) hZ7 (hw _ (List.mem_of_getElem? (i := 75) rfl)) (hw _ (List.mem_of_getElem? (i := 28) rfl)) (by decide) (by decide)) q11a q11c (g := (mkF m 176 #[.val (.int p1), .val (.int p2), .val (.int p3), .val (.int p4), .val (.int p5), .val (.ref s1), .val (.ref s2), .val (.ref b3), .val (.int (p5 &&& (3 : Int32))), .val (.ref s3), .val (.ref s4), .val (.ref b6), .val (.int (1 : Int32))] [(.ref b3), (.ref b6)])) rfl (by rw [hml]; rfl) (Steps.refl _) (argsL := [(.ref b3)]) (rest := []) (lenOf pd_5 rfl) rfl (by show 2 * 0 + _ ≤ _; exact Nat.le_of_eq rfl) (hb hby at_176) (fun _ _ => ⟨rfl, e10, (by decide : 34 + 0 ≤ _), (by decide : 164 + 0 ≤ _)⟩)
          dsimp only [Pt.U, Pt.locs, Pt.cells, Pt.slots] at X11 l11 y11 z11 st11 hQ11
          subst l11 y11 z11
          obtain ⟨rfl, N11q, e11⟩ := hQ11
          have N11 := Fr.app N10 N11q
          refine Gl.tr st11 ?_
          show Gl p e below P (T11.setTop (mkF m 179 #[.val (.int p1), .val (.int p2), .val (.int p3), .val (.int p4), .val (.int p5), .val (.ref s1), .val (.ref s2), .val (.ref b3), .val (.int (p5 &&& (3 : Int32))), .val (.ref s3), .val (.ref s4), .val (.ref b6), .val (.int (1 : Int32))] [(.int (1 : Int32))]))
          refine Gl.st (fun _ k => XS.iload X11.here hx rfl (hb hby at_179) rfl k) ?_
          show Gl p e below P (T11.setTop (mkF m 181 #[.val (.int p1), .val (.int p2), .val (.int p3), .val (.int p4), .val (.int p5), .val (.ref s1), .val (.ref s2), .val (.ref b3), .val (.int (p5 &&& (3 : Int32))), .val (.ref s3), .val (.ref s4), .val (.ref b6), .val (.int (1 : Int32))] [(.int (1 : Int32)), (.int (1 : Int32))]))
          refine Gl.st (fun _ k => XS.icmpNo X11.here hx rfl (hb hby at_181) rfl (teq (by decide : (1 : Int32) = (1 : Int32))).2 k) ?_
          show Gl p e below P (T11.setTop (mkF m 184 #[.val (.int p1), .val (.int p2), .val (.int p3), .val (.int p4), .val (.int p5), .val (.ref s1), .val (.ref s2), .val (.ref b3), .val (.int (p5 &&& (3 : Int32))), .val (.ref s3), .val (.ref s4), .val (.ref b6), .val (.int (1 : Int32))] []))
          refine Gl.st (fun _ k => XS.iconst X11.here hx rfl (hb hby at_184) k) ?_
          show Gl p e below P (T11.setTop (mkF m 185 #[.val (.int p1), .val (.int p2), .val (.int p3), .val (.int p4), .val (.int p5), .val (.ref s1), .val (.ref s2), .val (.ref b3), .val (.int (p5 &&& (3 : Int32))), .val (.ref s3), .val (.ref s4), .val (.ref b6), .val (.int (1 : Int32))] [(.int (1 : Int32))]))
          refine Gl.st (fun _ k => XS.goto X11.here hx rfl (pc0 := 185) (pc' := 189) rfl (hb hby at_185) (by decide) (by decide) k) ?_
          show Gl p e below P (T11.setTop (mkF m 189 #[.val (.int p1), .val (.int p2), .val (.int p3), .val (.int p4), .val (.int p5), .val (.ref s1), .val (.ref s2), .val (.ref b3), .val (.int (p5 &&& (3 : Int32))), .val (.ref s3), .val (.ref s4), .val (.ref b6), .val (.int (1 : Int32))] [(.int (1 : Int32))]))
          obtain ⟨fs, hr, hrun, hended, hRE⟩ := X11.leaveW hS7 (by rw [e11]; exact (Nat.le_refl _)) (v := some (.int (1 : Int32))) (fun h => by rw [Bd.returns] at h; cases h)
          refine ⟨_, _, retN X11 hx (t := .boolean) Bd.returns (by simp) (hb hby at_189) hr, hrun, hended, hPost _ _ ⟨_, _, rfl, ?_, ?_, hRE.1, hRE.2.1, hRE.2.2.1, hRE.2.2.2.mono (by decide) (by decide)⟩⟩
          rotate_left
          · show CHr Z consts_1 s.vm s.heap T11.vm T11.heap
            rw [hh, e11]
            exact C_w7.trans (CHv.at X11 hZ7 hEL C_w7.1)
          show Q0 Z p1 p2 p3 p4 p5 G1 G3 h0 n0 _ T11.heap _
          rw [e11]
          exact ⟨rfl, N11⟩
        · refine Gl.st (fun _ k => XS.icmpYes X9.here hx rfl (pc0 := 150) (pc' := 160) rfl (hb hby at_150) rfl (feq (hm : ¬ ((p5 &&& (3 : Int32)) = (3 : Int32)))).2 (by decide) (by decide) k) ?_
          show Gl p e below P (T9.setTop (mkF m 160 #[.val (.int p1), .val (.int p2), .val (.int p3), .val (.int p4), .val (.int p5), .val (.ref s1), .val (.ref s2), .val (.ref b3), .val (.int (p5 &&& (3 : Int32))), .val (.ref s3), .val (.ref s4), .val (.ref b6), .val (.int (1 : Int32))] []))
          refine Gl.st (fun _ k => XS.aload X9.here hx rfl (hb hby at_160) rfl rfl k) ?_
          show Gl p e below P (T9.setTop (mkF m 162 #[.val (.int p1), .val (.int p2), .val (.int p3), .val (.int p4), .val (.int p5), .val (.ref s1), .val (.ref s2), .val (.ref b3), .val (.int (p5 &&& (3 : Int32))), .val (.ref s3), .val (.ref s4), .val (.ref b6), .val (.int (1 : Int32))] [(.ref b3)]))
          refine Gl.st (fun _ k => XS.aload X9.here hx rfl (hb hby at_162) rfl rfl k) ?_
          show Gl p e below P (T9.setTop (mkF m 164 #[.val (.int p1), .val (.int p2), .val (.int p3), .val (.int p4), .val (.int p5), .val (.ref s1), .val (.ref s2), .val (.ref b3), .val (.int (p5 &&& (3 : Int32))), .val (.ref s3), .val (.ref s4), .val (.ref b6), .val (.int (1 : Int32))] [(.ref b6), (.ref b3)]))
          obtain ⟨cq12, kq12, q12a, q12b, q12c⟩ := isOf hZ7 e9 J5_E_b3_v7
          obtain ⟨_, _, ⟨T12, L12, k12, n12⟩, -, X12, ⟨Lc12, hQ12, l12, y12, z12⟩, st12⟩ := X9.virtualBack hx (y := (⟨"com/example/andersite/andersite/result/CallEdge", "equals", "(Ljava/lang/Object;)Z"⟩ : MethodName)) (z := (⟨"com/example/andersite/andersite/result/CallEdge", "equals", "(Ljava/lang/Object;)Z"⟩ : MethodName)) hown7 (mvT hZ7 (hw _ (List.mem_of_getElem? (i := 71) rfl))) (mvT hZ7 (hw _ (List.mem_of_getElem? (i := 72) rfl))) (notFace_of_selects (args := #[]) (mvT hZ7 (hw _ (List.mem_of_getElem? (i := 74) rfl)))) (mvT hZ7 (hw _ (List.mem_of_getElem? (i := 74) rfl))) (mvT hZ7 (hw _ (List.mem_of_getElem? (i := 73) rfl))) (by decide) (backOf (W := 0) (rm42 l Z a0 hw [] b3 b6 s1 s2 s3 s4 (own_cs p1) (own_cs p2) c3 c4 G1 (1 : Int32) T7.heap n0 J5_Z_v7 A6_v7 J5_F_b3_caller_v7 J5_F_b3_callee_v7 F7a F7b J5_T_s1_v7 J5_T_s2_v7 J5_T_s3_v7 J5_T_s4_v7 (Or.inl ⟨⟨q1, q2⟩, rfl⟩) O2 P5 J5_O_v7) hZ7 (hw _ (List.mem_of_getElem? (i := 75) rfl)) (hw _ (List.mem_of_getElem? (i := 28) rfl)) (by decide) (by decide)) q12a q12c (g := (mkF m 164 #[.val (.int p1), .val (.int p2), .val (.int p3), .val (.int p4), .val (.int p5), .val (.ref s1), .val (.ref s2), .val (.ref b3), .val (.int (p5 &&& (3 : Int32))), .val (.ref s3), .val (.ref s4), .val (.ref b6), .val (.int (1 : Int32))] [(.ref b6), (.ref b3)])) rfl (by rw [hml]; rfl) (Steps.refl _) (argsL := [(.ref b6)]) (rest := []) (lenOf pd_5 rfl) rfl (by show 2 * 0 + _ ≤ _; exact Nat.le_of_eq rfl) (hb hby at_164) (fun _ _ => ⟨rfl, e9, (by decide : 34 + 0 ≤ _), (by decide : 164 + 0 ≤ _)⟩)
          dsimp only [Pt.U, Pt.locs, Pt.cells, Pt.slots] at X12 l12 y12 z12 st12 hQ12
          subst l12 y12 z12
          obtain ⟨rfl, N12q, e12⟩ := hQ12
          have N12 := Fr.app N9 N12q
          refine Gl.tr st12 ?_
          show Gl p e below P (T12.setTop (mkF m 167 #[.val (.int p1), .val (.int p2), .val (.int p3), .val (.int p4), .val (.int p5), .val (.ref s1), .val (.ref s2), .val (.ref b3), .val (.int (p5 &&& (3 : Int32))), .val (.ref s3), .val (.ref s4), .val (.ref b6), .val (.int (1 : Int32))] [(.int (1 : Int32))]))
          refine Gl.st (fun _ k => XS.iload X12.here hx rfl (hb hby at_167) rfl k) ?_
          show Gl p e below P (T12.setTop (mkF m 169 #[.val (.int p1), .val (.int p2), .val (.int p3), .val (.int p4), .val (.int p5), .val (.ref s1), .val (.ref s2), .val (.ref b3), .val (.int (p5 &&& (3 : Int32))), .val (.ref s3), .val (.ref s4), .val (.ref b6), .val (.int (1 : Int32))] [(.int (1 : Int32)), (.int (1 : Int32))]))
          refine Gl.st (fun _ k => XS.icmpNo X12.here hx rfl (hb hby at_169) rfl (teq (by decide : (1 : Int32) = (1 : Int32))).2 k) ?_
          show Gl p e below P (T12.setTop (mkF m 172 #[.val (.int p1), .val (.int p2), .val (.int p3), .val (.int p4), .val (.int p5), .val (.ref s1), .val (.ref s2), .val (.ref b3), .val (.int (p5 &&& (3 : Int32))), .val (.ref s3), .val (.ref s4), .val (.ref b6), .val (.int (1 : Int32))] []))
          refine Gl.st (fun _ k => XS.aload X12.here hx rfl (hb hby at_172) rfl rfl k) ?_
          show Gl p e below P (T12.setTop (mkF m 174 #[.val (.int p1), .val (.int p2), .val (.int p3), .val (.int p4), .val (.int p5), .val (.ref s1), .val (.ref s2), .val (.ref b3), .val (.int (p5 &&& (3 : Int32))), .val (.ref s3), .val (.ref s4), .val (.ref b6), .val (.int (1 : Int32))] [(.ref b6)]))
          refine Gl.st (fun _ k => XS.aload X12.here hx rfl (hb hby at_174) rfl rfl k) ?_
          show Gl p e below P (T12.setTop (mkF m 176 #[.val (.int p1), .val (.int p2), .val (.int p3), .val (.int p4), .val (.int p5), .val (.ref s1), .val (.ref s2), .val (.ref b3), .val (.int (p5 &&& (3 : Int32))), .val (.ref s3), .val (.ref s4), .val (.ref b6), .val (.int (1 : Int32))] [(.ref b3), (.ref b6)]))
          obtain ⟨cq13, kq13, q13a, q13b, q13c⟩ := isOf hZ7 e12 A6_v7
          obtain ⟨_, _, ⟨T13, L13, k13, n13⟩, -, X13, ⟨Lc13, hQ13, l13, y13, z13⟩, st13⟩ := X12.virtualBack hx (y := (⟨"com/example/andersite/andersite/result/CallEdge", "equals", "(Ljava/lang/Object;)Z"⟩ : MethodName)) (z := (⟨"com/example/andersite/andersite/result/CallEdge", "equals", "(Ljava/lang/Object;)Z"⟩ : MethodName)) hown7 (mvT hZ7 (hw _ (List.mem_of_getElem? (i := 71) rfl))) (mvT hZ7 (hw _ (List.mem_of_getElem? (i := 72) rfl))) (notFace_of_selects (args := #[]) (mvT hZ7 (hw _ (List.mem_of_getElem? (i := 74) rfl)))) (mvT hZ7 (hw _ (List.mem_of_getElem? (i := 74) rfl))) (mvT hZ7 (hw _ (List.mem_of_getElem? (i := 73) rfl))) (by decide) (backOf (W := 0) (rm42 l Z a0 hw [] b6 b3 s3 s4 s1 s2 c3 c4 (own_cs p1) (own_cs p2) G1 (1 : Int32) T7.heap n0 J5_Z_v7 J5_E_b3_v7 F7a F7b J5_F_b3_caller_v7 J5_F_b3_callee_v7 J5_T_s3_v7 J5_T_s4_v7 J5_T_s1_v7 J5_T_s2_v7 (Or.inl ⟨⟨q1.symm, q2.symm⟩, rfl⟩) O2 P5 J5_O_v7) hZ7 (hw _ (List.mem_of_getElem? (i := 75) rfl)) (hw _ (List.mem_of_getElem? (i := 28) rfl)) (by decide) (by decide)) q13a q13c (g := (mkF m 176 #[.val (.int p1), .val (.int p2), .val (.int p3), .val (.int p4), .val (.int p5), .val (.ref s1), .val (.ref s2), .val (.ref b3), .val (.int (p5 &&& (3 : Int32))), .val (.ref s3), .val (.ref s4), .val (.ref b6), .val (.int (1 : Int32))] [(.ref b3), (.ref b6)])) rfl (by rw [hml]; rfl) (Steps.refl _) (argsL := [(.ref b3)]) (rest := []) (lenOf pd_5 rfl) rfl (by show 2 * 0 + _ ≤ _; exact Nat.le_of_eq rfl) (hb hby at_176) (fun _ _ => ⟨rfl, e12, (by decide : 34 + 0 ≤ _), (by decide : 164 + 0 ≤ _)⟩)
          dsimp only [Pt.U, Pt.locs, Pt.cells, Pt.slots] at X13 l13 y13 z13 st13 hQ13
          subst l13 y13 z13
          obtain ⟨rfl, N13q, e13⟩ := hQ13
          have N13 := Fr.app N12 N13q
          refine Gl.tr st13 ?_
          show Gl p e below P (T13.setTop (mkF m 179 #[.val (.int p1), .val (.int p2), .val (.int p3), .val (.int p4), .val (.int p5), .val (.ref s1), .val (.ref s2), .val (.ref b3), .val (.int (p5 &&& (3 : Int32))), .val (.ref s3), .val (.ref s4), .val (.ref b6), .val (.int (1 : Int32))] [(.int (1 : Int32))]))
          refine Gl.st (fun _ k => XS.iload X13.here hx rfl (hb hby at_179) rfl k) ?_
          show Gl p e below P (T13.setTop (mkF m 181 #[.val (.int p1), .val (.int p2), .val (.int p3), .val (.int p4), .val (.int p5), .val (.ref s1), .val (.ref s2), .val (.ref b3), .val (.int (p5 &&& (3 : Int32))), .val (.ref s3), .val (.ref s4), .val (.ref b6), .val (.int (1 : Int32))] [(.int (1 : Int32)), (.int (1 : Int32))]))
          refine Gl.st (fun _ k => XS.icmpNo X13.here hx rfl (hb hby at_181) rfl (teq (by decide : (1 : Int32) = (1 : Int32))).2 k) ?_
          show Gl p e below P (T13.setTop (mkF m 184 #[.val (.int p1), .val (.int p2), .val (.int p3), .val (.int p4), .val (.int p5), .val (.ref s1), .val (.ref s2), .val (.ref b3), .val (.int (p5 &&& (3 : Int32))), .val (.ref s3), .val (.ref s4), .val (.ref b6), .val (.int (1 : Int32))] []))
          refine Gl.st (fun _ k => XS.iconst X13.here hx rfl (hb hby at_184) k) ?_
          show Gl p e below P (T13.setTop (mkF m 185 #[.val (.int p1), .val (.int p2), .val (.int p3), .val (.int p4), .val (.int p5), .val (.ref s1), .val (.ref s2), .val (.ref b3), .val (.int (p5 &&& (3 : Int32))), .val (.ref s3), .val (.ref s4), .val (.ref b6), .val (.int (1 : Int32))] [(.int (1 : Int32))]))
          refine Gl.st (fun _ k => XS.goto X13.here hx rfl (pc0 := 185) (pc' := 189) rfl (hb hby at_185) (by decide) (by decide) k) ?_
          show Gl p e below P (T13.setTop (mkF m 189 #[.val (.int p1), .val (.int p2), .val (.int p3), .val (.int p4), .val (.int p5), .val (.ref s1), .val (.ref s2), .val (.ref b3), .val (.int (p5 &&& (3 : Int32))), .val (.ref s3), .val (.ref s4), .val (.ref b6), .val (.int (1 : Int32))] [(.int (1 : Int32))]))
          obtain ⟨fs, hr, hrun, hended, hRE⟩ := X13.leaveW hS7 (by rw [e13]; exact (Nat.le_refl _)) (v := some (.int (1 : Int32))) (fun h => by rw [Bd.returns] at h; cases h)
          refine ⟨_, _, retN X13 hx (t := .boolean) Bd.returns (by simp) (hb hby at_189) hr, hrun, hended, hPost _ _ ⟨_, _, rfl, ?_, ?_, hRE.1, hRE.2.1, hRE.2.2.1, hRE.2.2.2.mono (by decide) (by decide)⟩⟩
          rotate_left
          · show CHr Z consts_1 s.vm s.heap T13.vm T13.heap
            rw [hh, e13]
            exact C_w7.trans (CHv.at X13 hZ7 hEL C_w7.1)
          show Q0 Z p1 p2 p3 p4 p5 G1 G3 h0 n0 _ T13.heap _
          rw [e13]
          exact ⟨rfl, N13⟩
      · have hnot : ¬ (own_cs p1 = c3 ∧ own_cs p2 = c4) := fun q => q2 q.2
        obtain ⟨_, _, ⟨T14, L14, k14, n14⟩, -, X14, ⟨Lc14, hQ14, l14, y14, z14⟩, st14⟩ := Jvm.LawKit.callS X8 hx (y := (⟨"com/example/andersite/andersite/result/CallEdgeEqualsPinLaw", "same", "(Ljava/lang/String;Ljava/lang/String;)Z"⟩ : MethodName)) hown7 (mvT hZ7 (hw _ (List.mem_of_getElem? (i := 58) rfl))) (mvT hZ7 (hw _ (List.mem_of_getElem? (i := 59) rfl))) (mvT hZ7 (hw _ (List.mem_of_getElem? (i := 2) rfl))) (mvT hZ7 (hw _ (List.mem_of_getElem? (i := 60) rfl))) (by decide) (backOf (W := 0) (rm39 l Z a0 hw [] s2 s4 (own_cs p2) c4 G1 G3 (0 : Int32) T7.heap n0 J5_Z_v7 J5_T_s2_v7 J5_T_s4_v7 (own_cs_len p2) l4 O4 rG3 (Or.inr ⟨q2, rfl⟩) O2 P5 J5_O_v7) hZ7 (hw _ (List.mem_of_getElem? (i := 60) rfl)) (hw _ (List.mem_of_getElem? (i := 2) rfl)) (by decide) (by decide)) (g := (mkF m 134 #[.val (.int p1), .val (.int p2), .val (.int p3), .val (.int p4), .val (.int p5), .val (.ref s1), .val (.ref s2), .val (.ref b3), .val (.int (p5 &&& (3 : Int32))), .val (.ref s3), .val (.ref s4), .val (.ref b6), .unset] [(.ref s4), (.ref s2)])) rfl (by rw [hml]; rfl) (argsL := [(.ref s2), (.ref s4)]) (rest := []) (lenOf pd_8 rfl) rfl (by show 2 * 0 + _ ≤ _; exact Nat.le_of_eq rfl) (hb hby at_134) (fun _ _ => ⟨rfl, e8, (by decide : 34 + 0 ≤ _), (by decide : 164 + 0 ≤ _)⟩)
        dsimp only [Pt.U, Pt.locs, Pt.cells, Pt.slots] at X14 l14 y14 z14 st14 hQ14
        subst l14 y14 z14
        obtain ⟨rfl, N14q, e14⟩ := hQ14
        have N14 := Fr.app N8 N14q
        refine Gl.st st14 ?_
        show Gl p e below P (T14.setTop (mkF m 137 #[.val (.int p1), .val (.int p2), .val (.int p3), .val (.int p4), .val (.int p5), .val (.ref s1), .val (.ref s2), .val (.ref b3), .val (.int (p5 &&& (3 : Int32))), .val (.ref s3), .val (.ref s4), .val (.ref b6), .unset] [(.int (0 : Int32))]))
        refine Gl.st (fun _ k => XS.ifYes X14.here hx rfl (pc0 := 137) (pc' := 144) rfl (hb hby at_137) rfl ((if0 _ _).trans (teq (by decide : (0 : Int32) = (0 : Int32))).1) (by decide) (by decide) k) ?_
        show Gl p e below P (T14.setTop (mkF m 144 #[.val (.int p1), .val (.int p2), .val (.int p3), .val (.int p4), .val (.int p5), .val (.ref s1), .val (.ref s2), .val (.ref b3), .val (.int (p5 &&& (3 : Int32))), .val (.ref s3), .val (.ref s4), .val (.ref b6), .unset] []))
        refine Gl.st (fun _ k => XS.iconst X14.here hx rfl (hb hby at_144) k) ?_
        show Gl p e below P (T14.setTop (mkF m 145 #[.val (.int p1), .val (.int p2), .val (.int p3), .val (.int p4), .val (.int p5), .val (.ref s1), .val (.ref s2), .val (.ref b3), .val (.int (p5 &&& (3 : Int32))), .val (.ref s3), .val (.ref s4), .val (.ref b6), .unset] [(.int (0 : Int32))]))
        refine Gl.st (fun _ k => XS.istore X14.here hx rfl (hb hby at_145) rfl (l' := #[.val (.int p1), .val (.int p2), .val (.int p3), .val (.int p4), .val (.int p5), .val (.ref s1), .val (.ref s2), .val (.ref b3), .val (.int (p5 &&& (3 : Int32))), .val (.ref s3), .val (.ref s4), .val (.ref b6), .val (.int (0 : Int32))]) rfl k) ?_
        show Gl p e below P (T14.setTop (mkF m 147 #[.val (.int p1), .val (.int p2), .val (.int p3), .val (.int p4), .val (.int p5), .val (.ref s1), .val (.ref s2), .val (.ref b3), .val (.int (p5 &&& (3 : Int32))), .val (.ref s3), .val (.ref s4), .val (.ref b6), .val (.int (0 : Int32))] []))
        refine Gl.st (fun _ k => XS.iload X14.here hx rfl (hb hby at_147) rfl k) ?_
        show Gl p e below P (T14.setTop (mkF m 149 #[.val (.int p1), .val (.int p2), .val (.int p3), .val (.int p4), .val (.int p5), .val (.ref s1), .val (.ref s2), .val (.ref b3), .val (.int (p5 &&& (3 : Int32))), .val (.ref s3), .val (.ref s4), .val (.ref b6), .val (.int (0 : Int32))] [(.int (p5 &&& (3 : Int32)))]))
        refine Gl.st (fun _ k => XS.iconst X14.here hx rfl (hb hby at_149) k) ?_
        show Gl p e below P (T14.setTop (mkF m 150 #[.val (.int p1), .val (.int p2), .val (.int p3), .val (.int p4), .val (.int p5), .val (.ref s1), .val (.ref s2), .val (.ref b3), .val (.int (p5 &&& (3 : Int32))), .val (.ref s3), .val (.ref s4), .val (.ref b6), .val (.int (0 : Int32))] [(.int (3 : Int32)), (.int (p5 &&& (3 : Int32)))]))
        refine Gl.st (fun _ k => XS.icmpYes X14.here hx rfl (pc0 := 150) (pc' := 160) rfl (hb hby at_150) rfl (feq (fun q => hnot (hm3 q) : ¬ ((p5 &&& (3 : Int32)) = (3 : Int32)))).2 (by decide) (by decide) k) ?_
        show Gl p e below P (T14.setTop (mkF m 160 #[.val (.int p1), .val (.int p2), .val (.int p3), .val (.int p4), .val (.int p5), .val (.ref s1), .val (.ref s2), .val (.ref b3), .val (.int (p5 &&& (3 : Int32))), .val (.ref s3), .val (.ref s4), .val (.ref b6), .val (.int (0 : Int32))] []))
        refine Gl.st (fun _ k => XS.aload X14.here hx rfl (hb hby at_160) rfl rfl k) ?_
        show Gl p e below P (T14.setTop (mkF m 162 #[.val (.int p1), .val (.int p2), .val (.int p3), .val (.int p4), .val (.int p5), .val (.ref s1), .val (.ref s2), .val (.ref b3), .val (.int (p5 &&& (3 : Int32))), .val (.ref s3), .val (.ref s4), .val (.ref b6), .val (.int (0 : Int32))] [(.ref b3)]))
        refine Gl.st (fun _ k => XS.aload X14.here hx rfl (hb hby at_162) rfl rfl k) ?_
        show Gl p e below P (T14.setTop (mkF m 164 #[.val (.int p1), .val (.int p2), .val (.int p3), .val (.int p4), .val (.int p5), .val (.ref s1), .val (.ref s2), .val (.ref b3), .val (.int (p5 &&& (3 : Int32))), .val (.ref s3), .val (.ref s4), .val (.ref b6), .val (.int (0 : Int32))] [(.ref b6), (.ref b3)]))
        obtain ⟨cq15, kq15, q15a, q15b, q15c⟩ := isOf hZ7 e14 J5_E_b3_v7
        obtain ⟨_, _, ⟨T15, L15, k15, n15⟩, -, X15, ⟨Lc15, hQ15, l15, y15, z15⟩, st15⟩ := X14.virtualBack hx (y := (⟨"com/example/andersite/andersite/result/CallEdge", "equals", "(Ljava/lang/Object;)Z"⟩ : MethodName)) (z := (⟨"com/example/andersite/andersite/result/CallEdge", "equals", "(Ljava/lang/Object;)Z"⟩ : MethodName)) hown7 (mvT hZ7 (hw _ (List.mem_of_getElem? (i := 71) rfl))) (mvT hZ7 (hw _ (List.mem_of_getElem? (i := 72) rfl))) (notFace_of_selects (args := #[]) (mvT hZ7 (hw _ (List.mem_of_getElem? (i := 74) rfl)))) (mvT hZ7 (hw _ (List.mem_of_getElem? (i := 74) rfl))) (mvT hZ7 (hw _ (List.mem_of_getElem? (i := 73) rfl))) (by decide) (backOf (W := 0) (rm42 l Z a0 hw [] b3 b6 s1 s2 s3 s4 (own_cs p1) (own_cs p2) c3 c4 G1 (0 : Int32) T7.heap n0 J5_Z_v7 A6_v7 J5_F_b3_caller_v7 J5_F_b3_callee_v7 F7a F7b J5_T_s1_v7 J5_T_s2_v7 J5_T_s3_v7 J5_T_s4_v7 (Or.inr ⟨hnot, rfl⟩) O2 P5 J5_O_v7) hZ7 (hw _ (List.mem_of_getElem? (i := 75) rfl)) (hw _ (List.mem_of_getElem? (i := 28) rfl)) (by decide) (by decide)) q15a q15c (g := (mkF m 164 #[.val (.int p1), .val (.int p2), .val (.int p3), .val (.int p4), .val (.int p5), .val (.ref s1), .val (.ref s2), .val (.ref b3), .val (.int (p5 &&& (3 : Int32))), .val (.ref s3), .val (.ref s4), .val (.ref b6), .val (.int (0 : Int32))] [(.ref b6), (.ref b3)])) rfl (by rw [hml]; rfl) (Steps.refl _) (argsL := [(.ref b6)]) (rest := []) (lenOf pd_5 rfl) rfl (by show 2 * 0 + _ ≤ _; exact Nat.le_of_eq rfl) (hb hby at_164) (fun _ _ => ⟨rfl, e14, (by decide : 34 + 0 ≤ _), (by decide : 164 + 0 ≤ _)⟩)
        dsimp only [Pt.U, Pt.locs, Pt.cells, Pt.slots] at X15 l15 y15 z15 st15 hQ15
        subst l15 y15 z15
        obtain ⟨rfl, N15q, e15⟩ := hQ15
        have N15 := Fr.app N14 N15q
        refine Gl.tr st15 ?_
        show Gl p e below P (T15.setTop (mkF m 167 #[.val (.int p1), .val (.int p2), .val (.int p3), .val (.int p4), .val (.int p5), .val (.ref s1), .val (.ref s2), .val (.ref b3), .val (.int (p5 &&& (3 : Int32))), .val (.ref s3), .val (.ref s4), .val (.ref b6), .val (.int (0 : Int32))] [(.int (0 : Int32))]))
        refine Gl.st (fun _ k => XS.iload X15.here hx rfl (hb hby at_167) rfl k) ?_
        show Gl p e below P (T15.setTop (mkF m 169 #[.val (.int p1), .val (.int p2), .val (.int p3), .val (.int p4), .val (.int p5), .val (.ref s1), .val (.ref s2), .val (.ref b3), .val (.int (p5 &&& (3 : Int32))), .val (.ref s3), .val (.ref s4), .val (.ref b6), .val (.int (0 : Int32))] [(.int (0 : Int32)), (.int (0 : Int32))]))
        refine Gl.st (fun _ k => XS.icmpNo X15.here hx rfl (hb hby at_169) rfl (teq (by decide : (0 : Int32) = (0 : Int32))).2 k) ?_
        show Gl p e below P (T15.setTop (mkF m 172 #[.val (.int p1), .val (.int p2), .val (.int p3), .val (.int p4), .val (.int p5), .val (.ref s1), .val (.ref s2), .val (.ref b3), .val (.int (p5 &&& (3 : Int32))), .val (.ref s3), .val (.ref s4), .val (.ref b6), .val (.int (0 : Int32))] []))
        refine Gl.st (fun _ k => XS.aload X15.here hx rfl (hb hby at_172) rfl rfl k) ?_
        show Gl p e below P (T15.setTop (mkF m 174 #[.val (.int p1), .val (.int p2), .val (.int p3), .val (.int p4), .val (.int p5), .val (.ref s1), .val (.ref s2), .val (.ref b3), .val (.int (p5 &&& (3 : Int32))), .val (.ref s3), .val (.ref s4), .val (.ref b6), .val (.int (0 : Int32))] [(.ref b6)]))
        refine Gl.st (fun _ k => XS.aload X15.here hx rfl (hb hby at_174) rfl rfl k) ?_
        show Gl p e below P (T15.setTop (mkF m 176 #[.val (.int p1), .val (.int p2), .val (.int p3), .val (.int p4), .val (.int p5), .val (.ref s1), .val (.ref s2), .val (.ref b3), .val (.int (p5 &&& (3 : Int32))), .val (.ref s3), .val (.ref s4), .val (.ref b6), .val (.int (0 : Int32))] [(.ref b3), (.ref b6)]))
        obtain ⟨cq16, kq16, q16a, q16b, q16c⟩ := isOf hZ7 e15 A6_v7
        obtain ⟨_, _, ⟨T16, L16, k16, n16⟩, -, X16, ⟨Lc16, hQ16, l16, y16, z16⟩, st16⟩ := X15.virtualBack hx (y := (⟨"com/example/andersite/andersite/result/CallEdge", "equals", "(Ljava/lang/Object;)Z"⟩ : MethodName)) (z := (⟨"com/example/andersite/andersite/result/CallEdge", "equals", "(Ljava/lang/Object;)Z"⟩ : MethodName)) hown7 (mvT hZ7 (hw _ (List.mem_of_getElem? (i := 71) rfl))) (mvT hZ7 (hw _ (List.mem_of_getElem? (i := 72) rfl))) (notFace_of_selects (args := #[]) (mvT hZ7 (hw _ (List.mem_of_getElem? (i := 74) rfl)))) (mvT hZ7 (hw _ (List.mem_of_getElem? (i := 74) rfl))) (mvT hZ7 (hw _ (List.mem_of_getElem? (i := 73) rfl))) (by decide) (backOf (W := 0) (rm42 l Z a0 hw [] b6 b3 s3 s4 s1 s2 c3 c4 (own_cs p1) (own_cs p2) G1 (0 : Int32) T7.heap n0 J5_Z_v7 J5_E_b3_v7 F7a F7b J5_F_b3_caller_v7 J5_F_b3_callee_v7 J5_T_s3_v7 J5_T_s4_v7 J5_T_s1_v7 J5_T_s2_v7 (Or.inr ⟨fun q => hnot ⟨q.1.symm, q.2.symm⟩, rfl⟩) O2 P5 J5_O_v7) hZ7 (hw _ (List.mem_of_getElem? (i := 75) rfl)) (hw _ (List.mem_of_getElem? (i := 28) rfl)) (by decide) (by decide)) q16a q16c (g := (mkF m 176 #[.val (.int p1), .val (.int p2), .val (.int p3), .val (.int p4), .val (.int p5), .val (.ref s1), .val (.ref s2), .val (.ref b3), .val (.int (p5 &&& (3 : Int32))), .val (.ref s3), .val (.ref s4), .val (.ref b6), .val (.int (0 : Int32))] [(.ref b3), (.ref b6)])) rfl (by rw [hml]; rfl) (Steps.refl _) (argsL := [(.ref b3)]) (rest := []) (lenOf pd_5 rfl) rfl (by show 2 * 0 + _ ≤ _; exact Nat.le_of_eq rfl) (hb hby at_176) (fun _ _ => ⟨rfl, e15, (by decide : 34 + 0 ≤ _), (by decide : 164 + 0 ≤ _)⟩)
        dsimp only [Pt.U, Pt.locs, Pt.cells, Pt.slots] at X16 l16 y16 z16 st16 hQ16
        subst l16 y16 z16
        obtain ⟨rfl, N16q, e16⟩ := hQ16
        have N16 := Fr.app N15 N16q
        refine Gl.tr st16 ?_
        show Gl p e below P (T16.setTop (mkF m 179 #[.val (.int p1), .val (.int p2), .val (.int p3), .val (.int p4), .val (.int p5), .val (.ref s1), .val (.ref s2), .val (.ref b3), .val (.int (p5 &&& (3 : Int32))), .val (.ref s3), .val (.ref s4), .val (.ref b6), .val (.int (0 : Int32))] [(.int (0 : Int32))]))
        refine Gl.st (fun _ k => XS.iload X16.here hx rfl (hb hby at_179) rfl k) ?_
        show Gl p e below P (T16.setTop (mkF m 181 #[.val (.int p1), .val (.int p2), .val (.int p3), .val (.int p4), .val (.int p5), .val (.ref s1), .val (.ref s2), .val (.ref b3), .val (.int (p5 &&& (3 : Int32))), .val (.ref s3), .val (.ref s4), .val (.ref b6), .val (.int (0 : Int32))] [(.int (0 : Int32)), (.int (0 : Int32))]))
        refine Gl.st (fun _ k => XS.icmpNo X16.here hx rfl (hb hby at_181) rfl (teq (by decide : (0 : Int32) = (0 : Int32))).2 k) ?_
        show Gl p e below P (T16.setTop (mkF m 184 #[.val (.int p1), .val (.int p2), .val (.int p3), .val (.int p4), .val (.int p5), .val (.ref s1), .val (.ref s2), .val (.ref b3), .val (.int (p5 &&& (3 : Int32))), .val (.ref s3), .val (.ref s4), .val (.ref b6), .val (.int (0 : Int32))] []))
        refine Gl.st (fun _ k => XS.iconst X16.here hx rfl (hb hby at_184) k) ?_
        show Gl p e below P (T16.setTop (mkF m 185 #[.val (.int p1), .val (.int p2), .val (.int p3), .val (.int p4), .val (.int p5), .val (.ref s1), .val (.ref s2), .val (.ref b3), .val (.int (p5 &&& (3 : Int32))), .val (.ref s3), .val (.ref s4), .val (.ref b6), .val (.int (0 : Int32))] [(.int (1 : Int32))]))
        refine Gl.st (fun _ k => XS.goto X16.here hx rfl (pc0 := 185) (pc' := 189) rfl (hb hby at_185) (by decide) (by decide) k) ?_
        show Gl p e below P (T16.setTop (mkF m 189 #[.val (.int p1), .val (.int p2), .val (.int p3), .val (.int p4), .val (.int p5), .val (.ref s1), .val (.ref s2), .val (.ref b3), .val (.int (p5 &&& (3 : Int32))), .val (.ref s3), .val (.ref s4), .val (.ref b6), .val (.int (0 : Int32))] [(.int (1 : Int32))]))
        obtain ⟨fs, hr, hrun, hended, hRE⟩ := X16.leaveW hS7 (by rw [e16]; exact (Nat.le_refl _)) (v := some (.int (1 : Int32))) (fun h => by rw [Bd.returns] at h; cases h)
        refine ⟨_, _, retN X16 hx (t := .boolean) Bd.returns (by simp) (hb hby at_189) hr, hrun, hended, hPost _ _ ⟨_, _, rfl, ?_, ?_, hRE.1, hRE.2.1, hRE.2.2.1, hRE.2.2.2.mono (by decide) (by decide)⟩⟩
        rotate_left
        · show CHr Z consts_1 s.vm s.heap T16.vm T16.heap
          rw [hh, e16]
          exact C_w7.trans (CHv.at X16 hZ7 hEL C_w7.1)
        show Q0 Z p1 p2 p3 p4 p5 G1 G3 h0 n0 _ T16.heap _
        rw [e16]
        exact ⟨rfl, N16⟩
    · have hnot : ¬ (own_cs p1 = c3 ∧ own_cs p2 = c4) := fun q => q1 q.1
      obtain ⟨_, _, ⟨T17, L17, k17, n17⟩, -, X17, ⟨Lc17, hQ17, l17, y17, z17⟩, st17⟩ := Jvm.LawKit.callS X7 hx (y := (⟨"com/example/andersite/andersite/result/CallEdgeEqualsPinLaw", "same", "(Ljava/lang/String;Ljava/lang/String;)Z"⟩ : MethodName)) hown7 (mvT hZ7 (hw _ (List.mem_of_getElem? (i := 58) rfl))) (mvT hZ7 (hw _ (List.mem_of_getElem? (i := 59) rfl))) (mvT hZ7 (hw _ (List.mem_of_getElem? (i := 2) rfl))) (mvT hZ7 (hw _ (List.mem_of_getElem? (i := 60) rfl))) (by decide) (backOf (W := 0) (rm39 l Z a0 hw [] s1 s3 (own_cs p1) c3 G1 G3 (0 : Int32) T7.heap n0 J5_Z_v7 J5_T_s1_v7 J5_T_s3_v7 (own_cs_len p1) l3 O4 rG3 (Or.inr ⟨q1, rfl⟩) O2 P5 J5_O_v7) hZ7 (hw _ (List.mem_of_getElem? (i := 60) rfl)) (hw _ (List.mem_of_getElem? (i := 2) rfl)) (by decide) (by decide)) (g := (mkF m 124 #[.val (.int p1), .val (.int p2), .val (.int p3), .val (.int p4), .val (.int p5), .val (.ref s1), .val (.ref s2), .val (.ref b3), .val (.int (p5 &&& (3 : Int32))), .val (.ref s3), .val (.ref s4), .val (.ref b6), .unset] [(.ref s3), (.ref s1)])) rfl (by rw [hml]; rfl) (argsL := [(.ref s1), (.ref s3)]) (rest := []) (lenOf pd_8 rfl) rfl (by show 2 * 0 + _ ≤ _; exact Nat.le_of_eq rfl) (hb hby at_124) (fun _ _ => ⟨rfl, rfl, (by decide : 34 + 0 ≤ _), (by decide : 164 + 0 ≤ _)⟩)
      dsimp only [Pt.U, Pt.locs, Pt.cells, Pt.slots] at X17 l17 y17 z17 st17 hQ17
      subst l17 y17 z17
      obtain ⟨rfl, N17q, e17⟩ := hQ17
      have N17 := Fr.app N7 N17q
      refine Gl.st st17 ?_
      show Gl p e below P (T17.setTop (mkF m 127 #[.val (.int p1), .val (.int p2), .val (.int p3), .val (.int p4), .val (.int p5), .val (.ref s1), .val (.ref s2), .val (.ref b3), .val (.int (p5 &&& (3 : Int32))), .val (.ref s3), .val (.ref s4), .val (.ref b6), .unset] [(.int (0 : Int32))]))
      refine Gl.st (fun _ k => XS.ifYes X17.here hx rfl (pc0 := 127) (pc' := 144) rfl (hb hby at_127) rfl ((if0 _ _).trans (teq (by decide : (0 : Int32) = (0 : Int32))).1) (by decide) (by decide) k) ?_
      show Gl p e below P (T17.setTop (mkF m 144 #[.val (.int p1), .val (.int p2), .val (.int p3), .val (.int p4), .val (.int p5), .val (.ref s1), .val (.ref s2), .val (.ref b3), .val (.int (p5 &&& (3 : Int32))), .val (.ref s3), .val (.ref s4), .val (.ref b6), .unset] []))
      refine Gl.st (fun _ k => XS.iconst X17.here hx rfl (hb hby at_144) k) ?_
      show Gl p e below P (T17.setTop (mkF m 145 #[.val (.int p1), .val (.int p2), .val (.int p3), .val (.int p4), .val (.int p5), .val (.ref s1), .val (.ref s2), .val (.ref b3), .val (.int (p5 &&& (3 : Int32))), .val (.ref s3), .val (.ref s4), .val (.ref b6), .unset] [(.int (0 : Int32))]))
      refine Gl.st (fun _ k => XS.istore X17.here hx rfl (hb hby at_145) rfl (l' := #[.val (.int p1), .val (.int p2), .val (.int p3), .val (.int p4), .val (.int p5), .val (.ref s1), .val (.ref s2), .val (.ref b3), .val (.int (p5 &&& (3 : Int32))), .val (.ref s3), .val (.ref s4), .val (.ref b6), .val (.int (0 : Int32))]) rfl k) ?_
      show Gl p e below P (T17.setTop (mkF m 147 #[.val (.int p1), .val (.int p2), .val (.int p3), .val (.int p4), .val (.int p5), .val (.ref s1), .val (.ref s2), .val (.ref b3), .val (.int (p5 &&& (3 : Int32))), .val (.ref s3), .val (.ref s4), .val (.ref b6), .val (.int (0 : Int32))] []))
      refine Gl.st (fun _ k => XS.iload X17.here hx rfl (hb hby at_147) rfl k) ?_
      show Gl p e below P (T17.setTop (mkF m 149 #[.val (.int p1), .val (.int p2), .val (.int p3), .val (.int p4), .val (.int p5), .val (.ref s1), .val (.ref s2), .val (.ref b3), .val (.int (p5 &&& (3 : Int32))), .val (.ref s3), .val (.ref s4), .val (.ref b6), .val (.int (0 : Int32))] [(.int (p5 &&& (3 : Int32)))]))
      refine Gl.st (fun _ k => XS.iconst X17.here hx rfl (hb hby at_149) k) ?_
      show Gl p e below P (T17.setTop (mkF m 150 #[.val (.int p1), .val (.int p2), .val (.int p3), .val (.int p4), .val (.int p5), .val (.ref s1), .val (.ref s2), .val (.ref b3), .val (.int (p5 &&& (3 : Int32))), .val (.ref s3), .val (.ref s4), .val (.ref b6), .val (.int (0 : Int32))] [(.int (3 : Int32)), (.int (p5 &&& (3 : Int32)))]))
      refine Gl.st (fun _ k => XS.icmpYes X17.here hx rfl (pc0 := 150) (pc' := 160) rfl (hb hby at_150) rfl (feq (fun q => hnot (hm3 q) : ¬ ((p5 &&& (3 : Int32)) = (3 : Int32)))).2 (by decide) (by decide) k) ?_
      show Gl p e below P (T17.setTop (mkF m 160 #[.val (.int p1), .val (.int p2), .val (.int p3), .val (.int p4), .val (.int p5), .val (.ref s1), .val (.ref s2), .val (.ref b3), .val (.int (p5 &&& (3 : Int32))), .val (.ref s3), .val (.ref s4), .val (.ref b6), .val (.int (0 : Int32))] []))
      refine Gl.st (fun _ k => XS.aload X17.here hx rfl (hb hby at_160) rfl rfl k) ?_
      show Gl p e below P (T17.setTop (mkF m 162 #[.val (.int p1), .val (.int p2), .val (.int p3), .val (.int p4), .val (.int p5), .val (.ref s1), .val (.ref s2), .val (.ref b3), .val (.int (p5 &&& (3 : Int32))), .val (.ref s3), .val (.ref s4), .val (.ref b6), .val (.int (0 : Int32))] [(.ref b3)]))
      refine Gl.st (fun _ k => XS.aload X17.here hx rfl (hb hby at_162) rfl rfl k) ?_
      show Gl p e below P (T17.setTop (mkF m 164 #[.val (.int p1), .val (.int p2), .val (.int p3), .val (.int p4), .val (.int p5), .val (.ref s1), .val (.ref s2), .val (.ref b3), .val (.int (p5 &&& (3 : Int32))), .val (.ref s3), .val (.ref s4), .val (.ref b6), .val (.int (0 : Int32))] [(.ref b6), (.ref b3)]))
      obtain ⟨cq18, kq18, q18a, q18b, q18c⟩ := isOf hZ7 e17 J5_E_b3_v7
      obtain ⟨_, _, ⟨T18, L18, k18, n18⟩, -, X18, ⟨Lc18, hQ18, l18, y18, z18⟩, st18⟩ := X17.virtualBack hx (y := (⟨"com/example/andersite/andersite/result/CallEdge", "equals", "(Ljava/lang/Object;)Z"⟩ : MethodName)) (z := (⟨"com/example/andersite/andersite/result/CallEdge", "equals", "(Ljava/lang/Object;)Z"⟩ : MethodName)) hown7 (mvT hZ7 (hw _ (List.mem_of_getElem? (i := 71) rfl))) (mvT hZ7 (hw _ (List.mem_of_getElem? (i := 72) rfl))) (notFace_of_selects (args := #[]) (mvT hZ7 (hw _ (List.mem_of_getElem? (i := 74) rfl)))) (mvT hZ7 (hw _ (List.mem_of_getElem? (i := 74) rfl))) (mvT hZ7 (hw _ (List.mem_of_getElem? (i := 73) rfl))) (by decide) (backOf (W := 0) (rm42 l Z a0 hw [] b3 b6 s1 s2 s3 s4 (own_cs p1) (own_cs p2) c3 c4 G1 (0 : Int32) T7.heap n0 J5_Z_v7 A6_v7 J5_F_b3_caller_v7 J5_F_b3_callee_v7 F7a F7b J5_T_s1_v7 J5_T_s2_v7 J5_T_s3_v7 J5_T_s4_v7 (Or.inr ⟨hnot, rfl⟩) O2 P5 J5_O_v7) hZ7 (hw _ (List.mem_of_getElem? (i := 75) rfl)) (hw _ (List.mem_of_getElem? (i := 28) rfl)) (by decide) (by decide)) q18a q18c (g := (mkF m 164 #[.val (.int p1), .val (.int p2), .val (.int p3), .val (.int p4), .val (.int p5), .val (.ref s1), .val (.ref s2), .val (.ref b3), .val (.int (p5 &&& (3 : Int32))), .val (.ref s3), .val (.ref s4), .val (.ref b6), .val (.int (0 : Int32))] [(.ref b6), (.ref b3)])) rfl (by rw [hml]; rfl) (Steps.refl _) (argsL := [(.ref b6)]) (rest := []) (lenOf pd_5 rfl) rfl (by show 2 * 0 + _ ≤ _; exact Nat.le_of_eq rfl) (hb hby at_164) (fun _ _ => ⟨rfl, e17, (by decide : 34 + 0 ≤ _), (by decide : 164 + 0 ≤ _)⟩)
      dsimp only [Pt.U, Pt.locs, Pt.cells, Pt.slots] at X18 l18 y18 z18 st18 hQ18
      subst l18 y18 z18
      obtain ⟨rfl, N18q, e18⟩ := hQ18
      have N18 := Fr.app N17 N18q
      refine Gl.tr st18 ?_
      show Gl p e below P (T18.setTop (mkF m 167 #[.val (.int p1), .val (.int p2), .val (.int p3), .val (.int p4), .val (.int p5), .val (.ref s1), .val (.ref s2), .val (.ref b3), .val (.int (p5 &&& (3 : Int32))), .val (.ref s3), .val (.ref s4), .val (.ref b6), .val (.int (0 : Int32))] [(.int (0 : Int32))]))
      refine Gl.st (fun _ k => XS.iload X18.here hx rfl (hb hby at_167) rfl k) ?_
      show Gl p e below P (T18.setTop (mkF m 169 #[.val (.int p1), .val (.int p2), .val (.int p3), .val (.int p4), .val (.int p5), .val (.ref s1), .val (.ref s2), .val (.ref b3), .val (.int (p5 &&& (3 : Int32))), .val (.ref s3), .val (.ref s4), .val (.ref b6), .val (.int (0 : Int32))] [(.int (0 : Int32)), (.int (0 : Int32))]))
      refine Gl.st (fun _ k => XS.icmpNo X18.here hx rfl (hb hby at_169) rfl (teq (by decide : (0 : Int32) = (0 : Int32))).2 k) ?_
      show Gl p e below P (T18.setTop (mkF m 172 #[.val (.int p1), .val (.int p2), .val (.int p3), .val (.int p4), .val (.int p5), .val (.ref s1), .val (.ref s2), .val (.ref b3), .val (.int (p5 &&& (3 : Int32))), .val (.ref s3), .val (.ref s4), .val (.ref b6), .val (.int (0 : Int32))] []))
      refine Gl.st (fun _ k => XS.aload X18.here hx rfl (hb hby at_172) rfl rfl k) ?_
      show Gl p e below P (T18.setTop (mkF m 174 #[.val (.int p1), .val (.int p2), .val (.int p3), .val (.int p4), .val (.int p5), .val (.ref s1), .val (.ref s2), .val (.ref b3), .val (.int (p5 &&& (3 : Int32))), .val (.ref s3), .val (.ref s4), .val (.ref b6), .val (.int (0 : Int32))] [(.ref b6)]))
      refine Gl.st (fun _ k => XS.aload X18.here hx rfl (hb hby at_174) rfl rfl k) ?_
      show Gl p e below P (T18.setTop (mkF m 176 #[.val (.int p1), .val (.int p2), .val (.int p3), .val (.int p4), .val (.int p5), .val (.ref s1), .val (.ref s2), .val (.ref b3), .val (.int (p5 &&& (3 : Int32))), .val (.ref s3), .val (.ref s4), .val (.ref b6), .val (.int (0 : Int32))] [(.ref b3), (.ref b6)]))
      obtain ⟨cq19, kq19, q19a, q19b, q19c⟩ := isOf hZ7 e18 A6_v7
      obtain ⟨_, _, ⟨T19, L19, k19, n19⟩, -, X19, ⟨Lc19, hQ19, l19, y19, z19⟩, st19⟩ := X18.virtualBack hx (y := (⟨"com/example/andersite/andersite/result/CallEdge", "equals", "(Ljava/lang/Object;)Z"⟩ : MethodName)) (z := (⟨"com/example/andersite/andersite/result/CallEdge", "equals", "(Ljava/lang/Object;)Z"⟩ : MethodName)) hown7 (mvT hZ7 (hw _ (List.mem_of_getElem? (i := 71) rfl))) (mvT hZ7 (hw _ (List.mem_of_getElem? (i := 72) rfl))) (notFace_of_selects (args := #[]) (mvT hZ7 (hw _ (List.mem_of_getElem? (i := 74) rfl)))) (mvT hZ7 (hw _ (List.mem_of_getElem? (i := 74) rfl))) (mvT hZ7 (hw _ (List.mem_of_getElem? (i := 73) rfl))) (by decide) (backOf (W := 0) (rm42 l Z a0 hw [] b6 b3 s3 s4 s1 s2 c3 c4 (own_cs p1) (own_cs p2) G1 (0 : Int32) T7.heap n0 J5_Z_v7 J5_E_b3_v7 F7a F7b J5_F_b3_caller_v7 J5_F_b3_callee_v7 J5_T_s3_v7 J5_T_s4_v7 J5_T_s1_v7 J5_T_s2_v7 (Or.inr ⟨fun q => hnot ⟨q.1.symm, q.2.symm⟩, rfl⟩) O2 P5 J5_O_v7) hZ7 (hw _ (List.mem_of_getElem? (i := 75) rfl)) (hw _ (List.mem_of_getElem? (i := 28) rfl)) (by decide) (by decide)) q19a q19c (g := (mkF m 176 #[.val (.int p1), .val (.int p2), .val (.int p3), .val (.int p4), .val (.int p5), .val (.ref s1), .val (.ref s2), .val (.ref b3), .val (.int (p5 &&& (3 : Int32))), .val (.ref s3), .val (.ref s4), .val (.ref b6), .val (.int (0 : Int32))] [(.ref b3), (.ref b6)])) rfl (by rw [hml]; rfl) (Steps.refl _) (argsL := [(.ref b3)]) (rest := []) (lenOf pd_5 rfl) rfl (by show 2 * 0 + _ ≤ _; exact Nat.le_of_eq rfl) (hb hby at_176) (fun _ _ => ⟨rfl, e18, (by decide : 34 + 0 ≤ _), (by decide : 164 + 0 ≤ _)⟩)
      dsimp only [Pt.U, Pt.locs, Pt.cells, Pt.slots] at X19 l19 y19 z19 st19 hQ19
      subst l19 y19 z19
      obtain ⟨rfl, N19q, e19⟩ := hQ19
      have N19 := Fr.app N18 N19q
      refine Gl.tr st19 ?_
      show Gl p e below P (T19.setTop (mkF m 179 #[.val (.int p1), .val (.int p2), .val (.int p3), .val (.int p4), .val (.int p5), .val (.ref s1), .val (.ref s2), .val (.ref b3), .val (.int (p5 &&& (3 : Int32))), .val (.ref s3), .val (.ref s4), .val (.ref b6), .val (.int (0 : Int32))] [(.int (0 : Int32))]))
      refine Gl.st (fun _ k => XS.iload X19.here hx rfl (hb hby at_179) rfl k) ?_
      show Gl p e below P (T19.setTop (mkF m 181 #[.val (.int p1), .val (.int p2), .val (.int p3), .val (.int p4), .val (.int p5), .val (.ref s1), .val (.ref s2), .val (.ref b3), .val (.int (p5 &&& (3 : Int32))), .val (.ref s3), .val (.ref s4), .val (.ref b6), .val (.int (0 : Int32))] [(.int (0 : Int32)), (.int (0 : Int32))]))
      refine Gl.st (fun _ k => XS.icmpNo X19.here hx rfl (hb hby at_181) rfl (teq (by decide : (0 : Int32) = (0 : Int32))).2 k) ?_
      show Gl p e below P (T19.setTop (mkF m 184 #[.val (.int p1), .val (.int p2), .val (.int p3), .val (.int p4), .val (.int p5), .val (.ref s1), .val (.ref s2), .val (.ref b3), .val (.int (p5 &&& (3 : Int32))), .val (.ref s3), .val (.ref s4), .val (.ref b6), .val (.int (0 : Int32))] []))
      refine Gl.st (fun _ k => XS.iconst X19.here hx rfl (hb hby at_184) k) ?_
      show Gl p e below P (T19.setTop (mkF m 185 #[.val (.int p1), .val (.int p2), .val (.int p3), .val (.int p4), .val (.int p5), .val (.ref s1), .val (.ref s2), .val (.ref b3), .val (.int (p5 &&& (3 : Int32))), .val (.ref s3), .val (.ref s4), .val (.ref b6), .val (.int (0 : Int32))] [(.int (1 : Int32))]))
      refine Gl.st (fun _ k => XS.goto X19.here hx rfl (pc0 := 185) (pc' := 189) rfl (hb hby at_185) (by decide) (by decide) k) ?_
      show Gl p e below P (T19.setTop (mkF m 189 #[.val (.int p1), .val (.int p2), .val (.int p3), .val (.int p4), .val (.int p5), .val (.ref s1), .val (.ref s2), .val (.ref b3), .val (.int (p5 &&& (3 : Int32))), .val (.ref s3), .val (.ref s4), .val (.ref b6), .val (.int (0 : Int32))] [(.int (1 : Int32))]))
      obtain ⟨fs, hr, hrun, hended, hRE⟩ := X19.leaveW hS7 (by rw [e19]; exact (Nat.le_refl _)) (v := some (.int (1 : Int32))) (fun h => by rw [Bd.returns] at h; cases h)
      refine ⟨_, _, retN X19 hx (t := .boolean) Bd.returns (by simp) (hb hby at_189) hr, hrun, hended, hPost _ _ ⟨_, _, rfl, ?_, ?_, hRE.1, hRE.2.1, hRE.2.2.1, hRE.2.2.2.mono (by decide) (by decide)⟩⟩
      rotate_left
      · show CHr Z consts_1 s.vm s.heap T19.vm T19.heap
        rw [hh, e19]
        exact C_w7.trans (CHv.at X19 hZ7 hEL C_w7.1)
      show Q0 Z p1 p2 p3 p4 p5 G1 G3 h0 n0 _ T19.heap _
      rw [e19]
      exact ⟨rfl, N19⟩
  rcases own_four p5 with hk | hk | hk | hk
  · refine Gl.st (fun _ k => XS.icmpYes X4.here hx rfl (pc0 := 34) (pc' := 52) rfl (hb hby at_34) rfl (feq (by rw [hk]; decide : ¬ ((p5 &&& (3 : Int32)) = (1 : Int32)))).2 (by decide) (by decide) k) ?_
    show Gl p e below P (T4.setTop (mkF m 52 #[.val (.int p1), .val (.int p2), .val (.int p3), .val (.int p4), .val (.int p5), .val (.ref s1), .val (.ref s2), .val (.ref b3), .val (.int (p5 &&& (3 : Int32))), .unset, .unset, .unset, .unset] []))
    refine Gl.st (fun _ k => XS.iload X4.here hx rfl (hb hby at_52) rfl k) ?_
    show Gl p e below P (T4.setTop (mkF m 54 #[.val (.int p1), .val (.int p2), .val (.int p3), .val (.int p4), .val (.int p5), .val (.ref s1), .val (.ref s2), .val (.ref b3), .val (.int (p5 &&& (3 : Int32))), .unset, .unset, .unset, .unset] [(.int (p5 &&& (3 : Int32)))]))
    refine Gl.st (fun _ k => XS.iconst X4.here hx rfl (hb hby at_54) k) ?_
    show Gl p e below P (T4.setTop (mkF m 55 #[.val (.int p1), .val (.int p2), .val (.int p3), .val (.int p4), .val (.int p5), .val (.ref s1), .val (.ref s2), .val (.ref b3), .val (.int (p5 &&& (3 : Int32))), .unset, .unset, .unset, .unset] [(.int (2 : Int32)), (.int (p5 &&& (3 : Int32)))]))
    refine Gl.st (fun _ k => XS.icmpYes X4.here hx rfl (pc0 := 55) (pc' := 74) rfl (hb hby at_55) rfl (feq (by rw [hk]; decide : ¬ ((p5 &&& (3 : Int32)) = (2 : Int32)))).2 (by decide) (by decide) k) ?_
    show Gl p e below P (T4.setTop (mkF m 74 #[.val (.int p1), .val (.int p2), .val (.int p3), .val (.int p4), .val (.int p5), .val (.ref s1), .val (.ref s2), .val (.ref b3), .val (.int (p5 &&& (3 : Int32))), .unset, .unset, .unset, .unset] []))
    refine Gl.st (fun _ k => XS.iload X4.here hx rfl (hb hby at_74) rfl k) ?_
    show Gl p e below P (T4.setTop (mkF m 76 #[.val (.int p1), .val (.int p2), .val (.int p3), .val (.int p4), .val (.int p5), .val (.ref s1), .val (.ref s2), .val (.ref b3), .val (.int (p5 &&& (3 : Int32))), .unset, .unset, .unset, .unset] [(.int (p5 &&& (3 : Int32)))]))
    refine Gl.st (fun _ k => XS.iconst X4.here hx rfl (hb hby at_76) k) ?_
    show Gl p e below P (T4.setTop (mkF m 77 #[.val (.int p1), .val (.int p2), .val (.int p3), .val (.int p4), .val (.int p5), .val (.ref s1), .val (.ref s2), .val (.ref b3), .val (.int (p5 &&& (3 : Int32))), .unset, .unset, .unset, .unset] [(.int (3 : Int32)), (.int (p5 &&& (3 : Int32)))]))
    refine Gl.st (fun _ k => XS.icmpYes X4.here hx rfl (pc0 := 77) (pc' := 95) rfl (hb hby at_77) rfl (feq (by rw [hk]; decide : ¬ ((p5 &&& (3 : Int32)) = (3 : Int32)))).2 (by decide) (by decide) k) ?_
    show Gl p e below P (T4.setTop (mkF m 95 #[.val (.int p1), .val (.int p2), .val (.int p3), .val (.int p4), .val (.int p5), .val (.ref s1), .val (.ref s2), .val (.ref b3), .val (.int (p5 &&& (3 : Int32))), .unset, .unset, .unset, .unset] []))
    refine Gl.st (fun _ k => XS.iloadN X4.here hx rfl (hb hby at_95) rfl k) ?_
    show Gl p e below P (T4.setTop (mkF m 96 #[.val (.int p1), .val (.int p2), .val (.int p3), .val (.int p4), .val (.int p5), .val (.ref s1), .val (.ref s2), .val (.ref b3), .val (.int (p5 &&& (3 : Int32))), .unset, .unset, .unset, .unset] [(.int p3)]))
    obtain ⟨_, _, ⟨T20, L20, k20, n20⟩, -, X20, hs20, hg20, ⟨Lc20, hQ20, l20, y20, z20, Cn20⟩, st20⟩ := callSS X4 hx (y := (⟨"com/example/andersite/andersite/result/CallEdgeEqualsPinLaw", "str", "(I)Ljava/lang/String;"⟩ : MethodName)) hown4 (mvT hZ4 (hw _ (List.mem_of_getElem? (i := 0) rfl))) (mvT hZ4 (hw _ (List.mem_of_getElem? (i := 1) rfl))) (mvT hZ4 (hw _ (List.mem_of_getElem? (i := 2) rfl))) (mvT hZ4 (hw _ (List.mem_of_getElem? (i := 3) rfl))) (by decide) (backOfSH (s := s) (W := 0) (rm36 l Z a0 hw [] p3 G1 T4.heap n0 Z0_v4 O2 P5 X00_v4) hZ4 (hw _ (List.mem_of_getElem? (i := 3) rfl)) (hw _ (List.mem_of_getElem? (i := 2) rfl)) (by decide) (by decide) hEL C_w4.1) (g := (mkF m 96 #[.val (.int p1), .val (.int p2), .val (.int p3), .val (.int p4), .val (.int p5), .val (.ref s1), .val (.ref s2), .val (.ref b3), .val (.int (p5 &&& (3 : Int32))), .unset, .unset, .unset, .unset] [(.int p3)])) rfl (by rw [hml]; rfl) (argsL := [(.int p3)]) (rest := []) (lenOf pd_6 rfl) rfl (by show 2 * 0 + _ ≤ _; exact Nat.le_of_eq rfl) (hb hby at_96) (fun _ _ => ⟨rfl, rfl, (by decide : 17 + 6 ≤ _), (by decide : 82 + 12 ≤ _)⟩)
    dsimp only [Pt.U, Pt.locs, Pt.cells, Pt.slots] at X20 hs20 hg20 l20 y20 z20 st20 hQ20 Cn20
    subst l20 y20 z20
    obtain ⟨N20q, K20, s3, rfl, Ts3⟩ := hQ20
    have X20 : Stand p l e room_1 (s.setVm T20.vm) m _ below meth c T20 _ _ _ := X20
    have N20 := Fr.app N4 N20q
    have Z0_v20 : n0 ≤ T20.heap.size := Nat.le_trans Z0_v4 K20.1
    have f_hk_v20 : T4.heap.size ≤ T20.heap.size := Nat.le_trans (Nat.le_refl _) K20.1
    have X00_v20 : Old Z n0 T20.heap := X00_v4.keep K20 all0
    have Ts1_v20 : own_Str Z T20.heap s1 (own_cs p1) := own_Str_keep0 K20 Ts1_v4
    have Ts2_v20 : own_Str Z T20.heap s2 (own_cs p2) := own_Str_keep0 K20 Ts2_v4
    have A3_v20 : Exa Z T20.heap b3 "com/example/andersite/andersite/result/CallEdge" := A3_v4.keep K20
    have F4a_v20 : Fld Z T20.heap b3 "com/example/andersite/andersite/result/CallEdge" "caller" "Ljava/lang/String;" (.ref s1) := F4a.keep K20 nin0
    have F4b_v20 : Fld Z T20.heap b3 "com/example/andersite/andersite/result/CallEdge" "callee" "Ljava/lang/String;" (.ref s2) := F4b.keep K20 nin0
    have hS20 : s.Since T20.vm T20.heap.size := foldS hS4 (Nat.le_refl _) hs20 hg20
    have hZ20 : Z.Warmed39 (s.setVm T20.vm).vm := State.Warmed39.trans (t := s.setVm T4.vm) hZ4 hs20.1
    have hown20 : (s.setVm T20.vm).vm.findClass "com/example/andersite/andersite/result/CallEdgeEqualsPinLaw" = some m.cls := by rw [show (s.setVm T20.vm).vm = T20.vm from rfl, hs20.1.alike.findClass]; exact hown4
    have C_w20 : CHr Z consts_1 s.vm h0 T20.vm T20.heap := C_w4.trans Cn20
    refine Gl.tr st20 ?_
    show Gl p e below P (T20.setTop (mkF m 99 #[.val (.int p1), .val (.int p2), .val (.int p3), .val (.int p4), .val (.int p5), .val (.ref s1), .val (.ref s2), .val (.ref b3), .val (.int (p5 &&& (3 : Int32))), .unset, .unset, .unset, .unset] [(.ref s3)]))
    refine Gl.st (fun _ k => XS.astore X20.here hx rfl (hb hby at_99) rfl rfl (l' := #[.val (.int p1), .val (.int p2), .val (.int p3), .val (.int p4), .val (.int p5), .val (.ref s1), .val (.ref s2), .val (.ref b3), .val (.int (p5 &&& (3 : Int32))), .val (.ref s3), .unset, .unset, .unset]) rfl k) ?_
    show Gl p e below P (T20.setTop (mkF m 101 #[.val (.int p1), .val (.int p2), .val (.int p3), .val (.int p4), .val (.int p5), .val (.ref s1), .val (.ref s2), .val (.ref b3), .val (.int (p5 &&& (3 : Int32))), .val (.ref s3), .unset, .unset, .unset] []))
    refine Gl.st (fun _ k => XS.iloadN X20.here hx rfl (hb hby at_101) rfl k) ?_
    show Gl p e below P (T20.setTop (mkF m 102 #[.val (.int p1), .val (.int p2), .val (.int p3), .val (.int p4), .val (.int p5), .val (.ref s1), .val (.ref s2), .val (.ref b3), .val (.int (p5 &&& (3 : Int32))), .val (.ref s3), .unset, .unset, .unset] [(.int p4)]))
    obtain ⟨_, _, ⟨T21, L21, k21, n21⟩, -, X21, hs21, hg21, ⟨Lc21, hQ21, l21, y21, z21, Cn21⟩, st21⟩ := callSS X20 hx (y := (⟨"com/example/andersite/andersite/result/CallEdgeEqualsPinLaw", "str", "(I)Ljava/lang/String;"⟩ : MethodName)) hown20 (mvT hZ20 (hw _ (List.mem_of_getElem? (i := 0) rfl))) (mvT hZ20 (hw _ (List.mem_of_getElem? (i := 1) rfl))) (mvT hZ20 (hw _ (List.mem_of_getElem? (i := 2) rfl))) (mvT hZ20 (hw _ (List.mem_of_getElem? (i := 3) rfl))) (by decide) (backOfSH (s := s) (W := 0) (rm36 l Z a0 hw [] p4 G1 T20.heap n0 Z0_v20 O2 P5 X00_v20) hZ20 (hw _ (List.mem_of_getElem? (i := 3) rfl)) (hw _ (List.mem_of_getElem? (i := 2) rfl)) (by decide) (by decide) hEL C_w20.1) (g := (mkF m 102 #[.val (.int p1), .val (.int p2), .val (.int p3), .val (.int p4), .val (.int p5), .val (.ref s1), .val (.ref s2), .val (.ref b3), .val (.int (p5 &&& (3 : Int32))), .val (.ref s3), .unset, .unset, .unset] [(.int p4)])) rfl (by rw [hml]; rfl) (argsL := [(.int p4)]) (rest := []) (lenOf pd_6 rfl) rfl (by show 2 * 0 + _ ≤ _; exact Nat.le_of_eq rfl) (hb hby at_102) (fun _ _ => ⟨rfl, rfl, (by decide : 23 + 6 ≤ _), (by decide : 94 + 12 ≤ _)⟩)
    dsimp only [Pt.U, Pt.locs, Pt.cells, Pt.slots] at X21 hs21 hg21 l21 y21 z21 st21 hQ21 Cn21
    subst l21 y21 z21
    obtain ⟨N21q, K21, s4, rfl, Ts4⟩ := hQ21
    have X21 : Stand p l e room_1 (s.setVm T21.vm) m _ below meth c T21 _ _ _ := X21
    have N21 := Fr.app N20 N21q
    have Z0_v21 : n0 ≤ T21.heap.size := Nat.le_trans Z0_v20 K21.1
    have f_hk_v21 : T20.heap.size ≤ T21.heap.size := Nat.le_trans (Nat.le_refl _) K21.1
    have X00_v21 : Old Z n0 T21.heap := X00_v20.keep K21 all0
    have Ts1_v21 : own_Str Z T21.heap s1 (own_cs p1) := own_Str_keep0 K21 Ts1_v20
    have Ts2_v21 : own_Str Z T21.heap s2 (own_cs p2) := own_Str_keep0 K21 Ts2_v20
    have A3_v21 : Exa Z T21.heap b3 "com/example/andersite/andersite/result/CallEdge" := A3_v20.keep K21
    have F4a_v21 : Fld Z T21.heap b3 "com/example/andersite/andersite/result/CallEdge" "caller" "Ljava/lang/String;" (.ref s1) := F4a_v20.keep K21 nin0
    have F4b_v21 : Fld Z T21.heap b3 "com/example/andersite/andersite/result/CallEdge" "callee" "Ljava/lang/String;" (.ref s2) := F4b_v20.keep K21 nin0
    have Ts3_v21 : own_Str Z T21.heap s3 (own_cs p3) := own_Str_keep0 K21 Ts3
    have hS21 : s.Since T21.vm T21.heap.size := foldS hS20 (Nat.le_refl _) hs21 hg21
    have hZ21 : Z.Warmed39 (s.setVm T21.vm).vm := State.Warmed39.trans (t := s.setVm T20.vm) hZ20 hs21.1
    have hown21 : (s.setVm T21.vm).vm.findClass "com/example/andersite/andersite/result/CallEdgeEqualsPinLaw" = some m.cls := by rw [show (s.setVm T21.vm).vm = T21.vm from rfl, hs21.1.alike.findClass]; exact hown20
    have C_w21 : CHr Z consts_1 s.vm h0 T21.vm T21.heap := C_w20.trans Cn21
    refine Gl.tr st21 ?_
    show Gl p e below P (T21.setTop (mkF m 105 #[.val (.int p1), .val (.int p2), .val (.int p3), .val (.int p4), .val (.int p5), .val (.ref s1), .val (.ref s2), .val (.ref b3), .val (.int (p5 &&& (3 : Int32))), .val (.ref s3), .unset, .unset, .unset] [(.ref s4)]))
    refine Gl.st (fun _ k => XS.astore X21.here hx rfl (hb hby at_105) rfl rfl (l' := #[.val (.int p1), .val (.int p2), .val (.int p3), .val (.int p4), .val (.int p5), .val (.ref s1), .val (.ref s2), .val (.ref b3), .val (.int (p5 &&& (3 : Int32))), .val (.ref s3), .val (.ref s4), .unset, .unset]) rfl k) ?_
    show Gl p e below P (T21.setTop (mkF m 107 #[.val (.int p1), .val (.int p2), .val (.int p3), .val (.int p4), .val (.int p5), .val (.ref s1), .val (.ref s2), .val (.ref b3), .val (.int (p5 &&& (3 : Int32))), .val (.ref s3), .val (.ref s4), .unset, .unset] []))
    exact JT s3 s4 (own_cs p3) (own_cs p4) T21.vm T21 _ _ _ (X21.mono (by decide) (by decide)) rfl N21 hS21 (Nat.le_refl _) hZ21 hown21 C_w21 Z0_v21 X00_v21 Ts1_v21 Ts2_v21 A3_v21 F4a_v21 F4b_v21 Ts3_v21 Ts4 (own_cs_len _) (own_cs_len _) (fun q => absurd (hk.symm.trans q) (by decide))
  · refine Gl.st (fun _ k => XS.icmpNo X4.here hx rfl (hb hby at_34) rfl (teq (hk : (p5 &&& (3 : Int32)) = (1 : Int32))).2 k) ?_
    show Gl p e below P (T4.setTop (mkF m 37 #[.val (.int p1), .val (.int p2), .val (.int p3), .val (.int p4), .val (.int p5), .val (.ref s1), .val (.ref s2), .val (.ref b3), .val (.int (p5 &&& (3 : Int32))), .unset, .unset, .unset, .unset] []))
    refine Gl.st (fun _ k => XS.aload X4.here hx rfl (hb hby at_37) rfl rfl k) ?_
    show Gl p e below P (T4.setTop (mkF m 39 #[.val (.int p1), .val (.int p2), .val (.int p3), .val (.int p4), .val (.int p5), .val (.ref s1), .val (.ref s2), .val (.ref b3), .val (.int (p5 &&& (3 : Int32))), .unset, .unset, .unset, .unset] [(.ref b3)]))
    refine Gl.st (fun _ k => XS.aconstNull X4.here hx rfl (hb hby at_39) k) ?_
    show Gl p e below P (T4.setTop (mkF m 40 #[.val (.int p1), .val (.int p2), .val (.int p3), .val (.int p4), .val (.int p5), .val (.ref s1), .val (.ref s2), .val (.ref b3), .val (.int (p5 &&& (3 : Int32))), .unset, .unset, .unset, .unset] [.null, (.ref b3)]))
    obtain ⟨cq22, kq22, q22a, q22b, q22c⟩ := isOf hZ4 rfl A3_v4
    obtain ⟨_, _, ⟨T22, L22, k22, n22⟩, -, X22, ⟨Lc22, hQ22, l22, y22, z22⟩, st22⟩ := X4.virtualBack hx (y := (⟨"com/example/andersite/andersite/result/CallEdge", "equals", "(Ljava/lang/Object;)Z"⟩ : MethodName)) (z := (⟨"com/example/andersite/andersite/result/CallEdge", "equals", "(Ljava/lang/Object;)Z"⟩ : MethodName)) hown4 (mvT hZ4 (hw _ (List.mem_of_getElem? (i := 71) rfl))) (mvT hZ4 (hw _ (List.mem_of_getElem? (i := 72) rfl))) (notFace_of_selects (args := #[]) (mvT hZ4 (hw _ (List.mem_of_getElem? (i := 74) rfl)))) (mvT hZ4 (hw _ (List.mem_of_getElem? (i := 74) rfl))) (mvT hZ4 (hw _ (List.mem_of_getElem? (i := 73) rfl))) (by decide) (backOf (W := 0) (rm40 l Z a0 hw [] b3 T4.heap n0 Z0_v4) hZ4 (hw _ (List.mem_of_getElem? (i := 75) rfl)) (hw _ (List.mem_of_getElem? (i := 28) rfl)) (by decide) (by decide)) q22a q22c (g := (mkF m 40 #[.val (.int p1), .val (.int p2), .val (.int p3), .val (.int p4), .val (.int p5), .val (.ref s1), .val (.ref s2), .val (.ref b3), .val (.int (p5 &&& (3 : Int32))), .unset, .unset, .unset, .unset] [.null, (.ref b3)])) rfl (by rw [hml]; rfl) (Steps.refl _) (argsL := [.null]) (rest := []) (lenOf pd_5 rfl) rfl (by show 2 * 0 + _ ≤ _; exact Nat.le_of_eq rfl) (hb hby at_40) (fun _ _ => ⟨rfl, rfl, (by decide : 17 + 0 ≤ _), (by decide : 82 + 0 ≤ _)⟩)
    dsimp only [Pt.U, Pt.locs, Pt.cells, Pt.slots] at X22 l22 y22 z22 st22 hQ22
    subst l22 y22 z22
    obtain ⟨rfl, N22q, e22⟩ := hQ22
    have N22 := Fr.app N4 N22q
    refine Gl.tr st22 ?_
    show Gl p e below P (T22.setTop (mkF m 43 #[.val (.int p1), .val (.int p2), .val (.int p3), .val (.int p4), .val (.int p5), .val (.ref s1), .val (.ref s2), .val (.ref b3), .val (.int (p5 &&& (3 : Int32))), .unset, .unset, .unset, .unset] [(.int (0 : Int32))]))
    refine Gl.st (fun _ k => XS.ifNo X22.here hx rfl (hb hby at_43) rfl ((if0 _ _).trans (teq (by decide : (0 : Int32) = (0 : Int32))).2) k) ?_
    show Gl p e below P (T22.setTop (mkF m 46 #[.val (.int p1), .val (.int p2), .val (.int p3), .val (.int p4), .val (.int p5), .val (.ref s1), .val (.ref s2), .val (.ref b3), .val (.int (p5 &&& (3 : Int32))), .unset, .unset, .unset, .unset] []))
    refine Gl.st (fun _ k => XS.iconst X22.here hx rfl (hb hby at_46) k) ?_
    show Gl p e below P (T22.setTop (mkF m 47 #[.val (.int p1), .val (.int p2), .val (.int p3), .val (.int p4), .val (.int p5), .val (.ref s1), .val (.ref s2), .val (.ref b3), .val (.int (p5 &&& (3 : Int32))), .unset, .unset, .unset, .unset] [(.int (1 : Int32))]))
    refine Gl.st (fun _ k => XS.goto X22.here hx rfl (pc0 := 47) (pc' := 51) rfl (hb hby at_47) (by decide) (by decide) k) ?_
    show Gl p e below P (T22.setTop (mkF m 51 #[.val (.int p1), .val (.int p2), .val (.int p3), .val (.int p4), .val (.int p5), .val (.ref s1), .val (.ref s2), .val (.ref b3), .val (.int (p5 &&& (3 : Int32))), .unset, .unset, .unset, .unset] [(.int (1 : Int32))]))
    obtain ⟨fs, hr, hrun, hended, hRE⟩ := X22.leaveW hS4 (by rw [e22]; exact (Nat.le_refl _)) (v := some (.int (1 : Int32))) (fun h => by rw [Bd.returns] at h; cases h)
    refine ⟨_, _, retN X22 hx (t := .boolean) Bd.returns (by simp) (hb hby at_51) hr, hrun, hended, hPost _ _ ⟨_, _, rfl, ?_, ?_, hRE.1, hRE.2.1, hRE.2.2.1, hRE.2.2.2.mono (by decide) (by decide)⟩⟩
    rotate_left
    · show CHr Z consts_1 s.vm s.heap T22.vm T22.heap
      rw [hh, e22]
      exact C_w4.trans (CHv.at X22 hZ4 hEL C_w4.1)
    show Q0 Z p1 p2 p3 p4 p5 G1 G3 h0 n0 _ T22.heap _
    rw [e22]
    exact ⟨rfl, N22⟩
  · refine Gl.st (fun _ k => XS.icmpYes X4.here hx rfl (pc0 := 34) (pc' := 52) rfl (hb hby at_34) rfl (feq (by rw [hk]; decide : ¬ ((p5 &&& (3 : Int32)) = (1 : Int32)))).2 (by decide) (by decide) k) ?_
    show Gl p e below P (T4.setTop (mkF m 52 #[.val (.int p1), .val (.int p2), .val (.int p3), .val (.int p4), .val (.int p5), .val (.ref s1), .val (.ref s2), .val (.ref b3), .val (.int (p5 &&& (3 : Int32))), .unset, .unset, .unset, .unset] []))
    refine Gl.st (fun _ k => XS.iload X4.here hx rfl (hb hby at_52) rfl k) ?_
    show Gl p e below P (T4.setTop (mkF m 54 #[.val (.int p1), .val (.int p2), .val (.int p3), .val (.int p4), .val (.int p5), .val (.ref s1), .val (.ref s2), .val (.ref b3), .val (.int (p5 &&& (3 : Int32))), .unset, .unset, .unset, .unset] [(.int (p5 &&& (3 : Int32)))]))
    refine Gl.st (fun _ k => XS.iconst X4.here hx rfl (hb hby at_54) k) ?_
    show Gl p e below P (T4.setTop (mkF m 55 #[.val (.int p1), .val (.int p2), .val (.int p3), .val (.int p4), .val (.int p5), .val (.ref s1), .val (.ref s2), .val (.ref b3), .val (.int (p5 &&& (3 : Int32))), .unset, .unset, .unset, .unset] [(.int (2 : Int32)), (.int (p5 &&& (3 : Int32)))]))
    refine Gl.st (fun _ k => XS.icmpNo X4.here hx rfl (hb hby at_55) rfl (teq (hk : (p5 &&& (3 : Int32)) = (2 : Int32))).2 k) ?_
    show Gl p e below P (T4.setTop (mkF m 58 #[.val (.int p1), .val (.int p2), .val (.int p3), .val (.int p4), .val (.int p5), .val (.ref s1), .val (.ref s2), .val (.ref b3), .val (.int (p5 &&& (3 : Int32))), .unset, .unset, .unset, .unset] []))
    refine Gl.st (fun _ k => XS.aload X4.here hx rfl (hb hby at_58) rfl rfl k) ?_
    show Gl p e below P (T4.setTop (mkF m 60 #[.val (.int p1), .val (.int p2), .val (.int p3), .val (.int p4), .val (.int p5), .val (.ref s1), .val (.ref s2), .val (.ref b3), .val (.int (p5 &&& (3 : Int32))), .unset, .unset, .unset, .unset] [(.ref b3)]))
    refine Gl.st (fun _ k => XS.aload X4.here hx rfl (hb hby at_60) rfl rfl k) ?_
    show Gl p e below P (T4.setTop (mkF m 62 #[.val (.int p1), .val (.int p2), .val (.int p3), .val (.int p4), .val (.int p5), .val (.ref s1), .val (.ref s2), .val (.ref b3), .val (.int (p5 &&& (3 : Int32))), .unset, .unset, .unset, .unset] [(.ref s1), (.ref b3)]))
    obtain ⟨cq23, kq23, q23a, q23b, q23c⟩ := isOf hZ4 rfl A3_v4
    obtain ⟨_, _, ⟨T23, L23, k23, n23⟩, -, X23, ⟨Lc23, hQ23, l23, y23, z23⟩, st23⟩ := X4.virtualBack hx (y := (⟨"com/example/andersite/andersite/result/CallEdge", "equals", "(Ljava/lang/Object;)Z"⟩ : MethodName)) (z := (⟨"com/example/andersite/andersite/result/CallEdge", "equals", "(Ljava/lang/Object;)Z"⟩ : MethodName)) hown4 (mvT hZ4 (hw _ (List.mem_of_getElem? (i := 71) rfl))) (mvT hZ4 (hw _ (List.mem_of_getElem? (i := 72) rfl))) (notFace_of_selects (args := #[]) (mvT hZ4 (hw _ (List.mem_of_getElem? (i := 74) rfl)))) (mvT hZ4 (hw _ (List.mem_of_getElem? (i := 74) rfl))) (mvT hZ4 (hw _ (List.mem_of_getElem? (i := 73) rfl))) (by decide) (backOf (W := 0) (rm41 l Z a0 hw [] b3 s1 T4.heap n0 Z0_v4 (own_Str_exa Ts1_v4)) hZ4 (hw _ (List.mem_of_getElem? (i := 75) rfl)) (hw _ (List.mem_of_getElem? (i := 28) rfl)) (by decide) (by decide)) q23a q23c (g := (mkF m 62 #[.val (.int p1), .val (.int p2), .val (.int p3), .val (.int p4), .val (.int p5), .val (.ref s1), .val (.ref s2), .val (.ref b3), .val (.int (p5 &&& (3 : Int32))), .unset, .unset, .unset, .unset] [(.ref s1), (.ref b3)])) rfl (by rw [hml]; rfl) (Steps.refl _) (argsL := [(.ref s1)]) (rest := []) (lenOf pd_5 rfl) rfl (by show 2 * 0 + _ ≤ _; exact Nat.le_of_eq rfl) (hb hby at_62) (fun _ _ => ⟨rfl, rfl, (by decide : 17 + 0 ≤ _), (by decide : 82 + 0 ≤ _)⟩)
    dsimp only [Pt.U, Pt.locs, Pt.cells, Pt.slots] at X23 l23 y23 z23 st23 hQ23
    subst l23 y23 z23
    obtain ⟨rfl, N23q, e23⟩ := hQ23
    have N23 := Fr.app N4 N23q
    refine Gl.tr st23 ?_
    show Gl p e below P (T23.setTop (mkF m 65 #[.val (.int p1), .val (.int p2), .val (.int p3), .val (.int p4), .val (.int p5), .val (.ref s1), .val (.ref s2), .val (.ref b3), .val (.int (p5 &&& (3 : Int32))), .unset, .unset, .unset, .unset] [(.int (0 : Int32))]))
    refine Gl.st (fun _ k => XS.ifNo X23.here hx rfl (hb hby at_65) rfl ((if0 _ _).trans (teq (by decide : (0 : Int32) = (0 : Int32))).2) k) ?_
    show Gl p e below P (T23.setTop (mkF m 68 #[.val (.int p1), .val (.int p2), .val (.int p3), .val (.int p4), .val (.int p5), .val (.ref s1), .val (.ref s2), .val (.ref b3), .val (.int (p5 &&& (3 : Int32))), .unset, .unset, .unset, .unset] []))
    refine Gl.st (fun _ k => XS.iconst X23.here hx rfl (hb hby at_68) k) ?_
    show Gl p e below P (T23.setTop (mkF m 69 #[.val (.int p1), .val (.int p2), .val (.int p3), .val (.int p4), .val (.int p5), .val (.ref s1), .val (.ref s2), .val (.ref b3), .val (.int (p5 &&& (3 : Int32))), .unset, .unset, .unset, .unset] [(.int (1 : Int32))]))
    refine Gl.st (fun _ k => XS.goto X23.here hx rfl (pc0 := 69) (pc' := 73) rfl (hb hby at_69) (by decide) (by decide) k) ?_
    show Gl p e below P (T23.setTop (mkF m 73 #[.val (.int p1), .val (.int p2), .val (.int p3), .val (.int p4), .val (.int p5), .val (.ref s1), .val (.ref s2), .val (.ref b3), .val (.int (p5 &&& (3 : Int32))), .unset, .unset, .unset, .unset] [(.int (1 : Int32))]))
    obtain ⟨fs, hr, hrun, hended, hRE⟩ := X23.leaveW hS4 (by rw [e23]; exact (Nat.le_refl _)) (v := some (.int (1 : Int32))) (fun h => by rw [Bd.returns] at h; cases h)
    refine ⟨_, _, retN X23 hx (t := .boolean) Bd.returns (by simp) (hb hby at_73) hr, hrun, hended, hPost _ _ ⟨_, _, rfl, ?_, ?_, hRE.1, hRE.2.1, hRE.2.2.1, hRE.2.2.2.mono (by decide) (by decide)⟩⟩
    rotate_left
    · show CHr Z consts_1 s.vm s.heap T23.vm T23.heap
      rw [hh, e23]
      exact C_w4.trans (CHv.at X23 hZ4 hEL C_w4.1)
    show Q0 Z p1 p2 p3 p4 p5 G1 G3 h0 n0 _ T23.heap _
    rw [e23]
    exact ⟨rfl, N23⟩
  · refine Gl.st (fun _ k => XS.icmpYes X4.here hx rfl (pc0 := 34) (pc' := 52) rfl (hb hby at_34) rfl (feq (by rw [hk]; decide : ¬ ((p5 &&& (3 : Int32)) = (1 : Int32)))).2 (by decide) (by decide) k) ?_
    show Gl p e below P (T4.setTop (mkF m 52 #[.val (.int p1), .val (.int p2), .val (.int p3), .val (.int p4), .val (.int p5), .val (.ref s1), .val (.ref s2), .val (.ref b3), .val (.int (p5 &&& (3 : Int32))), .unset, .unset, .unset, .unset] []))
    refine Gl.st (fun _ k => XS.iload X4.here hx rfl (hb hby at_52) rfl k) ?_
    show Gl p e below P (T4.setTop (mkF m 54 #[.val (.int p1), .val (.int p2), .val (.int p3), .val (.int p4), .val (.int p5), .val (.ref s1), .val (.ref s2), .val (.ref b3), .val (.int (p5 &&& (3 : Int32))), .unset, .unset, .unset, .unset] [(.int (p5 &&& (3 : Int32)))]))
    refine Gl.st (fun _ k => XS.iconst X4.here hx rfl (hb hby at_54) k) ?_
    show Gl p e below P (T4.setTop (mkF m 55 #[.val (.int p1), .val (.int p2), .val (.int p3), .val (.int p4), .val (.int p5), .val (.ref s1), .val (.ref s2), .val (.ref b3), .val (.int (p5 &&& (3 : Int32))), .unset, .unset, .unset, .unset] [(.int (2 : Int32)), (.int (p5 &&& (3 : Int32)))]))
    refine Gl.st (fun _ k => XS.icmpYes X4.here hx rfl (pc0 := 55) (pc' := 74) rfl (hb hby at_55) rfl (feq (by rw [hk]; decide : ¬ ((p5 &&& (3 : Int32)) = (2 : Int32)))).2 (by decide) (by decide) k) ?_
    show Gl p e below P (T4.setTop (mkF m 74 #[.val (.int p1), .val (.int p2), .val (.int p3), .val (.int p4), .val (.int p5), .val (.ref s1), .val (.ref s2), .val (.ref b3), .val (.int (p5 &&& (3 : Int32))), .unset, .unset, .unset, .unset] []))
    refine Gl.st (fun _ k => XS.iload X4.here hx rfl (hb hby at_74) rfl k) ?_
    show Gl p e below P (T4.setTop (mkF m 76 #[.val (.int p1), .val (.int p2), .val (.int p3), .val (.int p4), .val (.int p5), .val (.ref s1), .val (.ref s2), .val (.ref b3), .val (.int (p5 &&& (3 : Int32))), .unset, .unset, .unset, .unset] [(.int (p5 &&& (3 : Int32)))]))
    refine Gl.st (fun _ k => XS.iconst X4.here hx rfl (hb hby at_76) k) ?_
    show Gl p e below P (T4.setTop (mkF m 77 #[.val (.int p1), .val (.int p2), .val (.int p3), .val (.int p4), .val (.int p5), .val (.ref s1), .val (.ref s2), .val (.ref b3), .val (.int (p5 &&& (3 : Int32))), .unset, .unset, .unset, .unset] [(.int (3 : Int32)), (.int (p5 &&& (3 : Int32)))]))
    refine Gl.st (fun _ k => XS.icmpNo X4.here hx rfl (hb hby at_77) rfl (teq (hk : (p5 &&& (3 : Int32)) = (3 : Int32))).2 k) ?_
    show Gl p e below P (T4.setTop (mkF m 80 #[.val (.int p1), .val (.int p2), .val (.int p3), .val (.int p4), .val (.int p5), .val (.ref s1), .val (.ref s2), .val (.ref b3), .val (.int (p5 &&& (3 : Int32))), .unset, .unset, .unset, .unset] []))
    refine Gl.st (fun _ k => XS.iloadN X4.here hx rfl (hb hby at_80) rfl k) ?_
    show Gl p e below P (T4.setTop (mkF m 81 #[.val (.int p1), .val (.int p2), .val (.int p3), .val (.int p4), .val (.int p5), .val (.ref s1), .val (.ref s2), .val (.ref b3), .val (.int (p5 &&& (3 : Int32))), .unset, .unset, .unset, .unset] [(.int p1)]))
    obtain ⟨_, _, ⟨T24, L24, k24, n24⟩, -, X24, hs24, hg24, ⟨Lc24, hQ24, l24, y24, z24, Cn24⟩, st24⟩ := callSS X4 hx (y := (⟨"com/example/andersite/andersite/result/CallEdgeEqualsPinLaw", "str", "(I)Ljava/lang/String;"⟩ : MethodName)) hown4 (mvT hZ4 (hw _ (List.mem_of_getElem? (i := 0) rfl))) (mvT hZ4 (hw _ (List.mem_of_getElem? (i := 1) rfl))) (mvT hZ4 (hw _ (List.mem_of_getElem? (i := 2) rfl))) (mvT hZ4 (hw _ (List.mem_of_getElem? (i := 3) rfl))) (by decide) (backOfSH (s := s) (W := 0) (rm36 l Z a0 hw [] p1 G1 T4.heap n0 Z0_v4 O2 P5 X00_v4) hZ4 (hw _ (List.mem_of_getElem? (i := 3) rfl)) (hw _ (List.mem_of_getElem? (i := 2) rfl)) (by decide) (by decide) hEL C_w4.1) (g := (mkF m 81 #[.val (.int p1), .val (.int p2), .val (.int p3), .val (.int p4), .val (.int p5), .val (.ref s1), .val (.ref s2), .val (.ref b3), .val (.int (p5 &&& (3 : Int32))), .unset, .unset, .unset, .unset] [(.int p1)])) rfl (by rw [hml]; rfl) (argsL := [(.int p1)]) (rest := []) (lenOf pd_6 rfl) rfl (by show 2 * 0 + _ ≤ _; exact Nat.le_of_eq rfl) (hb hby at_81) (fun _ _ => ⟨rfl, rfl, (by decide : 17 + 6 ≤ _), (by decide : 82 + 12 ≤ _)⟩)
    dsimp only [Pt.U, Pt.locs, Pt.cells, Pt.slots] at X24 hs24 hg24 l24 y24 z24 st24 hQ24 Cn24
    subst l24 y24 z24
    obtain ⟨N24q, K24, s3, rfl, Ts3⟩ := hQ24
    have X24 : Stand p l e room_1 (s.setVm T24.vm) m _ below meth c T24 _ _ _ := X24
    have N24 := Fr.app N4 N24q
    have Z0_v24 : n0 ≤ T24.heap.size := Nat.le_trans Z0_v4 K24.1
    have f_hk_v24 : T4.heap.size ≤ T24.heap.size := Nat.le_trans (Nat.le_refl _) K24.1
    have X00_v24 : Old Z n0 T24.heap := X00_v4.keep K24 all0
    have Ts1_v24 : own_Str Z T24.heap s1 (own_cs p1) := own_Str_keep0 K24 Ts1_v4
    have Ts2_v24 : own_Str Z T24.heap s2 (own_cs p2) := own_Str_keep0 K24 Ts2_v4
    have A3_v24 : Exa Z T24.heap b3 "com/example/andersite/andersite/result/CallEdge" := A3_v4.keep K24
    have F4a_v24 : Fld Z T24.heap b3 "com/example/andersite/andersite/result/CallEdge" "caller" "Ljava/lang/String;" (.ref s1) := F4a.keep K24 nin0
    have F4b_v24 : Fld Z T24.heap b3 "com/example/andersite/andersite/result/CallEdge" "callee" "Ljava/lang/String;" (.ref s2) := F4b.keep K24 nin0
    have hS24 : s.Since T24.vm T24.heap.size := foldS hS4 (Nat.le_refl _) hs24 hg24
    have hZ24 : Z.Warmed39 (s.setVm T24.vm).vm := State.Warmed39.trans (t := s.setVm T4.vm) hZ4 hs24.1
    have hown24 : (s.setVm T24.vm).vm.findClass "com/example/andersite/andersite/result/CallEdgeEqualsPinLaw" = some m.cls := by rw [show (s.setVm T24.vm).vm = T24.vm from rfl, hs24.1.alike.findClass]; exact hown4
    have C_w24 : CHr Z consts_1 s.vm h0 T24.vm T24.heap := C_w4.trans Cn24
    refine Gl.tr st24 ?_
    show Gl p e below P (T24.setTop (mkF m 84 #[.val (.int p1), .val (.int p2), .val (.int p3), .val (.int p4), .val (.int p5), .val (.ref s1), .val (.ref s2), .val (.ref b3), .val (.int (p5 &&& (3 : Int32))), .unset, .unset, .unset, .unset] [(.ref s3)]))
    refine Gl.st (fun _ k => XS.astore X24.here hx rfl (hb hby at_84) rfl rfl (l' := #[.val (.int p1), .val (.int p2), .val (.int p3), .val (.int p4), .val (.int p5), .val (.ref s1), .val (.ref s2), .val (.ref b3), .val (.int (p5 &&& (3 : Int32))), .val (.ref s3), .unset, .unset, .unset]) rfl k) ?_
    show Gl p e below P (T24.setTop (mkF m 86 #[.val (.int p1), .val (.int p2), .val (.int p3), .val (.int p4), .val (.int p5), .val (.ref s1), .val (.ref s2), .val (.ref b3), .val (.int (p5 &&& (3 : Int32))), .val (.ref s3), .unset, .unset, .unset] []))
    refine Gl.st (fun _ k => XS.iloadN X24.here hx rfl (hb hby at_86) rfl k) ?_
    show Gl p e below P (T24.setTop (mkF m 87 #[.val (.int p1), .val (.int p2), .val (.int p3), .val (.int p4), .val (.int p5), .val (.ref s1), .val (.ref s2), .val (.ref b3), .val (.int (p5 &&& (3 : Int32))), .val (.ref s3), .unset, .unset, .unset] [(.int p2)]))
    obtain ⟨_, _, ⟨T25, L25, k25, n25⟩, -, X25, hs25, hg25, ⟨Lc25, hQ25, l25, y25, z25, Cn25⟩, st25⟩ := callSS X24 hx (y := (⟨"com/example/andersite/andersite/result/CallEdgeEqualsPinLaw", "str", "(I)Ljava/lang/String;"⟩ : MethodName)) hown24 (mvT hZ24 (hw _ (List.mem_of_getElem? (i := 0) rfl))) (mvT hZ24 (hw _ (List.mem_of_getElem? (i := 1) rfl))) (mvT hZ24 (hw _ (List.mem_of_getElem? (i := 2) rfl))) (mvT hZ24 (hw _ (List.mem_of_getElem? (i := 3) rfl))) (by decide) (backOfSH (s := s) (W := 0) (rm36 l Z a0 hw [] p2 G1 T24.heap n0 Z0_v24 O2 P5 X00_v24) hZ24 (hw _ (List.mem_of_getElem? (i := 3) rfl)) (hw _ (List.mem_of_getElem? (i := 2) rfl)) (by decide) (by decide) hEL C_w24.1) (g := (mkF m 87 #[.val (.int p1), .val (.int p2), .val (.int p3), .val (.int p4), .val (.int p5), .val (.ref s1), .val (.ref s2), .val (.ref b3), .val (.int (p5 &&& (3 : Int32))), .val (.ref s3), .unset, .unset, .unset] [(.int p2)])) rfl (by rw [hml]; rfl) (argsL := [(.int p2)]) (rest := []) (lenOf pd_6 rfl) rfl (by show 2 * 0 + _ ≤ _; exact Nat.le_of_eq rfl) (hb hby at_87) (fun _ _ => ⟨rfl, rfl, (by decide : 23 + 6 ≤ _), (by decide : 94 + 12 ≤ _)⟩)
    dsimp only [Pt.U, Pt.locs, Pt.cells, Pt.slots] at X25 hs25 hg25 l25 y25 z25 st25 hQ25 Cn25
    subst l25 y25 z25
    obtain ⟨N25q, K25, s4, rfl, Ts4⟩ := hQ25
    have X25 : Stand p l e room_1 (s.setVm T25.vm) m _ below meth c T25 _ _ _ := X25
    have N25 := Fr.app N24 N25q
    have Z0_v25 : n0 ≤ T25.heap.size := Nat.le_trans Z0_v24 K25.1
    have f_hk_v25 : T24.heap.size ≤ T25.heap.size := Nat.le_trans (Nat.le_refl _) K25.1
    have X00_v25 : Old Z n0 T25.heap := X00_v24.keep K25 all0
    have Ts1_v25 : own_Str Z T25.heap s1 (own_cs p1) := own_Str_keep0 K25 Ts1_v24
    have Ts2_v25 : own_Str Z T25.heap s2 (own_cs p2) := own_Str_keep0 K25 Ts2_v24
    have A3_v25 : Exa Z T25.heap b3 "com/example/andersite/andersite/result/CallEdge" := A3_v24.keep K25
    have F4a_v25 : Fld Z T25.heap b3 "com/example/andersite/andersite/result/CallEdge" "caller" "Ljava/lang/String;" (.ref s1) := F4a_v24.keep K25 nin0
    have F4b_v25 : Fld Z T25.heap b3 "com/example/andersite/andersite/result/CallEdge" "callee" "Ljava/lang/String;" (.ref s2) := F4b_v24.keep K25 nin0
    have Ts3_v25 : own_Str Z T25.heap s3 (own_cs p1) := own_Str_keep0 K25 Ts3
    have hS25 : s.Since T25.vm T25.heap.size := foldS hS24 (Nat.le_refl _) hs25 hg25
    have hZ25 : Z.Warmed39 (s.setVm T25.vm).vm := State.Warmed39.trans (t := s.setVm T24.vm) hZ24 hs25.1
    have hown25 : (s.setVm T25.vm).vm.findClass "com/example/andersite/andersite/result/CallEdgeEqualsPinLaw" = some m.cls := by rw [show (s.setVm T25.vm).vm = T25.vm from rfl, hs25.1.alike.findClass]; exact hown24
    have C_w25 : CHr Z consts_1 s.vm h0 T25.vm T25.heap := C_w24.trans Cn25
    refine Gl.tr st25 ?_
    show Gl p e below P (T25.setTop (mkF m 90 #[.val (.int p1), .val (.int p2), .val (.int p3), .val (.int p4), .val (.int p5), .val (.ref s1), .val (.ref s2), .val (.ref b3), .val (.int (p5 &&& (3 : Int32))), .val (.ref s3), .unset, .unset, .unset] [(.ref s4)]))
    refine Gl.st (fun _ k => XS.astore X25.here hx rfl (hb hby at_90) rfl rfl (l' := #[.val (.int p1), .val (.int p2), .val (.int p3), .val (.int p4), .val (.int p5), .val (.ref s1), .val (.ref s2), .val (.ref b3), .val (.int (p5 &&& (3 : Int32))), .val (.ref s3), .val (.ref s4), .unset, .unset]) rfl k) ?_
    show Gl p e below P (T25.setTop (mkF m 92 #[.val (.int p1), .val (.int p2), .val (.int p3), .val (.int p4), .val (.int p5), .val (.ref s1), .val (.ref s2), .val (.ref b3), .val (.int (p5 &&& (3 : Int32))), .val (.ref s3), .val (.ref s4), .unset, .unset] []))
    refine Gl.st (fun _ k => XS.goto X25.here hx rfl (pc0 := 92) (pc' := 107) rfl (hb hby at_92) (by decide) (by decide) k) ?_
    show Gl p e below P (T25.setTop (mkF m 107 #[.val (.int p1), .val (.int p2), .val (.int p3), .val (.int p4), .val (.int p5), .val (.ref s1), .val (.ref s2), .val (.ref b3), .val (.int (p5 &&& (3 : Int32))), .val (.ref s3), .val (.ref s4), .unset, .unset] []))
    exact JT s3 s4 (own_cs p1) (own_cs p2) T25.vm T25 _ _ _ (X25.mono (by decide) (by decide)) rfl N25 hS25 (Nat.le_refl _) hZ25 hown25 C_w25 Z0_v25 X00_v25 Ts1_v25 Ts2_v25 A3_v25 F4a_v25 F4b_v25 Ts3_v25 Ts4 (own_cs_len _) (own_cs_len _) (fun _ => ⟨rfl, rfl⟩)
set_option maxRecDepth 65536 in
set_option maxHeartbeats 40000000 in
theorem comes_1 {Post : Tables → Env → Array Value → State → Outcome → State → Prop} (hpost : ∀ tb e args s v u, (limb_1_1.after args s (.returned v) u = true ∧ limb_1_2.after args s (.returned v) u = true ∧ True) → ReturnedEndW s (.returned v) u (Jvm.fieldLocs frame_1_writes args s ++ Jvm.arrayLocs frame_1_arrays args s ++ Jvm.staticLocs frame_1_statics s) 48 3264 → Post tb e args s (.returned v) u) :
    ArmFor flags0 classFile x code maxLocals ret World_1 tables_1 room_1 Calls_1 rest_1 Pre_1 Post := by
  intro l hfl _ _ p e ha hc hk s m args below hf hA hF happ hP
  obtain ⟨hcalls, hrest, hpre⟩ := hP
  obtain ⟨-, -, -, hnamed, -, -, -, hat⟩ := (Spec.applies_iff hf).mp happ
  obtain ⟨hg, hn⟩ := and_e (Cond.before_iff.mp (show (Jvm.Cond.and given_1 narrow_1).before args s = true from hpre))
  obtain ⟨hcnt, g0⟩ := and_e hg
  obtain ⟨ia0, g1⟩ := and_e g0
  obtain ⟨ia1, g2⟩ := and_e g1
  obtain ⟨ia2, g3⟩ := and_e g2
  obtain ⟨ia3, g4⟩ := and_e g3
  obtain ⟨w0, w1, w2, w3, w4, rfl⟩ : ∃ w0 w1 w2 w3 w4 : Value, args = #[w0, w1, w2, w3, w4] := by
    have hs : args.size = 5 := by simpa [Cond.value, given_1] using hcnt
    obtain ⟨L⟩ := args
    match L, hs with
    | [w0, w1, w2, w3, w4], _ => exact ⟨w0, w1, w2, w3, w4, rfl⟩
  have hw := fun d (hd : d ∈ tables_1) => atoms_spec (ws := Jvm.Cond.code x code maxLocals ret :: tables_1) hat d (List.mem_cons_of_mem _ hd)
  have hfit : Fit s := fun {y c} hc i hi => by
    obtain ⟨ha, rfl⟩ := Array.getElem?_eq_some_iff.mp hc
    have q := List.all_eq_true.mp ((Array.all_eq_true_iff_forall_mem.mp hF) _ (Array.getElem_mem ha)) i (List.mem_range.mpr hi)
    simpa [Array.getElem?_eq_getElem hi] using q
  obtain ⟨i0, ei0⟩ := is_v ia0
  obtain rfl : w0 = (.int i0) := Option.some.inj ei0
  obtain ⟨i1, ei1⟩ := is_v ia1
  obtain rfl : w1 = (.int i1) := Option.some.inj ei1
  obtain ⟨i2, ei2⟩ := is_v ia2
  obtain rfl : w2 = (.int i2) := Option.some.inj ei2
  obtain ⟨i3, ei3⟩ := is_v ia3
  obtain rfl : w3 = (.int i3) := Option.some.inj ei3
  obtain ⟨i4, ei4⟩ := is_v g4
  obtain rfl : w4 = (.int i4) := Option.some.inj ei4
  obtain ⟨hsets, hown0⟩ := atoms_of _ (rest_1_c_eq ▸ (show rest_1_c.before _ s = true from hrest))
  have n5 := not_v (Cond.before_iff.mp (hsets _ (List.mem_of_getElem? (i := 2) rfl)))
  obtain ⟨i11, e10⟩ := is_v (Cond.before_iff.mp (hsets _ (List.mem_of_getElem? (i := 1) rfl)))
  have S12 : Sta s s.heap "java/lang/String" "COMPACT_STRINGS" "Z" (.int i11) := Sta.start e10 (Or.inl (hsets _ (List.mem_of_getElem? (i := 0) rfl)))
  have c17 : ¬ (i11 = (0 : Int32)) := gotF (Cond.eq_ints e10 (Term.int_eval (0))) n5
  obtain ⟨v13, e14, r15⟩ := isR_v (Cond.before_iff.mp (hsets _ (List.mem_of_getElem? (i := 8) rfl)))
  have S16 : Sta s s.heap "jdk/internal/util/Preconditions" "SIOOBE_FORMATTER" "Ljava/util/function/BiFunction;" v13 := Sta.start e14 (Or.inl (hsets _ (List.mem_of_getElem? (i := 7) rfl)))
  have hcv : CHv s consts_1 s.vm s.heap := CHv.start (own_EW hw) (fun q hq => hcalls.1 q hq) (hsets _ (List.mem_of_getElem? (i := 2) rfl)) (hw _ (List.mem_of_getElem? (i := 19) rfl)) (hw _ (List.mem_of_getElem? (i := 6) rfl))
  obtain ⟨n, o, h1, h2, h3, _, L, rfl, ⟨rfl, N⟩, hch, hq⟩ := rm0 l s _ hw tables_1 i0 i1 i2 i3 i4 i11 v13 s.heap s.heap.size (Nat.le_refl _) S16 r15 S12 c17 (Old.start s) p e ha hc hk s m _ below hf ((Spec.applies_iff_loose hf).mp happ).1 ⟨rfl, State.Warmed39.refl s, rfl, hcv⟩ trivial
  refine ⟨n, _, h1, h2, h3, hpost _ _ _ _ _ _ ⟨Cond.after_iff.mpr rfl, Cond.after_iff.mpr (eq_i res_at (Term.int_eval (1)) rfl), trivial⟩ ⟨hq.1, hq.2.1, hq.2.2.1, (hq.2.2.2.sift fun y hy => Or.inr (N y hy)).mono (by decide) (by decide)⟩⟩
theorem main_1_1 : Claimed_1_1 := comes_1 fun _ _ _ _ _ _ h hF => ⟨h.1, hF⟩
theorem main_1_2 : Claimed_1_2 := comes_1 fun _ _ _ _ _ _ h hF => ⟨h.2.1, hF⟩
end Jvm.Pilot.@@N@@
namespace Jvm.Pilot.@@N@@
open Jvm Jvm.ClassFile Sem Op Lib Jvm.Free Jvm.Stand Jvm.Pilot.@@N@@.Jvm.D
/-! MADE BY PROGRAM (witnessworld.py) out of the Statement's table words and the real class files: 21 classes; the members and pool entries that the words name. The judged class is class 1, her method 4. -/
namespace start1
open Jvm.ClassFile
def u (s : String) : CpInfo := .utf8 (stringToUtf16 s)
/-- a pool by its gaps: so many unusable entries, then the entry; so many at the end -/
def gap : Nat → List CpInfo → List CpInfo
  | 0, r => r
  | n + 1, r => .unusable :: gap n r
def poolList (es : List (Nat × CpInfo)) (last : Nat) : List CpInfo := es.foldr (fun e r => gap e.1 (e.2 :: r)) (gap last [])
def pool (es : List (Nat × CpInfo)) (last : Nat) : Array CpInfo := ⟨poolList es last⟩
def fileOf (pool : Array CpInfo) (this : Nat) (attrs : Array Attribute := #[]) (ms : Array MethodInfo := #[]) (fl : Nat := 33) (sup : Nat := 0) (ifs : Array Nat := #[]) (fds : Array FieldInfo := #[]) : ClassFile where
  minorVersion := 0
  majorVersion := 65
  constantPool := pool
  accessFlags := fl
  thisClass := this
  superClass := sup
  interfaces := ifs
  fields := fds
  methods := ms
  attributes := attrs
def plain (name : String) (sup : Option ClassId) : Class where
  name := name
  kind := .ordinary
  loader := none
  accessFlags := 33
  super := sup
  interfaces := #[]
  cf := none
  fields := #[]
  methods := #[]
  instanceTypes := #[]
  staticTypes := #[]
  resolved := #[]
  callSites := []
  init := .initialized
  statics := none
  mirror := none

def pool0 : Array CpInfo := pool [(5, u "<init>"), (0, u "()V"), (1, .class_ 10), (1, u "java/lang/Object")] 113

def k0c0 : Code := { maxStack := 0, maxLocals := 1, code := object_method_1_code, exceptionTable := #[], attributes := #[] }
def k0m0 : Method := { name := "<init>", desc := "()V", sig := { parameters := [], returnType := none }, accessFlags := 1, code := some k0c0 }
/-- java/lang/Object -/
def k0 : Class := { plain "java/lang/Object" none with
  accessFlags := 33
  interfaces := #[]
  cf := some (fileOf pool0 8 #[] #[{ accessFlags := 1, nameIndex := 5, descriptorIndex := 6, attributes := #[] }] 33 0 #[] #[])
  fields := #[]
  methods := #[k0m0]
  instanceTypes := #[]
  staticTypes := #[]
  resolved := Array.replicate 124 none
  statics := none }

def pool1 : Array CpInfo := pool [(2, .class_ 4), (1, u "java/lang/Object"), (0, u "<init>"), (0, u "()V"), (0, .methodref 8 9), (0, .class_ 10), (0, .nameAndType 11 12), (0, u "com/example/andersite/andersite/result/CallEdgeEqualsPinLaw"), (0, u "ch"), (0, u "(I)C"), (0, .class_ 14), (0, u "java/lang/String"), (0, .methodref 13 16), (0, .nameAndType 5 17), (0, u "([C)V"), (0, .methodref 13 19), (0, .nameAndType 20 21), (0, u "length"), (0, u "()I"), (0, .methodref 13 23), (0, .nameAndType 24 12), (0, u "charAt"), (0, .methodref 8 26), (0, .nameAndType 27 28), (0, u "str"), (0, u "(I)Ljava/lang/String;"), (0, .class_ 30), (0, u "com/example/andersite/andersite/result/CallEdge"), (0, .methodref 29 32), (0, .nameAndType 5 33), (0, u "(Ljava/lang/String;Ljava/lang/String;)V"), (0, .methodref 29 35), (0, .nameAndType 36 37), (0, u "equals"), (0, u "(Ljava/lang/Object;)Z"), (0, .methodref 8 39), (0, .nameAndType 40 41), (0, u "same"), (0, u "(Ljava/lang/String;Ljava/lang/String;)Z"), (5, u "law"), (0, u "(IIIII)Z")] 2

def k1m0 : Method := { name := "<init>", desc := "()V", sig := { parameters := [], returnType := none }, accessFlags := 1, code := none }
def k1c1 : Code := { maxStack := 3, maxLocals := 1, code := method_2_code, exceptionTable := #[], attributes := #[] }
def k1m1 : Method := { name := "ch", desc := "(I)C", sig := { parameters := [.int], returnType := some .char }, accessFlags := 10, code := some k1c1 }
def k1c2 : Code := { maxStack := 4, maxLocals := 3, code := method_3_code, exceptionTable := #[], attributes := #[] }
def k1m2 : Method := { name := "str", desc := "(I)Ljava/lang/String;", sig := { parameters := [.int], returnType := some (.object "java/lang/String") }, accessFlags := 10, code := some k1c2 }
def k1c3 : Code := { maxStack := 3, maxLocals := 3, code := method_4_code, exceptionTable := #[], attributes := #[] }
def k1m3 : Method := { name := "same", desc := "(Ljava/lang/String;Ljava/lang/String;)Z", sig := { parameters := [(.object "java/lang/String"), (.object "java/lang/String")], returnType := some .boolean }, accessFlags := 10, code := some k1c3 }
def k1c4 : Code := { maxStack := 4, maxLocals := 13, code := code, exceptionTable := #[], attributes := #[] }
def k1m4 : Method := { name := "law", desc := "(IIIII)Z", sig := { parameters := [.int, .int, .int, .int, .int], returnType := some .boolean }, accessFlags := 9, code := some k1c4 }
/-- com/example/andersite/andersite/result/CallEdgeEqualsPinLaw -/
def k1 : Class := { plain "com/example/andersite/andersite/result/CallEdgeEqualsPinLaw" (some 0) with
  accessFlags := 49
  interfaces := #[]
  cf := some (fileOf pool1 8 #[] #[{ accessFlags := 1, nameIndex := 5, descriptorIndex := 6, attributes := #[] }, { accessFlags := 10, nameIndex := 11, descriptorIndex := 12, attributes := #[] }, { accessFlags := 10, nameIndex := 27, descriptorIndex := 28, attributes := #[] }, { accessFlags := 10, nameIndex := 40, descriptorIndex := 41, attributes := #[] }, { accessFlags := 9, nameIndex := 47, descriptorIndex := 48, attributes := #[] }] 49 2 #[] #[])
  fields := #[]
  methods := #[k1m0, k1m1, k1m2, k1m3, k1m4]
  instanceTypes := #[]
  staticTypes := #[]
  resolved := Array.replicate 51 none
  statics := none }

def pool2 : Array CpInfo := pool [(1, .class_ 2), (0, u "java/io/Serializable"), (0, .class_ 4), (0, u "java/lang/Object")] 2

/-- java/io/Serializable -/
def k2 : Class := { plain "java/io/Serializable" (some 0) with
  accessFlags := 1537
  interfaces := #[]
  cf := some (fileOf pool2 1 #[] #[] 1537 3 #[] #[])
  fields := #[]
  methods := #[]
  instanceTypes := #[]
  staticTypes := #[]
  resolved := Array.replicate 7 none
  statics := none }

def pool3 : Array CpInfo := pool [(1, .class_ 2), (0, u "java/lang/Comparable"), (0, .class_ 4), (0, u "java/lang/Object")] 7

/-- java/lang/Comparable -/
def k3 : Class := { plain "java/lang/Comparable" (some 0) with
  accessFlags := 1537
  interfaces := #[]
  cf := some (fileOf pool3 1 #[] #[] 1537 3 #[] #[])
  fields := #[]
  methods := #[]
  instanceTypes := #[]
  staticTypes := #[]
  resolved := Array.replicate 12 none
  statics := none }

def pool4 : Array CpInfo := pool [(2, .class_ 4), (1, u "java/lang/CharSequence"), (42, .class_ 48), (0, u "java/lang/CharSequence$1CodePointIterator"), (10, .class_ 60), (0, u "java/lang/CharSequence$1CharIterator"), (5, .class_ 67), (0, u "java/lang/Object")] 63

/-- java/lang/CharSequence -/
def k4 : Class := { plain "java/lang/CharSequence" (some 0) with
  accessFlags := 1537
  interfaces := #[]
  cf := some (fileOf pool4 2 #[.nestMembers #[47, 59]] #[] 1537 66 #[] #[])
  fields := #[]
  methods := #[]
  instanceTypes := #[]
  staticTypes := #[]
  resolved := Array.replicate 131 none
  statics := none }

def pool5 : Array CpInfo := pool [(1, .class_ 2), (0, u "java/lang/constant/Constable"), (0, .class_ 4), (0, u "java/lang/Object")] 6

/-- java/lang/constant/Constable -/
def k5 : Class := { plain "java/lang/constant/Constable" (some 0) with
  accessFlags := 1537
  interfaces := #[]
  cf := some (fileOf pool5 1 #[] #[] 1537 3 #[] #[])
  fields := #[]
  methods := #[]
  instanceTypes := #[]
  staticTypes := #[]
  resolved := Array.replicate 11 none
  statics := none }

def pool6 : Array CpInfo := pool [(1, .class_ 2), (0, u "java/lang/constant/ConstantDesc"), (0, .class_ 4), (0, u "java/lang/Object")] 32

/-- java/lang/constant/ConstantDesc -/
def k6 : Class := { plain "java/lang/constant/ConstantDesc" (some 0) with
  accessFlags := 1537
  interfaces := #[]
  cf := some (fileOf pool6 1 #[] #[] 1537 3 #[] #[])
  fields := #[]
  methods := #[]
  instanceTypes := #[]
  staticTypes := #[]
  resolved := Array.replicate 37 none
  statics := none }

def pool7 : Array CpInfo := pool [(1, .methodref 2 3), (0, .class_ 4), (0, .nameAndType 5 6), (0, u "java/lang/Object"), (0, u "<init>"), (0, u "()V"), (0, .string 8), (0, u ""), (0, .fieldref 10 11), (0, .class_ 12), (0, .nameAndType 13 14), (0, u "java/lang/String"), (0, u "value"), (0, u "[B"), (0, .fieldref 10 16), (0, .nameAndType 17 18), (0, u "coder"), (0, u "B"), (2, u "hash"), (0, u "I"), (2, u "hashIsZero"), (0, u "Z"), (0, .methodref 10 28), (0, .nameAndType 5 29), (0, u "([CIILjava/lang/Void;)V"), (8, .fieldref 10 39), (0, .nameAndType 40 26), (0, u "COMPACT_STRINGS"), (1, .class_ 44), (1, u "java/lang/StringUTF16"), (0, u "compress"), (1, .methodref 42 48), (0, .nameAndType 49 50), (0, u "coderFromArrayLen"), (0, u "([BI)B"), (56, .class_ 109), (1, u "java/lang/StringLatin1"), (32, u "()Z"), (34, .methodref 42 178), (0, .nameAndType 45 179), (0, u "([CII)[B"), (154, u "()I"), (0, .methodref 10 336), (0, .nameAndType 17 337), (0, u "()B"), (25, u "([BI)C"), (27, u "(II)V"), (35, u "(I)C"), (64, .methodref 10 493), (0, .nameAndType 494 142), (0, u "isLatin1"), (0, .methodref 107 496), (0, .nameAndType 497 363), (0, u "charAt"), (3, u "checkIndex"), (5, u "length"), (33, .methodref 107 542), (0, .nameAndType 543 544), (0, u "equals"), (0, u "([B[B)Z"), (28, u "(Ljava/lang/Object;)Z"), (1, .class_ 576), (0, u "java/lang/CharSequence"), (22, u "CASE_INSENSITIVE_ORDER"), (0, u "Ljava/util/Comparator;"), (409, u "([C)V"), (42, .fieldref 1054 1055), (0, .class_ 1056), (0, .nameAndType 1057 1058), (0, u "jdk/internal/util/Preconditions"), (0, u "SIOOBE_FORMATTER"), (0, u "Ljava/util/function/BiFunction;"), (0, .methodref 1054 1060), (0, .nameAndType 501 1061), (0, u "(IILjava/util/function/BiFunction;)I"), (39, u "serialPersistentFields"), (0, u "[Ljava/io/ObjectStreamField;"), (0, .class_ 1104), (0, u "java/lang/String$CaseInsensitiveComparator"), (1, .class_ 1107), (0, u "java/io/Serializable"), (0, .class_ 1109), (0, u "java/lang/Comparable"), (0, .class_ 1111), (0, u "java/lang/constant/Constable"), (0, .class_ 1113), (0, u "java/lang/constant/ConstantDesc"), (2, u "serialVersionUID"), (0, u "J"), (3, u "REPL"), (0, u "C"), (2, u "LATIN1"), (1, u "UTF16")] 323

def k7m0 : Method := { name := "<init>", desc := "()V", sig := { parameters := [], returnType := none }, accessFlags := 1, code := none }
def k7c1 : Code := { maxStack := 5, maxLocals := 2, code := jdk_42_method_3_code, exceptionTable := #[], attributes := #[] }
def k7m1 : Method := { name := "<init>", desc := "([C)V", sig := { parameters := [(.array .char)], returnType := none }, accessFlags := 1, code := some k7c1 }
def k7c2 : Code := { maxStack := 2, maxLocals := 1, code := jdk_42_method_54_code, exceptionTable := #[], attributes := #[] }
def k7m2 : Method := { name := "length", desc := "()I", sig := { parameters := [], returnType := some .int }, accessFlags := 1, code := some k7c2 }
def k7c3 : Code := { maxStack := 2, maxLocals := 2, code := jdk_42_method_56_code, exceptionTable := #[], attributes := #[] }
def k7m3 : Method := { name := "charAt", desc := "(I)C", sig := { parameters := [.int], returnType := some .char }, accessFlags := 1, code := some k7c3 }
def k7c4 : Code := { maxStack := 2, maxLocals := 3, code := jdk_42_method_66_code, exceptionTable := #[], attributes := #[] }
def k7m4 : Method := { name := "equals", desc := "(Ljava/lang/Object;)Z", sig := { parameters := [(.object "java/lang/Object")], returnType := some .boolean }, accessFlags := 1, code := some k7c4 }
def k7c5 : Code := { maxStack := 4, maxLocals := 6, code := jdk_42_method_149_code, exceptionTable := #[], attributes := #[] }
def k7m5 : Method := { name := "<init>", desc := "([CIILjava/lang/Void;)V", sig := { parameters := [(.array .char), .int, .int, (.object "java/lang/Void")], returnType := none }, accessFlags := 2, code := some k7c5 }
def k7c6 : Code := { maxStack := 1, maxLocals := 1, code := jdk_42_method_152_code, exceptionTable := #[], attributes := #[] }
def k7m6 : Method := { name := "coder", desc := "()B", sig := { parameters := [], returnType := some .byte }, accessFlags := 0, code := some k7c6 }
def k7c7 : Code := { maxStack := 1, maxLocals := 1, code := jdk_42_method_154_code, exceptionTable := #[], attributes := #[] }
def k7m7 : Method := { name := "isLatin1", desc := "()Z", sig := { parameters := [], returnType := some .boolean }, accessFlags := 0, code := some k7c7 }
def k7c8 : Code := { maxStack := 3, maxLocals := 2, code := jdk_42_method_155_code, exceptionTable := #[], attributes := #[] }
def k7m8 : Method := { name := "checkIndex", desc := "(II)V", sig := { parameters := [.int, .int], returnType := none }, accessFlags := 8, code := some k7c8 }
/-- java/lang/String -/
def k7 : Class := { plain "java/lang/String" (some 0) with
  accessFlags := 49
  interfaces := #[2, 3, 4, 5, 6]
  cf := some (fileOf pool7 10 #[.nestMembers #[1103]] #[{ accessFlags := 1, nameIndex := 5, descriptorIndex := 6, attributes := #[] }, { accessFlags := 1, nameIndex := 5, descriptorIndex := 1010, attributes := #[] }, { accessFlags := 1, nameIndex := 507, descriptorIndex := 334, attributes := #[] }, { accessFlags := 1, nameIndex := 497, descriptorIndex := 427, attributes := #[] }, { accessFlags := 1, nameIndex := 543, descriptorIndex := 573, attributes := #[] }, { accessFlags := 2, nameIndex := 5, descriptorIndex := 29, attributes := #[] }, { accessFlags := 0, nameIndex := 17, descriptorIndex := 337, attributes := #[] }, { accessFlags := 0, nameIndex := 494, descriptorIndex := 142, attributes := #[] }, { accessFlags := 8, nameIndex := 501, descriptorIndex := 391, attributes := #[] }] 49 2 #[1106, 1108, 575, 1110, 1112] #[{ accessFlags := 18, nameIndex := 13, descriptorIndex := 14, attributes := #[] }, { accessFlags := 18, nameIndex := 17, descriptorIndex := 18, attributes := #[] }, { accessFlags := 2, nameIndex := 21, descriptorIndex := 22, attributes := #[] }, { accessFlags := 2, nameIndex := 25, descriptorIndex := 26, attributes := #[] }, { accessFlags := 26, nameIndex := 1116, descriptorIndex := 1117, attributes := #[] }, { accessFlags := 24, nameIndex := 40, descriptorIndex := 26, attributes := #[] }, { accessFlags := 26, nameIndex := 1101, descriptorIndex := 1102, attributes := #[] }, { accessFlags := 26, nameIndex := 1121, descriptorIndex := 1122, attributes := #[] }, { accessFlags := 25, nameIndex := 599, descriptorIndex := 600, attributes := #[] }, { accessFlags := 24, nameIndex := 1125, descriptorIndex := 18, attributes := #[] }, { accessFlags := 24, nameIndex := 1127, descriptorIndex := 18, attributes := #[] }])
  fields := #[{ name := "value", type := (.array .byte), accessFlags := 18, slot := 0, constantValue := 0 }, { name := "coder", type := .byte, accessFlags := 18, slot := 1, constantValue := 0 }, { name := "hash", type := .int, accessFlags := 2, slot := 2, constantValue := 0 }, { name := "hashIsZero", type := .boolean, accessFlags := 2, slot := 3, constantValue := 0 }, { name := "serialVersionUID", type := .long, accessFlags := 26, slot := 0, constantValue := 0 }, { name := "COMPACT_STRINGS", type := .boolean, accessFlags := 24, slot := 1, constantValue := 0 }, { name := "serialPersistentFields", type := (.array (.object "java/io/ObjectStreamField")), accessFlags := 26, slot := 2, constantValue := 0 }, { name := "REPL", type := .char, accessFlags := 26, slot := 3, constantValue := 0 }, { name := "CASE_INSENSITIVE_ORDER", type := (.object "java/util/Comparator"), accessFlags := 25, slot := 4, constantValue := 0 }, { name := "LATIN1", type := .byte, accessFlags := 24, slot := 5, constantValue := 0 }, { name := "UTF16", type := .byte, accessFlags := 24, slot := 6, constantValue := 0 }]
  methods := #[k7m0, k7m1, k7m2, k7m3, k7m4, k7m5, k7m6, k7m7, k7m8]
  instanceTypes := #[(.array .byte), .byte, .int, .boolean]
  staticTypes := #[.long, .boolean, (.array (.object "java/io/ObjectStreamField")), .char, (.object "java/util/Comparator"), .byte, .byte]
  resolved := Array.replicate 1451 none
  statics := some 0 }

def pool8 : Array CpInfo := pool [(1, .methodref 2 3), (0, .class_ 4), (0, .nameAndType 5 6), (0, u "java/lang/Object"), (0, u "<init>"), (0, u "()V"), (0, .string 8), (0, u "caller"), (0, .methodref 10 11), (0, .class_ 12), (0, .nameAndType 13 14), (0, u "java/util/Objects"), (0, u "requireNonNull"), (0, u "(Ljava/lang/Object;Ljava/lang/String;)Ljava/lang/Object;"), (0, .class_ 16), (0, u "java/lang/String"), (0, .fieldref 18 19), (0, .class_ 20), (0, .nameAndType 8 21), (0, u "com/example/andersite/andersite/result/CallEdge"), (0, u "Ljava/lang/String;"), (0, .string 23), (0, u "callee"), (0, .fieldref 18 25), (0, .nameAndType 23 21), (0, .methodref 15 27), (0, .nameAndType 28 29), (0, u "equals"), (0, u "(Ljava/lang/Object;)Z"), (8, u "(Ljava/lang/String;Ljava/lang/String;)V")] 24

def k8c0 : Code := { maxStack := 3, maxLocals := 3, code := prog_58_method_1_code, exceptionTable := #[], attributes := #[] }
def k8m0 : Method := { name := "<init>", desc := "(Ljava/lang/String;Ljava/lang/String;)V", sig := { parameters := [(.object "java/lang/String"), (.object "java/lang/String")], returnType := none }, accessFlags := 1, code := some k8c0 }
def k8c1 : Code := { maxStack := 2, maxLocals := 3, code := prog_58_method_4_code, exceptionTable := #[], attributes := #[] }
def k8m1 : Method := { name := "equals", desc := "(Ljava/lang/Object;)Z", sig := { parameters := [(.object "java/lang/Object")], returnType := some .boolean }, accessFlags := 1, code := some k8c1 }
/-- com/example/andersite/andersite/result/CallEdge -/
def k8 : Class := { plain "com/example/andersite/andersite/result/CallEdge" (some 0) with
  accessFlags := 49
  interfaces := #[]
  cf := some (fileOf pool8 18 #[] #[{ accessFlags := 1, nameIndex := 5, descriptorIndex := 38, attributes := #[] }, { accessFlags := 1, nameIndex := 28, descriptorIndex := 29, attributes := #[] }] 49 2 #[] #[{ accessFlags := 18, nameIndex := 8, descriptorIndex := 21, attributes := #[] }, { accessFlags := 18, nameIndex := 23, descriptorIndex := 21, attributes := #[] }])
  fields := #[{ name := "caller", type := (.object "java/lang/String"), accessFlags := 18, slot := 0, constantValue := 0 }, { name := "callee", type := (.object "java/lang/String"), accessFlags := 18, slot := 1, constantValue := 0 }]
  methods := #[k8m0, k8m1]
  instanceTypes := #[(.object "java/lang/String"), (.object "java/lang/String")]
  staticTypes := #[]
  resolved := Array.replicate 63 none
  statics := none }

def pool9 : Array CpInfo := pool [(2, .class_ 4), (1, u "java/lang/Object"), (0, u "<init>"), (0, u "()V"), (35, .class_ 44), (1, u "java/util/Objects"), (0, u "requireNonNull"), (48, u "(Ljava/lang/Object;Ljava/lang/String;)Ljava/lang/Object;")] 89

def k9m0 : Method := { name := "<init>", desc := "()V", sig := { parameters := [], returnType := none }, accessFlags := 2, code := none }
def k9c1 : Code := { maxStack := 3, maxLocals := 2, code := jdk_31_method_11_code, exceptionTable := #[], attributes := #[] }
def k9m1 : Method := { name := "requireNonNull", desc := "(Ljava/lang/Object;Ljava/lang/String;)Ljava/lang/Object;", sig := { parameters := [(.object "java/lang/Object"), (.object "java/lang/String")], returnType := some (.object "java/lang/Object") }, accessFlags := 9, code := some k9c1 }
/-- java/util/Objects -/
def k9 : Class := { plain "java/util/Objects" (some 0) with
  accessFlags := 49
  interfaces := #[]
  cf := some (fileOf pool9 42 #[] #[{ accessFlags := 2, nameIndex := 5, descriptorIndex := 6, attributes := #[] }, { accessFlags := 9, nameIndex := 45, descriptorIndex := 94, attributes := #[] }] 49 2 #[] #[])
  fields := #[]
  methods := #[k9m0, k9m1]
  instanceTypes := #[]
  staticTypes := #[]
  resolved := Array.replicate 184 none
  statics := none }

def pool10 : Array CpInfo := pool [(6, .class_ 8), (1, u "java/lang/Object"), (0, u "<init>"), (0, u "()V"), (1, .class_ 14), (1, u "java/lang/StringUTF16"), (31, u "$assertionsDisabled"), (0, u "Z"), (13, u "HI_BYTE_SHIFT"), (0, u "I"), (2, u "LO_BYTE_SHIFT"), (49, .methodref 12 116), (0, .nameAndType 117 118), (0, u "compress"), (0, u "([CI[BII)I"), (3, u "([CII)[B"), (138, u "coderFromArrayLen"), (0, u "([BI)B"), (106, .class_ 371), (1, u "java/lang/StringUTF16$LinesSpliterator"), (58, u "MAX_LENGTH"), (196, .class_ 628), (0, u "java/lang/StringUTF16$CodePointsSpliterator"), (0, .class_ 630), (0, u "java/lang/StringUTF16$CharsSpliterator")] 4

def k10m0 : Method := { name := "<init>", desc := "()V", sig := { parameters := [], returnType := none }, accessFlags := 0, code := none }
def k10c1 : Code := { maxStack := 2, maxLocals := 2, code := jdk_52_method_15_code, exceptionTable := #[], attributes := #[] }
def k10m1 : Method := { name := "coderFromArrayLen", desc := "([BI)B", sig := { parameters := [(.array .byte), .int], returnType := some .byte }, accessFlags := 8, code := some k10c1 }
def k10c2 : Code := { maxStack := 5, maxLocals := 6, code := jdk_52_method_16_code, exceptionTable := #[], attributes := #[] }
def k10m2 : Method := { name := "compress", desc := "([CII)[B", sig := { parameters := [(.array .char), .int, .int], returnType := some (.array .byte) }, accessFlags := 9, code := some k10c2 }
def k10c3 : Code := { maxStack := 3, maxLocals := 7, code := jdk_52_method_21_code, exceptionTable := #[], attributes := #[] }
def k10m3 : Method := { name := "compress", desc := "([CI[BII)I", sig := { parameters := [(.array .char), .int, (.array .byte), .int, .int], returnType := some .int }, accessFlags := 9, code := some k10c3 }
/-- java/lang/StringUTF16 -/
def k10 : Class := { plain "java/lang/StringUTF16" (some 0) with
  accessFlags := 48
  interfaces := #[]
  cf := some (fileOf pool10 12 #[.nestMembers #[627, 629, 369]] #[{ accessFlags := 0, nameIndex := 9, descriptorIndex := 10, attributes := #[] }, { accessFlags := 8, nameIndex := 261, descriptorIndex := 262, attributes := #[] }, { accessFlags := 9, nameIndex := 117, descriptorIndex := 122, attributes := #[] }, { accessFlags := 9, nameIndex := 117, descriptorIndex := 118, attributes := #[] }] 48 6 #[] #[{ accessFlags := 26, nameIndex := 61, descriptorIndex := 62, attributes := #[] }, { accessFlags := 26, nameIndex := 65, descriptorIndex := 62, attributes := #[] }, { accessFlags := 24, nameIndex := 430, descriptorIndex := 62, attributes := #[] }, { accessFlags := 4120, nameIndex := 46, descriptorIndex := 47, attributes := #[] }])
  fields := #[{ name := "HI_BYTE_SHIFT", type := .int, accessFlags := 26, slot := 0, constantValue := 0 }, { name := "LO_BYTE_SHIFT", type := .int, accessFlags := 26, slot := 1, constantValue := 0 }, { name := "MAX_LENGTH", type := .int, accessFlags := 24, slot := 2, constantValue := 0 }, { name := "$assertionsDisabled", type := .boolean, accessFlags := 4120, slot := 3, constantValue := 0 }]
  methods := #[k10m0, k10m1, k10m2, k10m3]
  instanceTypes := #[]
  staticTypes := #[.int, .int, .int, .boolean]
  resolved := Array.replicate 635 none
  statics := none }

def pool11 : Array CpInfo := pool [(1, .class_ 2), (0, u "java/lang/String"), (1, .class_ 6), (1, u "java/lang/Object"), (0, u "<init>"), (0, u "()V"), (0, .methodref 1 10), (0, .nameAndType 11 12), (0, u "checkIndex"), (0, u "(II)V"), (1, .class_ 16), (1, u "java/lang/StringLatin1"), (36, u "([BI)C"), (67, u "$assertionsDisabled"), (0, u "Z"), (98, .class_ 223), (1, u "java/lang/StringLatin1$LinesSpliterator"), (28, u "charAt"), (28, u "equals"), (0, u "([B[B)Z"), (107, .class_ 391), (0, u "java/lang/StringLatin1$CharsSpliterator")] 3

def k11m0 : Method := { name := "<init>", desc := "()V", sig := { parameters := [], returnType := none }, accessFlags := 0, code := none }
def k11c1 : Code := { maxStack := 2, maxLocals := 2, code := jdk_43_method_2_code, exceptionTable := #[], attributes := #[] }
def k11m1 : Method := { name := "charAt", desc := "([BI)C", sig := { parameters := [(.array .byte), .int], returnType := some .char }, accessFlags := 9, code := some k11c1 }
def k11c2 : Code := { maxStack := 3, maxLocals := 3, code := jdk_43_method_13_code, exceptionTable := #[], attributes := #[] }
def k11m2 : Method := { name := "equals", desc := "([B[B)Z", sig := { parameters := [(.array .byte), (.array .byte)], returnType := some .boolean }, accessFlags := 9, code := some k11c2 }
/-- java/lang/StringLatin1 -/
def k11 : Class := { plain "java/lang/StringLatin1" (some 0) with
  accessFlags := 48
  interfaces := #[]
  cf := some (fileOf pool11 14 #[.nestMembers #[390, 221]] #[{ accessFlags := 0, nameIndex := 7, descriptorIndex := 8, attributes := #[] }, { accessFlags := 9, nameIndex := 252, descriptorIndex := 53, attributes := #[] }, { accessFlags := 9, nameIndex := 281, descriptorIndex := 282, attributes := #[] }] 48 4 #[] #[{ accessFlags := 4120, nameIndex := 121, descriptorIndex := 122, attributes := #[] }])
  fields := #[{ name := "$assertionsDisabled", type := .boolean, accessFlags := 4120, slot := 0, constantValue := 0 }]
  methods := #[k11m0, k11m1, k11m2]
  instanceTypes := #[]
  staticTypes := #[.boolean]
  resolved := Array.replicate 395 none
  statics := none }

def pool12 : Array CpInfo := pool [(2, .class_ 4), (1, u "java/lang/Object"), (0, u "<init>"), (0, u "()V"), (17, .class_ 26), (1, u "jdk/internal/util/Preconditions"), (6, u "checkIndex"), (21, .class_ 56), (0, u "jdk/internal/util/Preconditions$4"), (57, .class_ 115), (0, u "jdk/internal/util/Preconditions$1"), (7, u "SIOOBE_FORMATTER"), (0, u "Ljava/util/function/BiFunction;"), (0, .class_ 126), (0, u "jdk/internal/util/Preconditions$2"), (3, u "AIOOBE_FORMATTER"), (0, .class_ 132), (0, u "jdk/internal/util/Preconditions$3"), (3, u "IOOBE_FORMATTER"), (41, u "(IILjava/util/function/BiFunction;)I")] 15

def k12m0 : Method := { name := "<init>", desc := "()V", sig := { parameters := [], returnType := none }, accessFlags := 1, code := none }
def k12c1 : Code := { maxStack := 3, maxLocals := 3, code := jdk_41_method_11_code, exceptionTable := #[], attributes := #[] }
def k12m1 : Method := { name := "checkIndex", desc := "(IILjava/util/function/BiFunction;)I", sig := { parameters := [.int, .int, (.object "java/util/function/BiFunction")], returnType := some .int }, accessFlags := 9, code := some k12c1 }
/-- jdk/internal/util/Preconditions -/
def k12 : Class := { plain "jdk/internal/util/Preconditions" (some 0) with
  accessFlags := 33
  interfaces := #[]
  cf := some (fileOf pool12 24 #[.nestMembers #[55, 131, 125, 114]] #[{ accessFlags := 1, nameIndex := 5, descriptorIndex := 6, attributes := #[] }, { accessFlags := 9, nameIndex := 33, descriptorIndex := 178, attributes := #[] }] 33 2 #[] #[{ accessFlags := 25, nameIndex := 123, descriptorIndex := 124, attributes := #[] }, { accessFlags := 25, nameIndex := 130, descriptorIndex := 124, attributes := #[] }, { accessFlags := 25, nameIndex := 136, descriptorIndex := 124, attributes := #[] }])
  fields := #[{ name := "SIOOBE_FORMATTER", type := (.object "java/util/function/BiFunction"), accessFlags := 25, slot := 0, constantValue := 0 }, { name := "AIOOBE_FORMATTER", type := (.object "java/util/function/BiFunction"), accessFlags := 25, slot := 1, constantValue := 0 }, { name := "IOOBE_FORMATTER", type := (.object "java/util/function/BiFunction"), accessFlags := 25, slot := 2, constantValue := 0 }]
  methods := #[k12m0, k12m1]
  instanceTypes := #[]
  staticTypes := #[(.object "java/util/function/BiFunction"), (.object "java/util/function/BiFunction"), (.object "java/util/function/BiFunction")]
  resolved := Array.replicate 194 none
  statics := some 1 }

def pool13 : Array CpInfo := pool [(9, u "<init>"), (6, .class_ 18), (1, u "java/lang/Object"), (0, u "()V"), (1, .class_ 23), (1, u "jdk/internal/util/ArraysSupport"), (0, u "LOG2_ARRAY_LONG_INDEX_SCALE"), (0, u "I"), (2, u "U"), (0, u "Ljdk/internal/misc/Unsafe;"), (8, u "BIG_ENDIAN"), (0, u "Z"), (8, u "LOG2_BYTE_BIT_SIZE"), (4, u "LOG2_ARRAY_INT_INDEX_SCALE"), (54, u "JLA"), (0, u "Ljdk/internal/access/JavaLangAccess;"), (11, u "LOG2_ARRAY_BOOLEAN_INDEX_SCALE"), (9, u "LOG2_ARRAY_BYTE_INDEX_SCALE"), (5, u "LOG2_ARRAY_CHAR_INDEX_SCALE"), (5, u "LOG2_ARRAY_SHORT_INDEX_SCALE"), (18, u "LOG2_ARRAY_FLOAT_INDEX_SCALE"), (24, u "LOG2_ARRAY_DOUBLE_INDEX_SCALE"), (89, u "T_BOOLEAN"), (2, u "T_CHAR"), (1, u "T_FLOAT"), (1, u "T_DOUBLE"), (1, u "T_BYTE"), (1, u "T_SHORT"), (1, u "T_INT"), (1, u "T_LONG"), (1, u "SOFT_MAX_ARRAY_LENGTH")] 83

def k13m0 : Method := { name := "<init>", desc := "()V", sig := { parameters := [], returnType := none }, accessFlags := 2, code := none }
/-- jdk/internal/util/ArraysSupport -/
def k13 : Class := { plain "jdk/internal/util/ArraysSupport" (some 0) with
  accessFlags := 33
  interfaces := #[]
  cf := some (fileOf pool13 21 #[] #[{ accessFlags := 2, nameIndex := 9, descriptorIndex := 19, attributes := #[] }] 33 16 #[] #[{ accessFlags := 24, nameIndex := 28, descriptorIndex := 29, attributes := #[] }, { accessFlags := 26, nameIndex := 38, descriptorIndex := 39, attributes := #[] }, { accessFlags := 25, nameIndex := 121, descriptorIndex := 25, attributes := #[] }, { accessFlags := 25, nameIndex := 131, descriptorIndex := 25, attributes := #[] }, { accessFlags := 25, nameIndex := 137, descriptorIndex := 25, attributes := #[] }, { accessFlags := 25, nameIndex := 143, descriptorIndex := 25, attributes := #[] }, { accessFlags := 25, nameIndex := 53, descriptorIndex := 25, attributes := #[] }, { accessFlags := 25, nameIndex := 24, descriptorIndex := 25, attributes := #[] }, { accessFlags := 25, nameIndex := 162, descriptorIndex := 25, attributes := #[] }, { accessFlags := 25, nameIndex := 187, descriptorIndex := 25, attributes := #[] }, { accessFlags := 26, nameIndex := 48, descriptorIndex := 25, attributes := #[] }, { accessFlags := 25, nameIndex := 277, descriptorIndex := 25, attributes := #[] }, { accessFlags := 25, nameIndex := 280, descriptorIndex := 25, attributes := #[] }, { accessFlags := 25, nameIndex := 282, descriptorIndex := 25, attributes := #[] }, { accessFlags := 25, nameIndex := 284, descriptorIndex := 25, attributes := #[] }, { accessFlags := 25, nameIndex := 286, descriptorIndex := 25, attributes := #[] }, { accessFlags := 25, nameIndex := 288, descriptorIndex := 25, attributes := #[] }, { accessFlags := 25, nameIndex := 290, descriptorIndex := 25, attributes := #[] }, { accessFlags := 25, nameIndex := 292, descriptorIndex := 25, attributes := #[] }, { accessFlags := 26, nameIndex := 108, descriptorIndex := 109, attributes := #[] }, { accessFlags := 25, nameIndex := 294, descriptorIndex := 25, attributes := #[] }])
  fields := #[{ name := "U", type := (.object "jdk/internal/misc/Unsafe"), accessFlags := 24, slot := 0, constantValue := 0 }, { name := "BIG_ENDIAN", type := .boolean, accessFlags := 26, slot := 1, constantValue := 0 }, { name := "LOG2_ARRAY_BOOLEAN_INDEX_SCALE", type := .int, accessFlags := 25, slot := 2, constantValue := 0 }, { name := "LOG2_ARRAY_BYTE_INDEX_SCALE", type := .int, accessFlags := 25, slot := 3, constantValue := 0 }, { name := "LOG2_ARRAY_CHAR_INDEX_SCALE", type := .int, accessFlags := 25, slot := 4, constantValue := 0 }, { name := "LOG2_ARRAY_SHORT_INDEX_SCALE", type := .int, accessFlags := 25, slot := 5, constantValue := 0 }, { name := "LOG2_ARRAY_INT_INDEX_SCALE", type := .int, accessFlags := 25, slot := 6, constantValue := 0 }, { name := "LOG2_ARRAY_LONG_INDEX_SCALE", type := .int, accessFlags := 25, slot := 7, constantValue := 0 }, { name := "LOG2_ARRAY_FLOAT_INDEX_SCALE", type := .int, accessFlags := 25, slot := 8, constantValue := 0 }, { name := "LOG2_ARRAY_DOUBLE_INDEX_SCALE", type := .int, accessFlags := 25, slot := 9, constantValue := 0 }, { name := "LOG2_BYTE_BIT_SIZE", type := .int, accessFlags := 26, slot := 10, constantValue := 0 }, { name := "T_BOOLEAN", type := .int, accessFlags := 25, slot := 11, constantValue := 0 }, { name := "T_CHAR", type := .int, accessFlags := 25, slot := 12, constantValue := 0 }, { name := "T_FLOAT", type := .int, accessFlags := 25, slot := 13, constantValue := 0 }, { name := "T_DOUBLE", type := .int, accessFlags := 25, slot := 14, constantValue := 0 }, { name := "T_BYTE", type := .int, accessFlags := 25, slot := 15, constantValue := 0 }, { name := "T_SHORT", type := .int, accessFlags := 25, slot := 16, constantValue := 0 }, { name := "T_INT", type := .int, accessFlags := 25, slot := 17, constantValue := 0 }, { name := "T_LONG", type := .int, accessFlags := 25, slot := 18, constantValue := 0 }, { name := "JLA", type := (.object "jdk/internal/access/JavaLangAccess"), accessFlags := 26, slot := 19, constantValue := 0 }, { name := "SOFT_MAX_ARRAY_LENGTH", type := .int, accessFlags := 25, slot := 20, constantValue := 0 }]
  methods := #[k13m0]
  instanceTypes := #[]
  staticTypes := #[(.object "jdk/internal/misc/Unsafe"), .boolean, .int, .int, .int, .int, .int, .int, .int, .int, .int, .int, .int, .int, .int, .int, .int, .int, .int, (.object "jdk/internal/access/JavaLangAccess"), .int]
  resolved := Array.replicate 378 none
  statics := none }

def pool14 : Array CpInfo := pool [(1, u "java/lang/Cloneable"), (0, .class_ 1), (0, u "java/lang/Object"), (0, .class_ 3)] 3

/-- java/lang/Cloneable -/
def k14 : Class := { plain "java/lang/Cloneable" (some 0) with
  accessFlags := 1537
  interfaces := #[]
  cf := some (fileOf pool14 2 #[] #[] 1537 4 #[] #[])
  fields := #[]
  methods := #[]
  instanceTypes := #[]
  staticTypes := #[]
  resolved := Array.replicate 8 none
  statics := none }

/-- the primitive byte -/
def k15 : Class := { plain "byte" none with kind := .primitive 'B', accessFlags := 0x411 }
/-- [B -/
def k16 : Class := { plain "[B" (some 0) with kind := .array 15 .byte, interfaces := #[14, 2], accessFlags := 1041 }

/-- the primitive char -/
def k17 : Class := { plain "char" none with kind := .primitive 'C', accessFlags := 0x411 }
/-- [C -/
def k18 : Class := { plain "[C" (some 0) with kind := .array 17 .char, interfaces := #[14, 2], accessFlags := 1041 }

/-- the primitive int -/
def k19 : Class := { plain "int" none with kind := .primitive 'I', accessFlags := 0x411 }
/-- [I -/
def k20 : Class := { plain "[I" (some 0) with kind := .array 19 .int, interfaces := #[14, 2], accessFlags := 1041 }

def heap : Heap := #[{ cls := 7, slots := #[.long 0, .int 1, .null, .int 0, .null, .int 0, .int 0], vm := .statics 7 },
  { cls := 12, slots := #[.null, .null, .null], vm := .statics 12 }]
def classes : Array Class := #[k0, k1, k2, k3, k4, k5, k6, k7, k8, k9, k10, k11, k12, k13, k14, k15, k16, k17, k18, k19, k20]
def interned : List (Array UInt16 × Addr) := []
def slotsUsed : Nat := 10
def theMethod : MethodId := ⟨1, 4⟩
def args0 : Array Value := #[.int 1, .int 2, .int 3, .int 4, .int 5]
def aboutOver (below : List Frame) : State where
  vm := { classes := classes, interned := interned.toArray }
  heap := heap
  slotsUsed := slotsUsed
  threads := #[{ frames := .invoking theMethod args0 :: below }]
def below0 : List Frame := [.native { method := ⟨0, 0⟩, args := #[] }]
def about1 : State := aboutOver below0
def p0 : Program := .bare "" "" ""
def e0 : Env := launch0.env 0 0 0
theorem w_frames : about1.frames = Frame.invoking theMethod args0 :: below0 := rfl
set_option maxRecDepth 65536 in
theorem w_args : argsFit about1.vm theMethod args0 = true := by decide +kernel
set_option maxRecDepth 65536 in
theorem w_heap : heapFits about1 = true := by decide +kernel
set_option maxRecDepth 65536 in
theorem w_runnable : about1.curStatus? = some .runnable := by decide +kernel
set_option maxRecDepth 65536 in
theorem w_alone : about1.alone = true := by decide +kernel
set_option maxRecDepth 65536 in
theorem w_named : about1.methodNamed? x = some theMethod := by decide +kernel
set_option maxRecDepth 65536 in
theorem w_hears : about1.hears theMethod below0 = true := by decide +kernel
set_option maxRecDepth 65536 in
theorem w_ripe : about1.ripe theMethod args0 below0 = true := by decide +kernel
theorem w_running : about1.status = .running := rfl
set_option maxRecDepth 65536 in
theorem w_room : about1.hasRoom e0.platform room_1 = true :=
  launch0.hasRoom_least _ room_1 (by decide +kernel) (by decide +kernel) (by decide +kernel) (by decide +kernel) (by decide +kernel) (by decide +kernel)
theorem allAtoms_all (ts : List Jvm.Cond) (a : Array Jvm.Value) (st : Jvm.State) : (allAtoms ts).before a st = ts.all (fun c => c.before a st) := by
  induction ts with
  | nil => rfl
  | cons c t ih =>
    show (Jvm.Cond.and c (allAtoms t)).before a st = _
    rw [Jvm.Cond.before_and, ih, List.all_cons]
def words1 : List Jvm.Cond := Jvm.Cond.code x code maxLocals ret :: tables_1
/-- a 'code' word, met by the world's own term for the bytes: nothing is compared byte by byte -/
theorem code_word {y : MethodName} {bytes : ByteArray} {mx : Nat} {rt : Option FieldType} {a : Array Value} {s : State} {m : MethodId} {meth : Method} {c : Code} (h1 : s.methodNamed? y = some m) (h2 : s.vm.method? m = some meth) (h3 : meth.code = some c) (h4 : c.code = bytes)
    (h5 : (c.maxLocals == mx && c.exceptionTable.isEmpty && decide (c.maxStack ≤ mostOperands) && decide (meth.sig.returnType = rt) && !meth.locks && decide (parseMethodDescriptor y.desc = some meth.sig)) = true) : (Jvm.Cond.code y bytes mx rt).before a s = true := by
  simp only [Bool.and_eq_true, beq_iff_eq, Bool.not_eq_true', decide_eq_true_eq] at h5
  obtain ⟨⟨⟨⟨⟨g1, g2⟩, g3⟩, g4⟩, g5⟩, g6⟩ := h5
  simp [Cond.before, Cond.holds, Cond.value, h1, h2, h3, h4, g1, g2, g3, g4, g5, g6]
def isCode : Jvm.Cond → Bool
  | .code _ _ _ _ => true
  | _ => false
theorem all_split {L : List Jvm.Cond} {P : Jvm.Cond → Bool} (h1 : L.all (fun c => isCode c || P c) = true) (h2 : ∀ c ∈ L.filter isCode, P c = true) : L.all P = true := by
  refine List.all_eq_true.mpr fun c hc => ?_
  have h := List.all_eq_true.mp h1 c hc
  rcases Bool.eq_false_or_eq_true (isCode c) with hi | hi
  · exact h2 c (List.mem_filter.mpr ⟨hc, hi⟩)
  · simpa [hi] using h
set_option maxRecDepth 65536 in
theorem w_c0 : (Jvm.Cond.code x code maxLocals ret).before args0 about1 = true := code_word (m := ⟨1, 4⟩) (meth := k1m4) (c := k1c4) (by decide +kernel) rfl rfl rfl (by decide +kernel)
set_option maxRecDepth 65536 in
theorem w_c1 : (Jvm.Cond.code ({ cls := "com/example/andersite/andersite/result/CallEdgeEqualsPinLaw", name := "str", desc := "(I)Ljava/lang/String;" } : Jvm.MethodName) method_3_code (3 : Nat) (Option.some (Jvm.ClassFile.FieldType.object "java/lang/String"))).before args0 about1 = true := code_word (m := ⟨1, 2⟩) (meth := k1m2) (c := k1c2) (by decide +kernel) rfl rfl rfl (by decide +kernel)
set_option maxRecDepth 65536 in
theorem w_c2 : (Jvm.Cond.code ({ cls := "java/lang/String", name := "<init>", desc := "([C)V" } : Jvm.MethodName) jdk_42_method_3_code (2 : Nat) (Option.none : Option Jvm.ClassFile.FieldType)).before args0 about1 = true := code_word (m := ⟨7, 1⟩) (meth := k7m1) (c := k7c1) (by decide +kernel) rfl rfl rfl (by decide +kernel)
set_option maxRecDepth 65536 in
theorem w_c3 : (Jvm.Cond.code ({ cls := "java/lang/String", name := "<init>", desc := "([CIILjava/lang/Void;)V" } : Jvm.MethodName) jdk_42_method_149_code (6 : Nat) (Option.none : Option Jvm.ClassFile.FieldType)).before args0 about1 = true := code_word (m := ⟨7, 5⟩) (meth := k7m5) (c := k7c5) (by decide +kernel) rfl rfl rfl (by decide +kernel)
set_option maxRecDepth 65536 in
theorem w_c4 : (Jvm.Cond.code ({ cls := "java/lang/Object", name := "<init>", desc := "()V" } : Jvm.MethodName) object_method_1_code (1 : Nat) (Option.none : Option Jvm.ClassFile.FieldType)).before args0 about1 = true := code_word (m := ⟨0, 0⟩) (meth := k0m0) (c := k0c0) (by decide +kernel) rfl rfl rfl (by decide +kernel)
set_option maxRecDepth 65536 in
theorem w_c5 : (Jvm.Cond.code ({ cls := "com/example/andersite/andersite/result/CallEdge", name := "<init>", desc := "(Ljava/lang/String;Ljava/lang/String;)V" } : Jvm.MethodName) prog_58_method_1_code (3 : Nat) (Option.none : Option Jvm.ClassFile.FieldType)).before args0 about1 = true := code_word (m := ⟨8, 0⟩) (meth := k8m0) (c := k8c0) (by decide +kernel) rfl rfl rfl (by decide +kernel)
set_option maxRecDepth 65536 in
theorem w_c6 : (Jvm.Cond.code ({ cls := "java/util/Objects", name := "requireNonNull", desc := "(Ljava/lang/Object;Ljava/lang/String;)Ljava/lang/Object;" } : Jvm.MethodName) jdk_31_method_11_code (2 : Nat) (Option.some (Jvm.ClassFile.FieldType.object "java/lang/Object"))).before args0 about1 = true := code_word (m := ⟨9, 1⟩) (meth := k9m1) (c := k9c1) (by decide +kernel) rfl rfl rfl (by decide +kernel)
set_option maxRecDepth 65536 in
theorem w_c7 : (Jvm.Cond.code ({ cls := "com/example/andersite/andersite/result/CallEdgeEqualsPinLaw", name := "ch", desc := "(I)C" } : Jvm.MethodName) method_2_code (1 : Nat) (Option.some Jvm.ClassFile.FieldType.char)).before args0 about1 = true := code_word (m := ⟨1, 1⟩) (meth := k1m1) (c := k1c1) (by decide +kernel) rfl rfl rfl (by decide +kernel)
set_option maxRecDepth 65536 in
theorem w_c8 : (Jvm.Cond.code ({ cls := "java/lang/StringUTF16", name := "compress", desc := "([CII)[B" } : Jvm.MethodName) jdk_52_method_16_code (6 : Nat) (Option.some (Jvm.ClassFile.FieldType.array Jvm.ClassFile.FieldType.byte))).before args0 about1 = true := code_word (m := ⟨10, 2⟩) (meth := k10m2) (c := k10c2) (by decide +kernel) rfl rfl rfl (by decide +kernel)
set_option maxRecDepth 65536 in
theorem w_c9 : (Jvm.Cond.code ({ cls := "java/lang/StringUTF16", name := "compress", desc := "([CI[BII)I" } : Jvm.MethodName) jdk_52_method_21_code (7 : Nat) (Option.some Jvm.ClassFile.FieldType.int)).before args0 about1 = true := code_word (m := ⟨10, 3⟩) (meth := k10m3) (c := k10c3) (by decide +kernel) rfl rfl rfl (by decide +kernel)
set_option maxRecDepth 65536 in
theorem w_c10 : (Jvm.Cond.code ({ cls := "java/lang/StringUTF16", name := "coderFromArrayLen", desc := "([BI)B" } : Jvm.MethodName) jdk_52_method_15_code (2 : Nat) (Option.some Jvm.ClassFile.FieldType.byte)).before args0 about1 = true := code_word (m := ⟨10, 1⟩) (meth := k10m1) (c := k10c1) (by decide +kernel) rfl rfl rfl (by decide +kernel)
set_option maxRecDepth 65536 in
theorem w_c11 : (Jvm.Cond.code ({ cls := "com/example/andersite/andersite/result/CallEdgeEqualsPinLaw", name := "same", desc := "(Ljava/lang/String;Ljava/lang/String;)Z" } : Jvm.MethodName) method_4_code (3 : Nat) (Option.some Jvm.ClassFile.FieldType.boolean)).before args0 about1 = true := code_word (m := ⟨1, 3⟩) (meth := k1m3) (c := k1c3) (by decide +kernel) rfl rfl rfl (by decide +kernel)
set_option maxRecDepth 65536 in
theorem w_c12 : (Jvm.Cond.code ({ cls := "java/lang/String", name := "length", desc := "()I" } : Jvm.MethodName) jdk_42_method_54_code (1 : Nat) (Option.some Jvm.ClassFile.FieldType.int)).before args0 about1 = true := code_word (m := ⟨7, 2⟩) (meth := k7m2) (c := k7c2) (by decide +kernel) rfl rfl rfl (by decide +kernel)
set_option maxRecDepth 65536 in
theorem w_c13 : (Jvm.Cond.code ({ cls := "java/lang/String", name := "coder", desc := "()B" } : Jvm.MethodName) jdk_42_method_152_code (1 : Nat) (Option.some Jvm.ClassFile.FieldType.byte)).before args0 about1 = true := code_word (m := ⟨7, 6⟩) (meth := k7m6) (c := k7c6) (by decide +kernel) rfl rfl rfl (by decide +kernel)
set_option maxRecDepth 65536 in
theorem w_c14 : (Jvm.Cond.code ({ cls := "com/example/andersite/andersite/result/CallEdge", name := "equals", desc := "(Ljava/lang/Object;)Z" } : Jvm.MethodName) prog_58_method_4_code (3 : Nat) (Option.some Jvm.ClassFile.FieldType.boolean)).before args0 about1 = true := code_word (m := ⟨8, 1⟩) (meth := k8m1) (c := k8c1) (by decide +kernel) rfl rfl rfl (by decide +kernel)
set_option maxRecDepth 65536 in
theorem w_c15 : (Jvm.Cond.code ({ cls := "java/lang/String", name := "equals", desc := "(Ljava/lang/Object;)Z" } : Jvm.MethodName) jdk_42_method_66_code (3 : Nat) (Option.some Jvm.ClassFile.FieldType.boolean)).before args0 about1 = true := code_word (m := ⟨7, 4⟩) (meth := k7m4) (c := k7c4) (by decide +kernel) rfl rfl rfl (by decide +kernel)
set_option maxRecDepth 65536 in
theorem w_c16 : (Jvm.Cond.code ({ cls := "java/lang/StringLatin1", name := "equals", desc := "([B[B)Z" } : Jvm.MethodName) jdk_43_method_13_code (3 : Nat) (Option.some Jvm.ClassFile.FieldType.boolean)).before args0 about1 = true := code_word (m := ⟨11, 2⟩) (meth := k11m2) (c := k11c2) (by decide +kernel) rfl rfl rfl (by decide +kernel)
set_option maxRecDepth 65536 in
theorem w_c17 : (Jvm.Cond.code ({ cls := "java/lang/String", name := "charAt", desc := "(I)C" } : Jvm.MethodName) jdk_42_method_56_code (2 : Nat) (Option.some Jvm.ClassFile.FieldType.char)).before args0 about1 = true := code_word (m := ⟨7, 3⟩) (meth := k7m3) (c := k7c3) (by decide +kernel) rfl rfl rfl (by decide +kernel)
set_option maxRecDepth 65536 in
theorem w_c18 : (Jvm.Cond.code ({ cls := "java/lang/String", name := "isLatin1", desc := "()Z" } : Jvm.MethodName) jdk_42_method_154_code (1 : Nat) (Option.some Jvm.ClassFile.FieldType.boolean)).before args0 about1 = true := code_word (m := ⟨7, 7⟩) (meth := k7m7) (c := k7c7) (by decide +kernel) rfl rfl rfl (by decide +kernel)
set_option maxRecDepth 65536 in
theorem w_c19 : (Jvm.Cond.code ({ cls := "java/lang/StringLatin1", name := "charAt", desc := "([BI)C" } : Jvm.MethodName) jdk_43_method_2_code (2 : Nat) (Option.some Jvm.ClassFile.FieldType.char)).before args0 about1 = true := code_word (m := ⟨11, 1⟩) (meth := k11m1) (c := k11c1) (by decide +kernel) rfl rfl rfl (by decide +kernel)
set_option maxRecDepth 65536 in
theorem w_c20 : (Jvm.Cond.code ({ cls := "java/lang/String", name := "checkIndex", desc := "(II)V" } : Jvm.MethodName) jdk_42_method_155_code (2 : Nat) (Option.none : Option Jvm.ClassFile.FieldType)).before args0 about1 = true := code_word (m := ⟨7, 8⟩) (meth := k7m8) (c := k7c8) (by decide +kernel) rfl rfl rfl (by decide +kernel)
set_option maxRecDepth 65536 in
theorem w_c21 : (Jvm.Cond.code ({ cls := "jdk/internal/util/Preconditions", name := "checkIndex", desc := "(IILjava/util/function/BiFunction;)I" } : Jvm.MethodName) jdk_41_method_11_code (3 : Nat) (Option.some Jvm.ClassFile.FieldType.int)).before args0 about1 = true := code_word (m := ⟨12, 1⟩) (meth := k12m1) (c := k12c1) (by decide +kernel) rfl rfl rfl (by decide +kernel)
def codes1 : List Jvm.Cond := [Jvm.Cond.code x code maxLocals ret, Jvm.Cond.code ({ cls := "com/example/andersite/andersite/result/CallEdgeEqualsPinLaw", name := "str", desc := "(I)Ljava/lang/String;" } : Jvm.MethodName) method_3_code (3 : Nat) (Option.some (Jvm.ClassFile.FieldType.object "java/lang/String")), Jvm.Cond.code ({ cls := "java/lang/String", name := "<init>", desc := "([C)V" } : Jvm.MethodName) jdk_42_method_3_code (2 : Nat) (Option.none : Option Jvm.ClassFile.FieldType), Jvm.Cond.code ({ cls := "java/lang/String", name := "<init>", desc := "([CIILjava/lang/Void;)V" } : Jvm.MethodName) jdk_42_method_149_code (6 : Nat) (Option.none : Option Jvm.ClassFile.FieldType), Jvm.Cond.code ({ cls := "java/lang/Object", name := "<init>", desc := "()V" } : Jvm.MethodName) object_method_1_code (1 : Nat) (Option.none : Option Jvm.ClassFile.FieldType), Jvm.Cond.code ({ cls := "com/example/andersite/andersite/result/CallEdge", name := "<init>", desc := "(Ljava/lang/String;Ljava/lang/String;)V" } : Jvm.MethodName) prog_58_method_1_code (3 : Nat) (Option.none : Option Jvm.ClassFile.FieldType), Jvm.Cond.code ({ cls := "java/util/Objects", name := "requireNonNull", desc := "(Ljava/lang/Object;Ljava/lang/String;)Ljava/lang/Object;" } : Jvm.MethodName) jdk_31_method_11_code (2 : Nat) (Option.some (Jvm.ClassFile.FieldType.object "java/lang/Object")), Jvm.Cond.code ({ cls := "com/example/andersite/andersite/result/CallEdgeEqualsPinLaw", name := "ch", desc := "(I)C" } : Jvm.MethodName) method_2_code (1 : Nat) (Option.some Jvm.ClassFile.FieldType.char), Jvm.Cond.code ({ cls := "java/lang/StringUTF16", name := "compress", desc := "([CII)[B" } : Jvm.MethodName) jdk_52_method_16_code (6 : Nat) (Option.some (Jvm.ClassFile.FieldType.array Jvm.ClassFile.FieldType.byte)), Jvm.Cond.code ({ cls := "java/lang/StringUTF16", name := "compress", desc := "([CI[BII)I" } : Jvm.MethodName) jdk_52_method_21_code (7 : Nat) (Option.some Jvm.ClassFile.FieldType.int), Jvm.Cond.code ({ cls := "java/lang/StringUTF16", name := "coderFromArrayLen", desc := "([BI)B" } : Jvm.MethodName) jdk_52_method_15_code (2 : Nat) (Option.some Jvm.ClassFile.FieldType.byte), Jvm.Cond.code ({ cls := "com/example/andersite/andersite/result/CallEdgeEqualsPinLaw", name := "same", desc := "(Ljava/lang/String;Ljava/lang/String;)Z" } : Jvm.MethodName) method_4_code (3 : Nat) (Option.some Jvm.ClassFile.FieldType.boolean), Jvm.Cond.code ({ cls := "java/lang/String", name := "length", desc := "()I" } : Jvm.MethodName) jdk_42_method_54_code (1 : Nat) (Option.some Jvm.ClassFile.FieldType.int), Jvm.Cond.code ({ cls := "java/lang/String", name := "coder", desc := "()B" } : Jvm.MethodName) jdk_42_method_152_code (1 : Nat) (Option.some Jvm.ClassFile.FieldType.byte), Jvm.Cond.code ({ cls := "com/example/andersite/andersite/result/CallEdge", name := "equals", desc := "(Ljava/lang/Object;)Z" } : Jvm.MethodName) prog_58_method_4_code (3 : Nat) (Option.some Jvm.ClassFile.FieldType.boolean), Jvm.Cond.code ({ cls := "java/lang/String", name := "equals", desc := "(Ljava/lang/Object;)Z" } : Jvm.MethodName) jdk_42_method_66_code (3 : Nat) (Option.some Jvm.ClassFile.FieldType.boolean), Jvm.Cond.code ({ cls := "java/lang/StringLatin1", name := "equals", desc := "([B[B)Z" } : Jvm.MethodName) jdk_43_method_13_code (3 : Nat) (Option.some Jvm.ClassFile.FieldType.boolean), Jvm.Cond.code ({ cls := "java/lang/String", name := "charAt", desc := "(I)C" } : Jvm.MethodName) jdk_42_method_56_code (2 : Nat) (Option.some Jvm.ClassFile.FieldType.char), Jvm.Cond.code ({ cls := "java/lang/String", name := "isLatin1", desc := "()Z" } : Jvm.MethodName) jdk_42_method_154_code (1 : Nat) (Option.some Jvm.ClassFile.FieldType.boolean), Jvm.Cond.code ({ cls := "java/lang/StringLatin1", name := "charAt", desc := "([BI)C" } : Jvm.MethodName) jdk_43_method_2_code (2 : Nat) (Option.some Jvm.ClassFile.FieldType.char), Jvm.Cond.code ({ cls := "java/lang/String", name := "checkIndex", desc := "(II)V" } : Jvm.MethodName) jdk_42_method_155_code (2 : Nat) (Option.none : Option Jvm.ClassFile.FieldType), Jvm.Cond.code ({ cls := "jdk/internal/util/Preconditions", name := "checkIndex", desc := "(IILjava/util/function/BiFunction;)I" } : Jvm.MethodName) jdk_41_method_11_code (3 : Nat) (Option.some Jvm.ClassFile.FieldType.int)]
set_option maxRecDepth 65536 in
theorem codes_eq : words1.filter isCode = codes1 := rfl
theorem w_codes : ∀ c ∈ words1.filter isCode, c.before args0 about1 = true := by
  rw [codes_eq]
  intro c hc
  simp only [codes1, List.mem_cons, List.not_mem_nil, or_false] at hc
  rcases hc with rfl | rfl | rfl | rfl | rfl | rfl | rfl | rfl | rfl | rfl | rfl | rfl | rfl | rfl | rfl | rfl | rfl | rfl | rfl | rfl | rfl | rfl
  · exact w_c0
  · exact w_c1
  · exact w_c2
  · exact w_c3
  · exact w_c4
  · exact w_c5
  · exact w_c6
  · exact w_c7
  · exact w_c8
  · exact w_c9
  · exact w_c10
  · exact w_c11
  · exact w_c12
  · exact w_c13
  · exact w_c14
  · exact w_c15
  · exact w_c16
  · exact w_c17
  · exact w_c18
  · exact w_c19
  · exact w_c20
  · exact w_c21
set_option maxRecDepth 65536 in
theorem w_t1 : (words1.take 24).all (fun c => isCode c || c.before args0 about1) = true := by decide +kernel
set_option maxRecDepth 65536 in
theorem w_t2 : ((words1.drop 24).take 24).all (fun c => isCode c || c.before args0 about1) = true := by decide +kernel
set_option maxRecDepth 65536 in
theorem w_t3 : (((words1.drop 24).drop 24).take 24).all (fun c => isCode c || c.before args0 about1) = true := by decide +kernel
set_option maxRecDepth 65536 in
theorem w_t4 : ((((words1.drop 24).drop 24).drop 24).take 24).all (fun c => isCode c || c.before args0 about1) = true := by decide +kernel
set_option maxRecDepth 65536 in
theorem w_t5 : ((((words1.drop 24).drop 24).drop 24).drop 24).all (fun c => isCode c || c.before args0 about1) = true := by decide +kernel
theorem w_tables : (allAtoms (Jvm.Cond.code x code maxLocals ret :: tables_1)).before args0 about1 = true := by
  rw [allAtoms_all]
  show words1.all (fun c => c.before args0 about1) = true
  refine all_split ?_ w_codes
  rw [← List.take_append_drop 24 words1, List.all_append, w_t1, ← List.take_append_drop 24 (words1.drop 24), List.all_append, w_t2, ← List.take_append_drop 24 ((words1.drop 24).drop 24), List.all_append, w_t3, ← List.take_append_drop 24 (((words1.drop 24).drop 24).drop 24), List.all_append, w_t4, w_t5]
  rfl
set_option maxRecDepth 65536 in
theorem w_rest : rest_1_c.before args0 about1 = true := by decide +kernel
set_option maxRecDepth 65536 in
theorem w_case : (Jvm.Cond.and given_1 narrow_1).before args0 about1 = true := by decide +kernel
set_option maxRecDepth 65536 in
theorem w_consts : constsHeld consts_1 about1 := Jvm.Lit.constsHeldB_iff.mp (by decide +kernel)
theorem w_applies : (headSpec (Jvm.Cond.code x code maxLocals ret :: tables_1) room_1).applies x e0.platform about1 = true :=
  (Spec.applies_iff w_frames).mpr ⟨w_running, w_runnable, w_alone, w_named, w_hears, w_ripe, w_room, w_tables⟩
theorem atStart : AtStart classFile x code maxLocals ret World_1 tables_1 room_1 Calls_1 rest_1 Pre_1 launch0 p0 e0 about1 theMethod args0 below0 :=
  ⟨lists_1, trivial, launch0.admits_env _ _ _, launch0.least_env, fairChoices_fair.cas, fairChoices_fair.clock, w_frames, w_args, w_heap, w_applies, ⟨w_consts, trivial⟩, w_rest, w_case⟩
end start1
theorem witness_1 : WitnessClaimed_1 := ⟨start1.p0, start1.e0, start1.about1, start1.theMethod, start1.args0, start1.below0, start1.atStart⟩
end Jvm.Pilot.@@N@@
